import PyProof.Rows.All
import Wide.All
import OpenK.AllK
import Wide.FinOn
import Lean
import PySem.Challenge.RW_nb0210_01
set_option Elab.async false
section
open PySem PySem.W PyProof.Rows
set_option maxRecDepth 100000
namespace Mine
noncomputable abbrev PR : Program := PySem.Challenge.rw_nb0210_01.row.prog
/-- the statement at a place of the text, and the parts of a def -/
def nthS : List Stmt → Nat → Stmt
  | [], _ => .Pass default
  | s :: _, 0 => s
  | _ :: r, n + 1 => nthS r n
def prmS : Stmt → Arguments | .FunctionDef _ a .. => a | _ => default
def bdyS : Stmt → List Stmt | .FunctionDef _ _ b .. => b | _ => []
def scpS : Stmt → Scope | .FunctionDef _ _ _ _ _ _ s .. => s | _ => default
noncomputable def prm (i : Nat) : Arguments := prmS (nthS PR.main.body i)
noncomputable def bdy (i : Nat) : List Stmt := bdyS (nthS PR.main.body i)
noncomputable def scp (i : Nat) : Scope := scpS (nthS PR.main.body i)
noncomputable def hd.view_39 : Program := view PR [0, 2, 3, 4, 5, 6, 7, 8, 9, 10, 11, 12, 13, 18, 19, 21, 26, 27, 29, 30, 31, 32, 33]
noncomputable abbrev LS : List Str := [Str.ofString "_twin_re_1", Str.ofString "_QUOPRI_MAP", Str.ofString "_QUOPRI_HEADER_MAP",
        Str.ofString "_QUOPRI_BODY_MAP", Str.ofString "ascii_letters", Str.ofString "hexdigits",
        Str.ofString "header_encode", Str.ofString "_QUOPRI_BODY_ENCODE_MAP", Str.ofString "body_encode",
        Str.ofString "decode"]
noncomputable def hd.heap_39 (P : Params) : Frag :=
  (nat_lit 2, Obj.mk Value.none none (Data.dict #[DictEntry.mk (PyData.keyHash P (Str.ofString "\x69mport.loaded._sre")) (Value.str (Str.ofString "\x69mport.loaded._sre") 183) (Value.bool true), DictEntry.mk (PyData.keyHash P (Str.ofString "class._frozen_importlib.BuiltinImporter")) (Value.str (Str.ofString "class._frozen_importlib.BuiltinImporter") 185) (Value.ref 14), DictEntry.mk (PyData.keyHash P (Str.ofString "watched.\x69mport")) (Value.str (Str.ofString "watched.\x69mport") 206) (Value.ref 18), DictEntry.mk (PyData.keyHash P (Str.ofString "class._frozen_importlib.ModuleSpec")) (Value.str (Str.ofString "class._frozen_importlib.ModuleSpec") 216) (Value.ref 22), DictEntry.mk (PyData.keyHash P (Str.ofString "sys.modules.booked-epoch")) (Value.str (Str.ofString "sys.modules.booked-epoch") 245) (Value.int 3 0), DictEntry.mk (PyData.keyHash P (Str.ofString "\x69mport.later-laid._sre")) (Value.str (Str.ofString "\x69mport.later-laid._sre") 270) (Value.bool true), DictEntry.mk (PyData.keyHash P (Str.ofString "watched.library")) (Value.str (Str.ofString "watched.library") 272) (Value.ref 27), DictEntry.mk (PyData.keyHash P (Str.ofString "watched.library-objects")) (Value.str (Str.ofString "watched.library-objects") 0) (Value.str (Str.ofString "\x0c") 0), DictEntry.mk (PyData.keyHash P (Str.ofString "watched.library-deep._sre")) (Value.str (Str.ofString "watched.library-deep._sre") 273) (Value.str (Str.ofString "\x04\x00\x00\x0b\x04\x00\x00\x0b\x04\x00\x00\x03\x04\x00\x00\x0b\x08\x04dict\x02") 0)] 9) #[]) ::
  (nat_lit 3, Obj.mk (Value.type "dict") none (Data.dict #[DictEntry.mk (PyData.keyHash P (Str.ofString "__name__")) (Value.str (Str.ofString "__name__") 165) (Value.str (Str.ofString "law_nb0210_01") 1955), DictEntry.mk (PyData.keyHash P (Str.ofString "__doc__")) (Value.str (Str.ofString "__doc__") 166) Value.none, DictEntry.mk (PyData.keyHash P (Str.ofString "__package__")) (Value.str (Str.ofString "__package__") 167) Value.none, DictEntry.mk (PyData.keyHash P (Str.ofString "__loader__")) (Value.str (Str.ofString "__loader__") 168) (Value.builtin "__main__.__loader__#opaque"), DictEntry.mk (PyData.keyHash P (Str.ofString "__spec__")) (Value.str (Str.ofString "__spec__") 169) Value.none, DictEntry.mk (PyData.keyHash P (Str.ofString "__annotations__")) (Value.str (Str.ofString "__annotations__") 170) (Value.ref 6), DictEntry.mk (PyData.keyHash P (Str.ofString "__builtins__")) (Value.str (Str.ofString "__builtins__") 171) (Value.ref 4), DictEntry.mk (PyData.keyHash P (Str.ofString "__file__")) (Value.str (Str.ofString "__file__") 173) (Value.str (Str.ofString "/claim/cut.py") 172), DictEntry.mk (PyData.keyHash P (Str.ofString "__cached__")) (Value.str (Str.ofString "__cached__") 174) Value.none, DictEntry.mk (PyData.keyHash P (Str.ofString "_sre")) (Value.str (Str.ofString "_sre") 275) (Value.ref 12), DictEntry.mk (PyData.keyHash P (Str.ofString "_strip_padding")) (Value.str (Str.ofString "_strip_padding") 293) (Value.ref 38), DictEntry.mk (PyData.keyHash P (Str.ofString "_twin_re_1")) (Value.str (Str.ofString "_twin_re_1") 328) (Value.ref 43), DictEntry.mk (PyData.keyHash P (Str.ofString "CRLF")) (Value.str (Str.ofString "CRLF") 330) (Value.str (Str.ofString "\x0d\n") 329), DictEntry.mk (PyData.keyHash P (Str.ofString "NL")) (Value.str (Str.ofString "NL") 332) (Value.str (Str.ofString "\n") 331), DictEntry.mk (PyData.keyHash P (Str.ofString "_QUOPRI_MAP")) (Value.str (Str.ofString "_QUOPRI_MAP") 1360) (Value.ref 46), DictEntry.mk (PyData.keyHash P (Str.ofString "_QUOPRI_HEADER_MAP")) (Value.str (Str.ofString "_QUOPRI_HEADER_MAP") 1361) (Value.ref 51), DictEntry.mk (PyData.keyHash P (Str.ofString "_QUOPRI_BODY_MAP")) (Value.str (Str.ofString "_QUOPRI_BODY_MAP") 1362) (Value.ref 53), DictEntry.mk (PyData.keyHash P (Str.ofString "ascii_lowercase")) (Value.str (Str.ofString "ascii_lowercase") 1364) (Value.str (Str.ofString "abcdefghijklmnopqrstuvwxyz") 1363), DictEntry.mk (PyData.keyHash P (Str.ofString "ascii_uppercase")) (Value.str (Str.ofString "ascii_uppercase") 1366) (Value.str (Str.ofString "ABCDEFGHIJKLMNOPQRSTUVWXYZ") 1365), DictEntry.mk (PyData.keyHash P (Str.ofString "ascii_letters")) (Value.str (Str.ofString "ascii_letters") 1368) (Value.str (Str.ofString "abcdefghijklmnopqrstuvwxyzABCDEFGHIJKLMNOPQRSTUVWXYZ") 1367), DictEntry.mk (PyData.keyHash P (Str.ofString "digits")) (Value.str (Str.ofString "digits") 1370) (Value.str (Str.ofString "0123456789") 1369), DictEntry.mk (PyData.keyHash P (Str.ofString "hexdigits")) (Value.str (Str.ofString "hexdigits") 1375) (Value.str (Str.ofString "0123456789abcdefABCDEF") 1374), DictEntry.mk (PyData.keyHash P (Str.ofString "unquote")) (Value.str (Str.ofString "unquote") 1881) (Value.ref 66), DictEntry.mk (PyData.keyHash P (Str.ofString "quote")) (Value.str (Str.ofString "quote") 1888) (Value.ref 73), DictEntry.mk (PyData.keyHash P (Str.ofString "header_encode")) (Value.str (Str.ofString "header_encode") 1898) (Value.ref 81), DictEntry.mk (PyData.keyHash P (Str.ofString "_QUOPRI_BODY_ENCODE_MAP")) (Value.str (Str.ofString "_QUOPRI_BODY_ENCODE_MAP") 1899) (Value.ref 83), DictEntry.mk (PyData.keyHash P (Str.ofString "body_encode")) (Value.str (Str.ofString "body_encode") 1926) (Value.ref 94), DictEntry.mk (PyData.keyHash P (Str.ofString "decode")) (Value.str (Str.ofString "decode") 1939) (Value.ref 102), DictEntry.mk (PyData.keyHash P (Str.ofString "_unquote_match")) (Value.str (Str.ofString "_unquote_match") 1947) (Value.ref 109), DictEntry.mk (PyData.keyHash P (Str.ofString "header_decode")) (Value.str (Str.ofString "header_decode") 1954) (Value.ref 116), DictEntry.mk (PyData.keyHash P (Str.ofString "_law_field")) (Value.str (Str.ofString "_law_field") 1962) (Value.ref 121), DictEntry.mk (PyData.keyHash P (Str.ofString "_law_left")) (Value.str (Str.ofString "_law_left") 1974) (Value.ref 128), DictEntry.mk (PyData.keyHash P (Str.ofString "_law_header")) (Value.str (Str.ofString "_law_header") 1980) (Value.ref 133), DictEntry.mk (PyData.keyHash P (Str.ofString "_law_body")) (Value.str (Str.ofString "_law_body") 1987) (Value.ref 140), DictEntry.mk (PyData.keyHash P (Str.ofString "law")) (Value.str (Str.ofString "law") 2004) (Value.ref 147)] 37) #[]) ::
  (nat_lit 6, Obj.mk (Value.type "dict") none (Data.dict #[]) #[]) ::
  (nat_lit 11, Obj.mk (Value.type "dict") none (Data.dict #[DictEntry.mk (PyData.keyHash P (Str.ofString "__name__")) (Value.str (Str.ofString "__name__") 247) (Value.str (Str.ofString "_sre") 246), DictEntry.mk (PyData.keyHash P (Str.ofString "__doc__")) (Value.str (Str.ofString "__doc__") 248) Value.none, DictEntry.mk (PyData.keyHash P (Str.ofString "__package__")) (Value.str (Str.ofString "__package__") 250) (Value.str (Str.ofString "") 249), DictEntry.mk (PyData.keyHash P (Str.ofString "__loader__")) (Value.str (Str.ofString "__loader__") 251) (Value.builtin "off-the-table:_sre.__loader__:shared#opaque"), DictEntry.mk (PyData.keyHash P (Str.ofString "__spec__")) (Value.str (Str.ofString "__spec__") 252) (Value.builtin "off-the-table:_sre.__spec__:shared#opaque"), DictEntry.mk (PyData.keyHash P (Str.ofString "compile")) (Value.str (Str.ofString "compile") 253) (Value.builtin "_sre.compile"), DictEntry.mk (PyData.keyHash P (Str.ofString "template")) (Value.str (Str.ofString "template") 254) (Value.builtin "off-the-table:_sre.template:shared#opaque"), DictEntry.mk (PyData.keyHash P (Str.ofString "getcodesize")) (Value.str (Str.ofString "getcodesize") 255) (Value.builtin "off-the-table:_sre.getcodesize:shared#opaque"), DictEntry.mk (PyData.keyHash P (Str.ofString "ascii_iscased")) (Value.str (Str.ofString "ascii_iscased") 256) (Value.builtin "off-the-table:_sre.ascii_iscased:shared#opaque"), DictEntry.mk (PyData.keyHash P (Str.ofString "unicode_iscased")) (Value.str (Str.ofString "unicode_iscased") 257) (Value.builtin "off-the-table:_sre.unicode_iscased:shared#opaque"), DictEntry.mk (PyData.keyHash P (Str.ofString "ascii_tolower")) (Value.str (Str.ofString "ascii_tolower") 258) (Value.builtin "off-the-table:_sre.ascii_tolower:shared#opaque"), DictEntry.mk (PyData.keyHash P (Str.ofString "unicode_tolower")) (Value.str (Str.ofString "unicode_tolower") 259) (Value.builtin "off-the-table:_sre.unicode_tolower:shared#opaque"), DictEntry.mk (PyData.keyHash P (Str.ofString "MAGIC")) (Value.str (Str.ofString "MAGIC") 261) (Value.int 20230612 260), DictEntry.mk (PyData.keyHash P (Str.ofString "CODESIZE")) (Value.str (Str.ofString "CODESIZE") 263) (Value.int 4 262), DictEntry.mk (PyData.keyHash P (Str.ofString "MAXREPEAT")) (Value.str (Str.ofString "MAXREPEAT") 265) (Value.int 4294967295 264), DictEntry.mk (PyData.keyHash P (Str.ofString "MAXGROUPS")) (Value.str (Str.ofString "MAXGROUPS") 267) (Value.int 1073741823 266), DictEntry.mk (PyData.keyHash P (Str.ofString "copyright")) (Value.str (Str.ofString "copyright") 269) (Value.str (Str.ofString " SRE 2.2.2 Copyright (c) 1997-2002 by Secret Labs AB ") 268)] 17) #[]) ::
  (nat_lit 12, Obj.mk (Value.type "module") (some 11) Data.plain #[]) ::
  (nat_lit 32, Obj.mk (Value.type "tuple") none (Data.seq #[]) #[]) ::
  (nat_lit 34, Obj.mk (Value.type "tuple") none (Data.seq #[Value.str (Str.ofString "s") 287, Value.str (Str.ofString "amount") 288, Value.str (Str.ofString "lpos") 289, Value.str (Str.ofString "rpos") 290]) #[]) ::
  (nat_lit 35, Obj.mk (Value.type "tuple") none (Data.seq #[]) #[]) ::
  (nat_lit 37, Obj.mk (Value.type "code") none (Data.fields #[Value.str (Str.ofString "_strip_padding") 284, Value.str (Str.ofString "_strip_padding") 285, Value.str (Str.ofString "/claim/cut.py") 286, Value.int 3 0, Value.int 2 0, Value.int 0 0, Value.int 0 0, Value.int 3 0, Value.ref 32, Value.bool true, Value.int 276 0, Value.ref 33, Value.none, Value.ref 34, Value.ref 35, Value.ref 36, Value.int 291 0, Value.int 3 0, Value.str (Str.ofString "/claim/cut.py") 292]) #[]) ::
  (nat_lit 38, Obj.mk (Value.type "function") none (Data.func (FuncData.mk (Str.ofString "_strip_padding") (Str.ofString "_strip_padding") (prm 2) (FuncBody.stmts (bdy 2)) (scp 2) 3 [] Value.none Value.none Value.none (Value.str (Str.ofString "cpy313.locale") 282) none (Value.ref 37) Value.none 0)) #[]) ::
  (nat_lit 42, Obj.mk (Value.type "tuple") none (Data.seq #[Value.int 14 0, Value.int 8 0, Value.int 1 0, Value.int 3 0, Value.int 3 0, Value.int 1 0, Value.int 1 0, Value.int 61 0, Value.int 0 0, Value.int 16 0, Value.int 61 0, Value.int 24 0, Value.int 16 0, Value.int 2 0, Value.int 2 0, Value.int 13 0, Value.int 11 0, Value.int 9 0, Value.int 0 0, Value.int 67043328 0, Value.int 126 0, Value.int 126 0, Value.int 0 0, Value.int 0 0, Value.int 0 0, Value.int 0 0, Value.int 0 0, Value.int 1 0, Value.int 1 0]) #[]) ::
  (nat_lit 43, Obj.mk (Value.type "re.Pattern") none (Data.fields #[Value.str (Str.ofString "=[a-fA-F0-9]{2}") 295, Value.int 256 327, Value.int 0 0, Value.none, Value.none, Value.ref 42, Value.int 0 0]) #[]) ::
  (nat_lit 46, Obj.mk (Value.type "list") none (Data.seq (List.toArray (Value.str (Str.ofString "=00") 339 :: Value.str (Str.ofString "=01") 343 :: Value.str (Str.ofString "=02") 347 :: Value.str (Str.ofString "=03") 351 :: Value.str (Str.ofString "=04") 355 :: Value.str (Str.ofString "=05") 359 :: Value.str (Str.ofString "=06") 363 :: Value.str (Str.ofString "=07") 367 :: Value.str (Str.ofString "=08") 371 :: Value.str (Str.ofString "=09") 375 :: Value.str (Str.ofString "=0A") 379 :: Value.str (Str.ofString "=0B") 383 :: Value.str (Str.ofString "=0C") 387 :: Value.str (Str.ofString "=0D") 391 :: Value.str (Str.ofString "=0E") 395 :: Value.str (Str.ofString "=0F") 399 :: Value.str (Str.ofString "=10") 403 :: Value.str (Str.ofString "=11") 407 :: Value.str (Str.ofString "=12") 411 :: Value.str (Str.ofString "=13") 415 :: Value.str (Str.ofString "=14") 419 :: Value.str (Str.ofString "=15") 423 :: Value.str (Str.ofString "=16") 427 :: Value.str (Str.ofString "=17") 431 :: Value.str (Str.ofString "=18") 435 :: Value.str (Str.ofString "=19") 439 :: Value.str (Str.ofString "=1A") 443 :: Value.str (Str.ofString "=1B") 447 :: Value.str (Str.ofString "=1C") 451 :: Value.str (Str.ofString "=1D") 455 :: Value.str (Str.ofString "=1E") 459 :: Value.str (Str.ofString "=1F") 463 :: Value.str (Str.ofString "=20") 467 :: Value.str (Str.ofString "=21") 471 :: Value.str (Str.ofString "=22") 475 :: Value.str (Str.ofString "=23") 479 :: Value.str (Str.ofString "=24") 483 :: Value.str (Str.ofString "=25") 487 :: Value.str (Str.ofString "=26") 491 :: Value.str (Str.ofString "=27") 495 :: Value.str (Str.ofString "=28") 499 :: Value.str (Str.ofString "=29") 503 :: Value.str (Str.ofString "=2A") 507 :: Value.str (Str.ofString "=2B") 511 :: Value.str (Str.ofString "=2C") 515 :: Value.str (Str.ofString "=2D") 519 :: Value.str (Str.ofString "=2E") 523 :: Value.str (Str.ofString "=2F") 527 :: Value.str (Str.ofString "=30") 531 :: Value.str (Str.ofString "=31") 535 :: Value.str (Str.ofString "=32") 539 :: Value.str (Str.ofString "=33") 543 :: Value.str (Str.ofString "=34") 547 :: Value.str (Str.ofString "=35") 551 :: Value.str (Str.ofString "=36") 555 :: Value.str (Str.ofString "=37") 559 :: Value.str (Str.ofString "=38") 563 :: Value.str (Str.ofString "=39") 567 :: Value.str (Str.ofString "=3A") 571 :: Value.str (Str.ofString "=3B") 575 :: Value.str (Str.ofString "=3C") 579 :: Value.str (Str.ofString "=3D") 583 :: Value.str (Str.ofString "=3E") 587 :: Value.str (Str.ofString "=3F") 591 :: Value.str (Str.ofString "=40") 595 :: Value.str (Str.ofString "=41") 599 :: Value.str (Str.ofString "=42") 603 :: Value.str (Str.ofString "=43") 607 :: Value.str (Str.ofString "=44") 611 :: Value.str (Str.ofString "=45") 615 :: Value.str (Str.ofString "=46") 619 :: Value.str (Str.ofString "=47") 623 :: Value.str (Str.ofString "=48") 627 :: Value.str (Str.ofString "=49") 631 :: Value.str (Str.ofString "=4A") 635 :: Value.str (Str.ofString "=4B") 639 :: Value.str (Str.ofString "=4C") 643 :: Value.str (Str.ofString "=4D") 647 :: Value.str (Str.ofString "=4E") 651 :: Value.str (Str.ofString "=4F") 655 :: Value.str (Str.ofString "=50") 659 :: Value.str (Str.ofString "=51") 663 :: Value.str (Str.ofString "=52") 667 :: Value.str (Str.ofString "=53") 671 :: Value.str (Str.ofString "=54") 675 :: Value.str (Str.ofString "=55") 679 :: Value.str (Str.ofString "=56") 683 :: Value.str (Str.ofString "=57") 687 :: Value.str (Str.ofString "=58") 691 :: Value.str (Str.ofString "=59") 695 :: Value.str (Str.ofString "=5A") 699 :: Value.str (Str.ofString "=5B") 703 :: Value.str (Str.ofString "=5C") 707 :: Value.str (Str.ofString "=5D") 711 :: Value.str (Str.ofString "=5E") 715 :: Value.str (Str.ofString "=5F") 719 :: Value.str (Str.ofString "=60") 723 :: Value.str (Str.ofString "=61") 727 :: Value.str (Str.ofString "=62") 731 :: Value.str (Str.ofString "=63") 735 :: Value.str (Str.ofString "=64") 739 :: Value.str (Str.ofString "=65") 743 :: Value.str (Str.ofString "=66") 747 :: Value.str (Str.ofString "=67") 751 :: Value.str (Str.ofString "=68") 755 :: Value.str (Str.ofString "=69") 759 :: Value.str (Str.ofString "=6A") 763 :: Value.str (Str.ofString "=6B") 767 :: Value.str (Str.ofString "=6C") 771 :: Value.str (Str.ofString "=6D") 775 :: Value.str (Str.ofString "=6E") 779 :: Value.str (Str.ofString "=6F") 783 :: Value.str (Str.ofString "=70") 787 :: Value.str (Str.ofString "=71") 791 :: Value.str (Str.ofString "=72") 795 :: Value.str (Str.ofString "=73") 799 :: Value.str (Str.ofString "=74") 803 :: Value.str (Str.ofString "=75") 807 :: Value.str (Str.ofString "=76") 811 :: Value.str (Str.ofString "=77") 815 :: Value.str (Str.ofString "=78") 819 :: Value.str (Str.ofString "=79") 823 :: Value.str (Str.ofString "=7A") 827 :: Value.str (Str.ofString "=7B") 831 :: Value.str (Str.ofString "=7C") 835 :: Value.str (Str.ofString "=7D") 839 :: Value.str (Str.ofString "=7E") 843 :: Value.str (Str.ofString "=7F") 847 :: Value.str (Str.ofString "=80") 851 :: Value.str (Str.ofString "=81") 855 :: Value.str (Str.ofString "=82") 859 :: Value.str (Str.ofString "=83") 863 :: Value.str (Str.ofString "=84") 867 :: Value.str (Str.ofString "=85") 871 :: Value.str (Str.ofString "=86") 875 :: Value.str (Str.ofString "=87") 879 :: Value.str (Str.ofString "=88") 883 :: Value.str (Str.ofString "=89") 887 :: Value.str (Str.ofString "=8A") 891 :: Value.str (Str.ofString "=8B") 895 :: Value.str (Str.ofString "=8C") 899 :: Value.str (Str.ofString "=8D") 903 :: Value.str (Str.ofString "=8E") 907 :: Value.str (Str.ofString "=8F") 911 :: Value.str (Str.ofString "=90") 915 :: Value.str (Str.ofString "=91") 919 :: Value.str (Str.ofString "=92") 923 :: Value.str (Str.ofString "=93") 927 :: Value.str (Str.ofString "=94") 931 :: Value.str (Str.ofString "=95") 935 :: Value.str (Str.ofString "=96") 939 :: Value.str (Str.ofString "=97") 943 :: Value.str (Str.ofString "=98") 947 :: Value.str (Str.ofString "=99") 951 :: Value.str (Str.ofString "=9A") 955 :: Value.str (Str.ofString "=9B") 959 :: Value.str (Str.ofString "=9C") 963 :: Value.str (Str.ofString "=9D") 967 :: Value.str (Str.ofString "=9E") 971 :: Value.str (Str.ofString "=9F") 975 :: Value.str (Str.ofString "=A0") 979 :: Value.str (Str.ofString "=A1") 983 :: Value.str (Str.ofString "=A2") 987 :: Value.str (Str.ofString "=A3") 991 :: Value.str (Str.ofString "=A4") 995 :: Value.str (Str.ofString "=A5") 999 :: Value.str (Str.ofString "=A6") 1003 :: Value.str (Str.ofString "=A7") 1007 :: Value.str (Str.ofString "=A8") 1011 :: Value.str (Str.ofString "=A9") 1015 :: Value.str (Str.ofString "=AA") 1019 :: Value.str (Str.ofString "=AB") 1023 :: Value.str (Str.ofString "=AC") 1027 :: Value.str (Str.ofString "=AD") 1031 :: Value.str (Str.ofString "=AE") 1035 :: Value.str (Str.ofString "=AF") 1039 :: Value.str (Str.ofString "=B0") 1043 :: Value.str (Str.ofString "=B1") 1047 :: Value.str (Str.ofString "=B2") 1051 :: Value.str (Str.ofString "=B3") 1055 :: Value.str (Str.ofString "=B4") 1059 :: Value.str (Str.ofString "=B5") 1063 :: Value.str (Str.ofString "=B6") 1067 :: Value.str (Str.ofString "=B7") 1071 :: Value.str (Str.ofString "=B8") 1075 :: Value.str (Str.ofString "=B9") 1079 :: Value.str (Str.ofString "=BA") 1083 :: Value.str (Str.ofString "=BB") 1087 :: Value.str (Str.ofString "=BC") 1091 :: Value.str (Str.ofString "=BD") 1095 :: Value.str (Str.ofString "=BE") 1099 :: Value.str (Str.ofString "=BF") 1103 :: Value.str (Str.ofString "=C0") 1107 :: Value.str (Str.ofString "=C1") 1111 :: Value.str (Str.ofString "=C2") 1115 :: Value.str (Str.ofString "=C3") 1119 :: Value.str (Str.ofString "=C4") 1123 :: Value.str (Str.ofString "=C5") 1127 :: Value.str (Str.ofString "=C6") 1131 :: Value.str (Str.ofString "=C7") 1135 :: Value.str (Str.ofString "=C8") 1139 :: Value.str (Str.ofString "=C9") 1143 :: Value.str (Str.ofString "=CA") 1147 :: Value.str (Str.ofString "=CB") 1151 :: Value.str (Str.ofString "=CC") 1155 :: Value.str (Str.ofString "=CD") 1159 :: Value.str (Str.ofString "=CE") 1163 :: Value.str (Str.ofString "=CF") 1167 :: Value.str (Str.ofString "=D0") 1171 :: Value.str (Str.ofString "=D1") 1175 :: Value.str (Str.ofString "=D2") 1179 :: Value.str (Str.ofString "=D3") 1183 :: Value.str (Str.ofString "=D4") 1187 :: Value.str (Str.ofString "=D5") 1191 :: Value.str (Str.ofString "=D6") 1195 :: Value.str (Str.ofString "=D7") 1199 :: Value.str (Str.ofString "=D8") 1203 :: Value.str (Str.ofString "=D9") 1207 :: Value.str (Str.ofString "=DA") 1211 :: Value.str (Str.ofString "=DB") 1215 :: Value.str (Str.ofString "=DC") 1219 :: Value.str (Str.ofString "=DD") 1223 :: Value.str (Str.ofString "=DE") 1227 :: Value.str (Str.ofString "=DF") 1231 :: Value.str (Str.ofString "=E0") 1235 :: Value.str (Str.ofString "=E1") 1239 :: Value.str (Str.ofString "=E2") 1243 :: Value.str (Str.ofString "=E3") 1247 :: Value.str (Str.ofString "=E4") 1251 :: Value.str (Str.ofString "=E5") 1255 :: Value.str (Str.ofString "=E6") 1259 :: Value.str (Str.ofString "=E7") 1263 :: Value.str (Str.ofString "=E8") 1267 :: Value.str (Str.ofString "=E9") 1271 :: Value.str (Str.ofString "=EA") 1275 :: Value.str (Str.ofString "=EB") 1279 :: Value.str (Str.ofString "=EC") 1283 :: Value.str (Str.ofString "=ED") 1287 :: Value.str (Str.ofString "=EE") 1291 :: Value.str (Str.ofString "=EF") 1295 :: Value.str (Str.ofString "=F0") 1299 :: Value.str (Str.ofString "=F1") 1303 :: Value.str (Str.ofString "=F2") 1307 :: Value.str (Str.ofString "=F3") 1311 :: Value.str (Str.ofString "=F4") 1315 :: Value.str (Str.ofString "=F5") 1319 :: Value.str (Str.ofString "=F6") 1323 :: Value.str (Str.ofString "=F7") 1327 :: Value.str (Str.ofString "=F8") 1331 :: Value.str (Str.ofString "=F9") 1335 :: Value.str (Str.ofString "=FA") 1339 :: Value.str (Str.ofString "=FB") 1343 :: Value.str (Str.ofString "=FC") 1347 :: Value.str (Str.ofString "=FD") 1351 :: Value.str (Str.ofString "=FE") 1355 :: Value.str (Str.ofString "=FF") 1359 :: [])) 256) #[]) ::
  (nat_lit 51, Obj.mk (Value.type "list") none (Data.seq (List.toArray (Value.str (Str.ofString "=00") 339 :: Value.str (Str.ofString "=01") 343 :: Value.str (Str.ofString "=02") 347 :: Value.str (Str.ofString "=03") 351 :: Value.str (Str.ofString "=04") 355 :: Value.str (Str.ofString "=05") 359 :: Value.str (Str.ofString "=06") 363 :: Value.str (Str.ofString "=07") 367 :: Value.str (Str.ofString "=08") 371 :: Value.str (Str.ofString "=09") 375 :: Value.str (Str.ofString "=0A") 379 :: Value.str (Str.ofString "=0B") 383 :: Value.str (Str.ofString "=0C") 387 :: Value.str (Str.ofString "=0D") 391 :: Value.str (Str.ofString "=0E") 395 :: Value.str (Str.ofString "=0F") 399 :: Value.str (Str.ofString "=10") 403 :: Value.str (Str.ofString "=11") 407 :: Value.str (Str.ofString "=12") 411 :: Value.str (Str.ofString "=13") 415 :: Value.str (Str.ofString "=14") 419 :: Value.str (Str.ofString "=15") 423 :: Value.str (Str.ofString "=16") 427 :: Value.str (Str.ofString "=17") 431 :: Value.str (Str.ofString "=18") 435 :: Value.str (Str.ofString "=19") 439 :: Value.str (Str.ofString "=1A") 443 :: Value.str (Str.ofString "=1B") 447 :: Value.str (Str.ofString "=1C") 451 :: Value.str (Str.ofString "=1D") 455 :: Value.str (Str.ofString "=1E") 459 :: Value.str (Str.ofString "=1F") 463 :: Value.str (Str.ofString "_") 1586 :: Value.str (Str.ofString "!") 1390 :: Value.str (Str.ofString "=22") 475 :: Value.str (Str.ofString "=23") 479 :: Value.str (Str.ofString "=24") 483 :: Value.str (Str.ofString "=25") 487 :: Value.str (Str.ofString "=26") 491 :: Value.str (Str.ofString "=27") 495 :: Value.str (Str.ofString "=28") 499 :: Value.str (Str.ofString "=29") 503 :: Value.str (Str.ofString "*") 1393 :: Value.str (Str.ofString "+") 1396 :: Value.str (Str.ofString "=2C") 515 :: Value.str (Str.ofString "-") 1387 :: Value.str (Str.ofString "=2E") 523 :: Value.str (Str.ofString "/") 1399 :: Value.str (Str.ofString "0") 1558 :: Value.str (Str.ofString "1") 1561 :: Value.str (Str.ofString "2") 1564 :: Value.str (Str.ofString "3") 1567 :: Value.str (Str.ofString "4") 1570 :: Value.str (Str.ofString "5") 1573 :: Value.str (Str.ofString "6") 1576 :: Value.str (Str.ofString "7") 1579 :: Value.str (Str.ofString "8") 1582 :: Value.str (Str.ofString "9") 1585 :: Value.str (Str.ofString "=3A") 571 :: Value.str (Str.ofString "=3B") 575 :: Value.str (Str.ofString "=3C") 579 :: Value.str (Str.ofString "=3D") 583 :: Value.str (Str.ofString "=3E") 587 :: Value.str (Str.ofString "=3F") 591 :: Value.str (Str.ofString "=40") 595 :: Value.str (Str.ofString "A") 1480 :: Value.str (Str.ofString "B") 1483 :: Value.str (Str.ofString "C") 1486 :: Value.str (Str.ofString "D") 1489 :: Value.str (Str.ofString "E") 1492 :: Value.str (Str.ofString "F") 1495 :: Value.str (Str.ofString "G") 1498 :: Value.str (Str.ofString "H") 1501 :: Value.str (Str.ofString "I") 1504 :: Value.str (Str.ofString "J") 1507 :: Value.str (Str.ofString "K") 1510 :: Value.str (Str.ofString "L") 1513 :: Value.str (Str.ofString "M") 1516 :: Value.str (Str.ofString "N") 1519 :: Value.str (Str.ofString "O") 1522 :: Value.str (Str.ofString "P") 1525 :: Value.str (Str.ofString "Q") 1528 :: Value.str (Str.ofString "R") 1531 :: Value.str (Str.ofString "S") 1534 :: Value.str (Str.ofString "T") 1537 :: Value.str (Str.ofString "U") 1540 :: Value.str (Str.ofString "V") 1543 :: Value.str (Str.ofString "W") 1546 :: Value.str (Str.ofString "X") 1549 :: Value.str (Str.ofString "Y") 1552 :: Value.str (Str.ofString "Z") 1555 :: Value.str (Str.ofString "=5B") 703 :: Value.str (Str.ofString "=5C") 707 :: Value.str (Str.ofString "=5D") 711 :: Value.str (Str.ofString "=5E") 715 :: Value.str (Str.ofString "=5F") 719 :: Value.str (Str.ofString "=60") 723 :: Value.str (Str.ofString "a") 1402 :: Value.str (Str.ofString "b") 1405 :: Value.str (Str.ofString "c") 1408 :: Value.str (Str.ofString "d") 1411 :: Value.str (Str.ofString "e") 1414 :: Value.str (Str.ofString "f") 1417 :: Value.str (Str.ofString "g") 1420 :: Value.str (Str.ofString "h") 1423 :: Value.str (Str.ofString "i") 1426 :: Value.str (Str.ofString "j") 1429 :: Value.str (Str.ofString "k") 1432 :: Value.str (Str.ofString "l") 1435 :: Value.str (Str.ofString "m") 1438 :: Value.str (Str.ofString "n") 1441 :: Value.str (Str.ofString "o") 1444 :: Value.str (Str.ofString "p") 1447 :: Value.str (Str.ofString "q") 1450 :: Value.str (Str.ofString "r") 1453 :: Value.str (Str.ofString "s") 1456 :: Value.str (Str.ofString "t") 1459 :: Value.str (Str.ofString "u") 1462 :: Value.str (Str.ofString "v") 1465 :: Value.str (Str.ofString "w") 1468 :: Value.str (Str.ofString "x") 1471 :: Value.str (Str.ofString "y") 1474 :: Value.str (Str.ofString "z") 1477 :: Value.str (Str.ofString "=7B") 831 :: Value.str (Str.ofString "=7C") 835 :: Value.str (Str.ofString "=7D") 839 :: Value.str (Str.ofString "=7E") 843 :: Value.str (Str.ofString "=7F") 847 :: Value.str (Str.ofString "=80") 851 :: Value.str (Str.ofString "=81") 855 :: Value.str (Str.ofString "=82") 859 :: Value.str (Str.ofString "=83") 863 :: Value.str (Str.ofString "=84") 867 :: Value.str (Str.ofString "=85") 871 :: Value.str (Str.ofString "=86") 875 :: Value.str (Str.ofString "=87") 879 :: Value.str (Str.ofString "=88") 883 :: Value.str (Str.ofString "=89") 887 :: Value.str (Str.ofString "=8A") 891 :: Value.str (Str.ofString "=8B") 895 :: Value.str (Str.ofString "=8C") 899 :: Value.str (Str.ofString "=8D") 903 :: Value.str (Str.ofString "=8E") 907 :: Value.str (Str.ofString "=8F") 911 :: Value.str (Str.ofString "=90") 915 :: Value.str (Str.ofString "=91") 919 :: Value.str (Str.ofString "=92") 923 :: Value.str (Str.ofString "=93") 927 :: Value.str (Str.ofString "=94") 931 :: Value.str (Str.ofString "=95") 935 :: Value.str (Str.ofString "=96") 939 :: Value.str (Str.ofString "=97") 943 :: Value.str (Str.ofString "=98") 947 :: Value.str (Str.ofString "=99") 951 :: Value.str (Str.ofString "=9A") 955 :: Value.str (Str.ofString "=9B") 959 :: Value.str (Str.ofString "=9C") 963 :: Value.str (Str.ofString "=9D") 967 :: Value.str (Str.ofString "=9E") 971 :: Value.str (Str.ofString "=9F") 975 :: Value.str (Str.ofString "=A0") 979 :: Value.str (Str.ofString "=A1") 983 :: Value.str (Str.ofString "=A2") 987 :: Value.str (Str.ofString "=A3") 991 :: Value.str (Str.ofString "=A4") 995 :: Value.str (Str.ofString "=A5") 999 :: Value.str (Str.ofString "=A6") 1003 :: Value.str (Str.ofString "=A7") 1007 :: Value.str (Str.ofString "=A8") 1011 :: Value.str (Str.ofString "=A9") 1015 :: Value.str (Str.ofString "=AA") 1019 :: Value.str (Str.ofString "=AB") 1023 :: Value.str (Str.ofString "=AC") 1027 :: Value.str (Str.ofString "=AD") 1031 :: Value.str (Str.ofString "=AE") 1035 :: Value.str (Str.ofString "=AF") 1039 :: Value.str (Str.ofString "=B0") 1043 :: Value.str (Str.ofString "=B1") 1047 :: Value.str (Str.ofString "=B2") 1051 :: Value.str (Str.ofString "=B3") 1055 :: Value.str (Str.ofString "=B4") 1059 :: Value.str (Str.ofString "=B5") 1063 :: Value.str (Str.ofString "=B6") 1067 :: Value.str (Str.ofString "=B7") 1071 :: Value.str (Str.ofString "=B8") 1075 :: Value.str (Str.ofString "=B9") 1079 :: Value.str (Str.ofString "=BA") 1083 :: Value.str (Str.ofString "=BB") 1087 :: Value.str (Str.ofString "=BC") 1091 :: Value.str (Str.ofString "=BD") 1095 :: Value.str (Str.ofString "=BE") 1099 :: Value.str (Str.ofString "=BF") 1103 :: Value.str (Str.ofString "=C0") 1107 :: Value.str (Str.ofString "=C1") 1111 :: Value.str (Str.ofString "=C2") 1115 :: Value.str (Str.ofString "=C3") 1119 :: Value.str (Str.ofString "=C4") 1123 :: Value.str (Str.ofString "=C5") 1127 :: Value.str (Str.ofString "=C6") 1131 :: Value.str (Str.ofString "=C7") 1135 :: Value.str (Str.ofString "=C8") 1139 :: Value.str (Str.ofString "=C9") 1143 :: Value.str (Str.ofString "=CA") 1147 :: Value.str (Str.ofString "=CB") 1151 :: Value.str (Str.ofString "=CC") 1155 :: Value.str (Str.ofString "=CD") 1159 :: Value.str (Str.ofString "=CE") 1163 :: Value.str (Str.ofString "=CF") 1167 :: Value.str (Str.ofString "=D0") 1171 :: Value.str (Str.ofString "=D1") 1175 :: Value.str (Str.ofString "=D2") 1179 :: Value.str (Str.ofString "=D3") 1183 :: Value.str (Str.ofString "=D4") 1187 :: Value.str (Str.ofString "=D5") 1191 :: Value.str (Str.ofString "=D6") 1195 :: Value.str (Str.ofString "=D7") 1199 :: Value.str (Str.ofString "=D8") 1203 :: Value.str (Str.ofString "=D9") 1207 :: Value.str (Str.ofString "=DA") 1211 :: Value.str (Str.ofString "=DB") 1215 :: Value.str (Str.ofString "=DC") 1219 :: Value.str (Str.ofString "=DD") 1223 :: Value.str (Str.ofString "=DE") 1227 :: Value.str (Str.ofString "=DF") 1231 :: Value.str (Str.ofString "=E0") 1235 :: Value.str (Str.ofString "=E1") 1239 :: Value.str (Str.ofString "=E2") 1243 :: Value.str (Str.ofString "=E3") 1247 :: Value.str (Str.ofString "=E4") 1251 :: Value.str (Str.ofString "=E5") 1255 :: Value.str (Str.ofString "=E6") 1259 :: Value.str (Str.ofString "=E7") 1263 :: Value.str (Str.ofString "=E8") 1267 :: Value.str (Str.ofString "=E9") 1271 :: Value.str (Str.ofString "=EA") 1275 :: Value.str (Str.ofString "=EB") 1279 :: Value.str (Str.ofString "=EC") 1283 :: Value.str (Str.ofString "=ED") 1287 :: Value.str (Str.ofString "=EE") 1291 :: Value.str (Str.ofString "=EF") 1295 :: Value.str (Str.ofString "=F0") 1299 :: Value.str (Str.ofString "=F1") 1303 :: Value.str (Str.ofString "=F2") 1307 :: Value.str (Str.ofString "=F3") 1311 :: Value.str (Str.ofString "=F4") 1315 :: Value.str (Str.ofString "=F5") 1319 :: Value.str (Str.ofString "=F6") 1323 :: Value.str (Str.ofString "=F7") 1327 :: Value.str (Str.ofString "=F8") 1331 :: Value.str (Str.ofString "=F9") 1335 :: Value.str (Str.ofString "=FA") 1339 :: Value.str (Str.ofString "=FB") 1343 :: Value.str (Str.ofString "=FC") 1347 :: Value.str (Str.ofString "=FD") 1351 :: Value.str (Str.ofString "=FE") 1355 :: Value.str (Str.ofString "=FF") 1359 :: []))) #[]) ::
  (nat_lit 53, Obj.mk (Value.type "list") none (Data.seq (List.toArray (Value.str (Str.ofString "=00") 339 :: Value.str (Str.ofString "=01") 343 :: Value.str (Str.ofString "=02") 347 :: Value.str (Str.ofString "=03") 351 :: Value.str (Str.ofString "=04") 355 :: Value.str (Str.ofString "=05") 359 :: Value.str (Str.ofString "=06") 363 :: Value.str (Str.ofString "=07") 367 :: Value.str (Str.ofString "=08") 371 :: Value.str (Str.ofString "\t") 1874 :: Value.str (Str.ofString "=0A") 379 :: Value.str (Str.ofString "=0B") 383 :: Value.str (Str.ofString "=0C") 387 :: Value.str (Str.ofString "=0D") 391 :: Value.str (Str.ofString "=0E") 395 :: Value.str (Str.ofString "=0F") 399 :: Value.str (Str.ofString "=10") 403 :: Value.str (Str.ofString "=11") 407 :: Value.str (Str.ofString "=12") 411 :: Value.str (Str.ofString "=13") 415 :: Value.str (Str.ofString "=14") 419 :: Value.str (Str.ofString "=15") 423 :: Value.str (Str.ofString "=16") 427 :: Value.str (Str.ofString "=17") 431 :: Value.str (Str.ofString "=18") 435 :: Value.str (Str.ofString "=19") 439 :: Value.str (Str.ofString "=1A") 443 :: Value.str (Str.ofString "=1B") 447 :: Value.str (Str.ofString "=1C") 451 :: Value.str (Str.ofString "=1D") 455 :: Value.str (Str.ofString "=1E") 459 :: Value.str (Str.ofString "=1F") 463 :: Value.str (Str.ofString " ") 1592 :: Value.str (Str.ofString "!") 1595 :: Value.str (Str.ofString "\"") 1598 :: Value.str (Str.ofString "#") 1601 :: Value.str (Str.ofString "$") 1604 :: Value.str (Str.ofString "%") 1607 :: Value.str (Str.ofString "&") 1610 :: Value.str (Str.ofString "'") 1613 :: Value.str (Str.ofString "(") 1616 :: Value.str (Str.ofString ")") 1619 :: Value.str (Str.ofString "*") 1622 :: Value.str (Str.ofString "+") 1625 :: Value.str (Str.ofString ",") 1628 :: Value.str (Str.ofString "-") 1631 :: Value.str (Str.ofString ".") 1634 :: Value.str (Str.ofString "/") 1637 :: Value.str (Str.ofString "0") 1640 :: Value.str (Str.ofString "1") 1643 :: Value.str (Str.ofString "2") 1646 :: Value.str (Str.ofString "3") 1649 :: Value.str (Str.ofString "4") 1652 :: Value.str (Str.ofString "5") 1655 :: Value.str (Str.ofString "6") 1658 :: Value.str (Str.ofString "7") 1661 :: Value.str (Str.ofString "8") 1664 :: Value.str (Str.ofString "9") 1667 :: Value.str (Str.ofString ":") 1670 :: Value.str (Str.ofString ";") 1673 :: Value.str (Str.ofString "<") 1676 :: Value.str (Str.ofString "=3D") 583 :: Value.str (Str.ofString ">") 1679 :: Value.str (Str.ofString "?") 1682 :: Value.str (Str.ofString "@") 1685 :: Value.str (Str.ofString "A") 1688 :: Value.str (Str.ofString "B") 1691 :: Value.str (Str.ofString "C") 1694 :: Value.str (Str.ofString "D") 1697 :: Value.str (Str.ofString "E") 1700 :: Value.str (Str.ofString "F") 1703 :: Value.str (Str.ofString "G") 1706 :: Value.str (Str.ofString "H") 1709 :: Value.str (Str.ofString "I") 1712 :: Value.str (Str.ofString "J") 1715 :: Value.str (Str.ofString "K") 1718 :: Value.str (Str.ofString "L") 1721 :: Value.str (Str.ofString "M") 1724 :: Value.str (Str.ofString "N") 1727 :: Value.str (Str.ofString "O") 1730 :: Value.str (Str.ofString "P") 1733 :: Value.str (Str.ofString "Q") 1736 :: Value.str (Str.ofString "R") 1739 :: Value.str (Str.ofString "S") 1742 :: Value.str (Str.ofString "T") 1745 :: Value.str (Str.ofString "U") 1748 :: Value.str (Str.ofString "V") 1751 :: Value.str (Str.ofString "W") 1754 :: Value.str (Str.ofString "X") 1757 :: Value.str (Str.ofString "Y") 1760 :: Value.str (Str.ofString "Z") 1763 :: Value.str (Str.ofString "[") 1766 :: Value.str (Str.ofString "\\") 1769 :: Value.str (Str.ofString "]") 1772 :: Value.str (Str.ofString "^") 1775 :: Value.str (Str.ofString "_") 1778 :: Value.str (Str.ofString "`") 1781 :: Value.str (Str.ofString "a") 1784 :: Value.str (Str.ofString "b") 1787 :: Value.str (Str.ofString "c") 1790 :: Value.str (Str.ofString "d") 1793 :: Value.str (Str.ofString "e") 1796 :: Value.str (Str.ofString "f") 1799 :: Value.str (Str.ofString "g") 1802 :: Value.str (Str.ofString "h") 1805 :: Value.str (Str.ofString "i") 1808 :: Value.str (Str.ofString "j") 1811 :: Value.str (Str.ofString "k") 1814 :: Value.str (Str.ofString "l") 1817 :: Value.str (Str.ofString "m") 1820 :: Value.str (Str.ofString "n") 1823 :: Value.str (Str.ofString "o") 1826 :: Value.str (Str.ofString "p") 1829 :: Value.str (Str.ofString "q") 1832 :: Value.str (Str.ofString "r") 1835 :: Value.str (Str.ofString "s") 1838 :: Value.str (Str.ofString "t") 1841 :: Value.str (Str.ofString "u") 1844 :: Value.str (Str.ofString "v") 1847 :: Value.str (Str.ofString "w") 1850 :: Value.str (Str.ofString "x") 1853 :: Value.str (Str.ofString "y") 1856 :: Value.str (Str.ofString "z") 1859 :: Value.str (Str.ofString "{") 1862 :: Value.str (Str.ofString "|") 1865 :: Value.str (Str.ofString "}") 1868 :: Value.str (Str.ofString "~") 1871 :: Value.str (Str.ofString "=7F") 847 :: Value.str (Str.ofString "=80") 851 :: Value.str (Str.ofString "=81") 855 :: Value.str (Str.ofString "=82") 859 :: Value.str (Str.ofString "=83") 863 :: Value.str (Str.ofString "=84") 867 :: Value.str (Str.ofString "=85") 871 :: Value.str (Str.ofString "=86") 875 :: Value.str (Str.ofString "=87") 879 :: Value.str (Str.ofString "=88") 883 :: Value.str (Str.ofString "=89") 887 :: Value.str (Str.ofString "=8A") 891 :: Value.str (Str.ofString "=8B") 895 :: Value.str (Str.ofString "=8C") 899 :: Value.str (Str.ofString "=8D") 903 :: Value.str (Str.ofString "=8E") 907 :: Value.str (Str.ofString "=8F") 911 :: Value.str (Str.ofString "=90") 915 :: Value.str (Str.ofString "=91") 919 :: Value.str (Str.ofString "=92") 923 :: Value.str (Str.ofString "=93") 927 :: Value.str (Str.ofString "=94") 931 :: Value.str (Str.ofString "=95") 935 :: Value.str (Str.ofString "=96") 939 :: Value.str (Str.ofString "=97") 943 :: Value.str (Str.ofString "=98") 947 :: Value.str (Str.ofString "=99") 951 :: Value.str (Str.ofString "=9A") 955 :: Value.str (Str.ofString "=9B") 959 :: Value.str (Str.ofString "=9C") 963 :: Value.str (Str.ofString "=9D") 967 :: Value.str (Str.ofString "=9E") 971 :: Value.str (Str.ofString "=9F") 975 :: Value.str (Str.ofString "=A0") 979 :: Value.str (Str.ofString "=A1") 983 :: Value.str (Str.ofString "=A2") 987 :: Value.str (Str.ofString "=A3") 991 :: Value.str (Str.ofString "=A4") 995 :: Value.str (Str.ofString "=A5") 999 :: Value.str (Str.ofString "=A6") 1003 :: Value.str (Str.ofString "=A7") 1007 :: Value.str (Str.ofString "=A8") 1011 :: Value.str (Str.ofString "=A9") 1015 :: Value.str (Str.ofString "=AA") 1019 :: Value.str (Str.ofString "=AB") 1023 :: Value.str (Str.ofString "=AC") 1027 :: Value.str (Str.ofString "=AD") 1031 :: Value.str (Str.ofString "=AE") 1035 :: Value.str (Str.ofString "=AF") 1039 :: Value.str (Str.ofString "=B0") 1043 :: Value.str (Str.ofString "=B1") 1047 :: Value.str (Str.ofString "=B2") 1051 :: Value.str (Str.ofString "=B3") 1055 :: Value.str (Str.ofString "=B4") 1059 :: Value.str (Str.ofString "=B5") 1063 :: Value.str (Str.ofString "=B6") 1067 :: Value.str (Str.ofString "=B7") 1071 :: Value.str (Str.ofString "=B8") 1075 :: Value.str (Str.ofString "=B9") 1079 :: Value.str (Str.ofString "=BA") 1083 :: Value.str (Str.ofString "=BB") 1087 :: Value.str (Str.ofString "=BC") 1091 :: Value.str (Str.ofString "=BD") 1095 :: Value.str (Str.ofString "=BE") 1099 :: Value.str (Str.ofString "=BF") 1103 :: Value.str (Str.ofString "=C0") 1107 :: Value.str (Str.ofString "=C1") 1111 :: Value.str (Str.ofString "=C2") 1115 :: Value.str (Str.ofString "=C3") 1119 :: Value.str (Str.ofString "=C4") 1123 :: Value.str (Str.ofString "=C5") 1127 :: Value.str (Str.ofString "=C6") 1131 :: Value.str (Str.ofString "=C7") 1135 :: Value.str (Str.ofString "=C8") 1139 :: Value.str (Str.ofString "=C9") 1143 :: Value.str (Str.ofString "=CA") 1147 :: Value.str (Str.ofString "=CB") 1151 :: Value.str (Str.ofString "=CC") 1155 :: Value.str (Str.ofString "=CD") 1159 :: Value.str (Str.ofString "=CE") 1163 :: Value.str (Str.ofString "=CF") 1167 :: Value.str (Str.ofString "=D0") 1171 :: Value.str (Str.ofString "=D1") 1175 :: Value.str (Str.ofString "=D2") 1179 :: Value.str (Str.ofString "=D3") 1183 :: Value.str (Str.ofString "=D4") 1187 :: Value.str (Str.ofString "=D5") 1191 :: Value.str (Str.ofString "=D6") 1195 :: Value.str (Str.ofString "=D7") 1199 :: Value.str (Str.ofString "=D8") 1203 :: Value.str (Str.ofString "=D9") 1207 :: Value.str (Str.ofString "=DA") 1211 :: Value.str (Str.ofString "=DB") 1215 :: Value.str (Str.ofString "=DC") 1219 :: Value.str (Str.ofString "=DD") 1223 :: Value.str (Str.ofString "=DE") 1227 :: Value.str (Str.ofString "=DF") 1231 :: Value.str (Str.ofString "=E0") 1235 :: Value.str (Str.ofString "=E1") 1239 :: Value.str (Str.ofString "=E2") 1243 :: Value.str (Str.ofString "=E3") 1247 :: Value.str (Str.ofString "=E4") 1251 :: Value.str (Str.ofString "=E5") 1255 :: Value.str (Str.ofString "=E6") 1259 :: Value.str (Str.ofString "=E7") 1263 :: Value.str (Str.ofString "=E8") 1267 :: Value.str (Str.ofString "=E9") 1271 :: Value.str (Str.ofString "=EA") 1275 :: Value.str (Str.ofString "=EB") 1279 :: Value.str (Str.ofString "=EC") 1283 :: Value.str (Str.ofString "=ED") 1287 :: Value.str (Str.ofString "=EE") 1291 :: Value.str (Str.ofString "=EF") 1295 :: Value.str (Str.ofString "=F0") 1299 :: Value.str (Str.ofString "=F1") 1303 :: Value.str (Str.ofString "=F2") 1307 :: Value.str (Str.ofString "=F3") 1311 :: Value.str (Str.ofString "=F4") 1315 :: Value.str (Str.ofString "=F5") 1319 :: Value.str (Str.ofString "=F6") 1323 :: Value.str (Str.ofString "=F7") 1327 :: Value.str (Str.ofString "=F8") 1331 :: Value.str (Str.ofString "=F9") 1335 :: Value.str (Str.ofString "=FA") 1339 :: Value.str (Str.ofString "=FB") 1343 :: Value.str (Str.ofString "=FC") 1347 :: Value.str (Str.ofString "=FD") 1351 :: Value.str (Str.ofString "=FE") 1355 :: Value.str (Str.ofString "=FF") 1359 :: []))) #[]) ::
  (nat_lit 60, Obj.mk (Value.type "tuple") none (Data.seq #[]) #[]) ::
  (nat_lit 62, Obj.mk (Value.type "tuple") none (Data.seq #[Value.str (Str.ofString "s") 1878]) #[]) ::
  (nat_lit 63, Obj.mk (Value.type "tuple") none (Data.seq #[]) #[]) ::
  (nat_lit 65, Obj.mk (Value.type "code") none (Data.fields #[Value.str (Str.ofString "unquote") 1875, Value.str (Str.ofString "unquote") 1876, Value.str (Str.ofString "/claim/cut.py") 1877, Value.int 30 0, Value.int 1 0, Value.int 0 0, Value.int 0 0, Value.int 3 0, Value.ref 60, Value.bool true, Value.int 276 0, Value.ref 61, Value.none, Value.ref 62, Value.ref 63, Value.ref 64, Value.int 1879 0, Value.int 30 0, Value.str (Str.ofString "/claim/cut.py") 1880]) #[]) ::
  (nat_lit 66, Obj.mk (Value.type "function") none (Data.func (FuncData.mk (Str.ofString "unquote") (Str.ofString "unquote") (prm 18) (FuncBody.stmts (bdy 18)) (scp 18) 3 [] Value.none Value.none Value.none (Value.str (Str.ofString "cpy313.email.quoprimime") 1376) none (Value.ref 65) Value.none 0)) #[]) ::
  (nat_lit 67, Obj.mk (Value.type "tuple") none (Data.seq #[]) #[]) ::
  (nat_lit 69, Obj.mk (Value.type "tuple") none (Data.seq #[Value.str (Str.ofString "c") 1885]) #[]) ::
  (nat_lit 70, Obj.mk (Value.type "tuple") none (Data.seq #[]) #[]) ::
  (nat_lit 72, Obj.mk (Value.type "code") none (Data.fields #[Value.str (Str.ofString "quote") 1882, Value.str (Str.ofString "quote") 1883, Value.str (Str.ofString "/claim/cut.py") 1884, Value.int 32 0, Value.int 1 0, Value.int 0 0, Value.int 0 0, Value.int 3 0, Value.ref 67, Value.bool true, Value.int 276 0, Value.ref 68, Value.none, Value.ref 69, Value.ref 70, Value.ref 71, Value.int 1886 0, Value.int 32 0, Value.str (Str.ofString "/claim/cut.py") 1887]) #[]) ::
  (nat_lit 73, Obj.mk (Value.type "function") none (Data.func (FuncData.mk (Str.ofString "quote") (Str.ofString "quote") (prm 19) (FuncBody.stmts (bdy 19)) (scp 19) 3 [] Value.none Value.none Value.none (Value.str (Str.ofString "cpy313.email.quoprimime") 1376) none (Value.ref 72) Value.none 0)) #[]) ::
  (nat_lit 74, Obj.mk (Value.type "tuple") none (Data.seq #[Value.str (Str.ofString "iso-8859-1") 1889]) #[]) ::
  (nat_lit 75, Obj.mk (Value.type "tuple") none (Data.seq #[]) #[]) ::
  (nat_lit 77, Obj.mk (Value.type "tuple") none (Data.seq #[Value.str (Str.ofString "header_bytes") 1893, Value.str (Str.ofString "charset") 1894, Value.str (Str.ofString "encoded") 1895]) #[]) ::
  (nat_lit 78, Obj.mk (Value.type "tuple") none (Data.seq #[]) #[]) ::
  (nat_lit 80, Obj.mk (Value.type "code") none (Data.fields #[Value.str (Str.ofString "header_encode") 1890, Value.str (Str.ofString "header_encode") 1891, Value.str (Str.ofString "/claim/cut.py") 1892, Value.int 34 0, Value.int 2 0, Value.int 0 0, Value.int 0 0, Value.int 3 0, Value.ref 75, Value.bool true, Value.int 276 0, Value.ref 76, Value.none, Value.ref 77, Value.ref 78, Value.ref 79, Value.int 1896 0, Value.int 34 0, Value.str (Str.ofString "/claim/cut.py") 1897]) #[]) ::
  (nat_lit 81, Obj.mk (Value.type "function") none (Data.func (FuncData.mk (Str.ofString "header_encode") (Str.ofString "header_encode") (prm 20) (FuncBody.stmts (bdy 20)) (scp 20) 3 [] (Value.ref 74) Value.none Value.none (Value.str (Str.ofString "cpy313.email.quoprimime") 1376) none (Value.ref 80) Value.none 0)) #[]) ::
  (nat_lit 83, Obj.mk (Value.type "list") none (Data.seq (List.toArray (Value.str (Str.ofString "=00") 339 :: Value.str (Str.ofString "=01") 343 :: Value.str (Str.ofString "=02") 347 :: Value.str (Str.ofString "=03") 351 :: Value.str (Str.ofString "=04") 355 :: Value.str (Str.ofString "=05") 359 :: Value.str (Str.ofString "=06") 363 :: Value.str (Str.ofString "=07") 367 :: Value.str (Str.ofString "=08") 371 :: Value.str (Str.ofString "\t") 1874 :: Value.str (Str.ofString "\n") 1906 :: Value.str (Str.ofString "=0B") 383 :: Value.str (Str.ofString "=0C") 387 :: Value.str (Str.ofString "\x0d") 1903 :: Value.str (Str.ofString "=0E") 395 :: Value.str (Str.ofString "=0F") 399 :: Value.str (Str.ofString "=10") 403 :: Value.str (Str.ofString "=11") 407 :: Value.str (Str.ofString "=12") 411 :: Value.str (Str.ofString "=13") 415 :: Value.str (Str.ofString "=14") 419 :: Value.str (Str.ofString "=15") 423 :: Value.str (Str.ofString "=16") 427 :: Value.str (Str.ofString "=17") 431 :: Value.str (Str.ofString "=18") 435 :: Value.str (Str.ofString "=19") 439 :: Value.str (Str.ofString "=1A") 443 :: Value.str (Str.ofString "=1B") 447 :: Value.str (Str.ofString "=1C") 451 :: Value.str (Str.ofString "=1D") 455 :: Value.str (Str.ofString "=1E") 459 :: Value.str (Str.ofString "=1F") 463 :: Value.str (Str.ofString " ") 1592 :: Value.str (Str.ofString "!") 1595 :: Value.str (Str.ofString "\"") 1598 :: Value.str (Str.ofString "#") 1601 :: Value.str (Str.ofString "$") 1604 :: Value.str (Str.ofString "%") 1607 :: Value.str (Str.ofString "&") 1610 :: Value.str (Str.ofString "'") 1613 :: Value.str (Str.ofString "(") 1616 :: Value.str (Str.ofString ")") 1619 :: Value.str (Str.ofString "*") 1622 :: Value.str (Str.ofString "+") 1625 :: Value.str (Str.ofString ",") 1628 :: Value.str (Str.ofString "-") 1631 :: Value.str (Str.ofString ".") 1634 :: Value.str (Str.ofString "/") 1637 :: Value.str (Str.ofString "0") 1640 :: Value.str (Str.ofString "1") 1643 :: Value.str (Str.ofString "2") 1646 :: Value.str (Str.ofString "3") 1649 :: Value.str (Str.ofString "4") 1652 :: Value.str (Str.ofString "5") 1655 :: Value.str (Str.ofString "6") 1658 :: Value.str (Str.ofString "7") 1661 :: Value.str (Str.ofString "8") 1664 :: Value.str (Str.ofString "9") 1667 :: Value.str (Str.ofString ":") 1670 :: Value.str (Str.ofString ";") 1673 :: Value.str (Str.ofString "<") 1676 :: Value.str (Str.ofString "=3D") 583 :: Value.str (Str.ofString ">") 1679 :: Value.str (Str.ofString "?") 1682 :: Value.str (Str.ofString "@") 1685 :: Value.str (Str.ofString "A") 1688 :: Value.str (Str.ofString "B") 1691 :: Value.str (Str.ofString "C") 1694 :: Value.str (Str.ofString "D") 1697 :: Value.str (Str.ofString "E") 1700 :: Value.str (Str.ofString "F") 1703 :: Value.str (Str.ofString "G") 1706 :: Value.str (Str.ofString "H") 1709 :: Value.str (Str.ofString "I") 1712 :: Value.str (Str.ofString "J") 1715 :: Value.str (Str.ofString "K") 1718 :: Value.str (Str.ofString "L") 1721 :: Value.str (Str.ofString "M") 1724 :: Value.str (Str.ofString "N") 1727 :: Value.str (Str.ofString "O") 1730 :: Value.str (Str.ofString "P") 1733 :: Value.str (Str.ofString "Q") 1736 :: Value.str (Str.ofString "R") 1739 :: Value.str (Str.ofString "S") 1742 :: Value.str (Str.ofString "T") 1745 :: Value.str (Str.ofString "U") 1748 :: Value.str (Str.ofString "V") 1751 :: Value.str (Str.ofString "W") 1754 :: Value.str (Str.ofString "X") 1757 :: Value.str (Str.ofString "Y") 1760 :: Value.str (Str.ofString "Z") 1763 :: Value.str (Str.ofString "[") 1766 :: Value.str (Str.ofString "\\") 1769 :: Value.str (Str.ofString "]") 1772 :: Value.str (Str.ofString "^") 1775 :: Value.str (Str.ofString "_") 1778 :: Value.str (Str.ofString "`") 1781 :: Value.str (Str.ofString "a") 1784 :: Value.str (Str.ofString "b") 1787 :: Value.str (Str.ofString "c") 1790 :: Value.str (Str.ofString "d") 1793 :: Value.str (Str.ofString "e") 1796 :: Value.str (Str.ofString "f") 1799 :: Value.str (Str.ofString "g") 1802 :: Value.str (Str.ofString "h") 1805 :: Value.str (Str.ofString "i") 1808 :: Value.str (Str.ofString "j") 1811 :: Value.str (Str.ofString "k") 1814 :: Value.str (Str.ofString "l") 1817 :: Value.str (Str.ofString "m") 1820 :: Value.str (Str.ofString "n") 1823 :: Value.str (Str.ofString "o") 1826 :: Value.str (Str.ofString "p") 1829 :: Value.str (Str.ofString "q") 1832 :: Value.str (Str.ofString "r") 1835 :: Value.str (Str.ofString "s") 1838 :: Value.str (Str.ofString "t") 1841 :: Value.str (Str.ofString "u") 1844 :: Value.str (Str.ofString "v") 1847 :: Value.str (Str.ofString "w") 1850 :: Value.str (Str.ofString "x") 1853 :: Value.str (Str.ofString "y") 1856 :: Value.str (Str.ofString "z") 1859 :: Value.str (Str.ofString "{") 1862 :: Value.str (Str.ofString "|") 1865 :: Value.str (Str.ofString "}") 1868 :: Value.str (Str.ofString "~") 1871 :: Value.str (Str.ofString "=7F") 847 :: Value.str (Str.ofString "=80") 851 :: Value.str (Str.ofString "=81") 855 :: Value.str (Str.ofString "=82") 859 :: Value.str (Str.ofString "=83") 863 :: Value.str (Str.ofString "=84") 867 :: Value.str (Str.ofString "=85") 871 :: Value.str (Str.ofString "=86") 875 :: Value.str (Str.ofString "=87") 879 :: Value.str (Str.ofString "=88") 883 :: Value.str (Str.ofString "=89") 887 :: Value.str (Str.ofString "=8A") 891 :: Value.str (Str.ofString "=8B") 895 :: Value.str (Str.ofString "=8C") 899 :: Value.str (Str.ofString "=8D") 903 :: Value.str (Str.ofString "=8E") 907 :: Value.str (Str.ofString "=8F") 911 :: Value.str (Str.ofString "=90") 915 :: Value.str (Str.ofString "=91") 919 :: Value.str (Str.ofString "=92") 923 :: Value.str (Str.ofString "=93") 927 :: Value.str (Str.ofString "=94") 931 :: Value.str (Str.ofString "=95") 935 :: Value.str (Str.ofString "=96") 939 :: Value.str (Str.ofString "=97") 943 :: Value.str (Str.ofString "=98") 947 :: Value.str (Str.ofString "=99") 951 :: Value.str (Str.ofString "=9A") 955 :: Value.str (Str.ofString "=9B") 959 :: Value.str (Str.ofString "=9C") 963 :: Value.str (Str.ofString "=9D") 967 :: Value.str (Str.ofString "=9E") 971 :: Value.str (Str.ofString "=9F") 975 :: Value.str (Str.ofString "=A0") 979 :: Value.str (Str.ofString "=A1") 983 :: Value.str (Str.ofString "=A2") 987 :: Value.str (Str.ofString "=A3") 991 :: Value.str (Str.ofString "=A4") 995 :: Value.str (Str.ofString "=A5") 999 :: Value.str (Str.ofString "=A6") 1003 :: Value.str (Str.ofString "=A7") 1007 :: Value.str (Str.ofString "=A8") 1011 :: Value.str (Str.ofString "=A9") 1015 :: Value.str (Str.ofString "=AA") 1019 :: Value.str (Str.ofString "=AB") 1023 :: Value.str (Str.ofString "=AC") 1027 :: Value.str (Str.ofString "=AD") 1031 :: Value.str (Str.ofString "=AE") 1035 :: Value.str (Str.ofString "=AF") 1039 :: Value.str (Str.ofString "=B0") 1043 :: Value.str (Str.ofString "=B1") 1047 :: Value.str (Str.ofString "=B2") 1051 :: Value.str (Str.ofString "=B3") 1055 :: Value.str (Str.ofString "=B4") 1059 :: Value.str (Str.ofString "=B5") 1063 :: Value.str (Str.ofString "=B6") 1067 :: Value.str (Str.ofString "=B7") 1071 :: Value.str (Str.ofString "=B8") 1075 :: Value.str (Str.ofString "=B9") 1079 :: Value.str (Str.ofString "=BA") 1083 :: Value.str (Str.ofString "=BB") 1087 :: Value.str (Str.ofString "=BC") 1091 :: Value.str (Str.ofString "=BD") 1095 :: Value.str (Str.ofString "=BE") 1099 :: Value.str (Str.ofString "=BF") 1103 :: Value.str (Str.ofString "=C0") 1107 :: Value.str (Str.ofString "=C1") 1111 :: Value.str (Str.ofString "=C2") 1115 :: Value.str (Str.ofString "=C3") 1119 :: Value.str (Str.ofString "=C4") 1123 :: Value.str (Str.ofString "=C5") 1127 :: Value.str (Str.ofString "=C6") 1131 :: Value.str (Str.ofString "=C7") 1135 :: Value.str (Str.ofString "=C8") 1139 :: Value.str (Str.ofString "=C9") 1143 :: Value.str (Str.ofString "=CA") 1147 :: Value.str (Str.ofString "=CB") 1151 :: Value.str (Str.ofString "=CC") 1155 :: Value.str (Str.ofString "=CD") 1159 :: Value.str (Str.ofString "=CE") 1163 :: Value.str (Str.ofString "=CF") 1167 :: Value.str (Str.ofString "=D0") 1171 :: Value.str (Str.ofString "=D1") 1175 :: Value.str (Str.ofString "=D2") 1179 :: Value.str (Str.ofString "=D3") 1183 :: Value.str (Str.ofString "=D4") 1187 :: Value.str (Str.ofString "=D5") 1191 :: Value.str (Str.ofString "=D6") 1195 :: Value.str (Str.ofString "=D7") 1199 :: Value.str (Str.ofString "=D8") 1203 :: Value.str (Str.ofString "=D9") 1207 :: Value.str (Str.ofString "=DA") 1211 :: Value.str (Str.ofString "=DB") 1215 :: Value.str (Str.ofString "=DC") 1219 :: Value.str (Str.ofString "=DD") 1223 :: Value.str (Str.ofString "=DE") 1227 :: Value.str (Str.ofString "=DF") 1231 :: Value.str (Str.ofString "=E0") 1235 :: Value.str (Str.ofString "=E1") 1239 :: Value.str (Str.ofString "=E2") 1243 :: Value.str (Str.ofString "=E3") 1247 :: Value.str (Str.ofString "=E4") 1251 :: Value.str (Str.ofString "=E5") 1255 :: Value.str (Str.ofString "=E6") 1259 :: Value.str (Str.ofString "=E7") 1263 :: Value.str (Str.ofString "=E8") 1267 :: Value.str (Str.ofString "=E9") 1271 :: Value.str (Str.ofString "=EA") 1275 :: Value.str (Str.ofString "=EB") 1279 :: Value.str (Str.ofString "=EC") 1283 :: Value.str (Str.ofString "=ED") 1287 :: Value.str (Str.ofString "=EE") 1291 :: Value.str (Str.ofString "=EF") 1295 :: Value.str (Str.ofString "=F0") 1299 :: Value.str (Str.ofString "=F1") 1303 :: Value.str (Str.ofString "=F2") 1307 :: Value.str (Str.ofString "=F3") 1311 :: Value.str (Str.ofString "=F4") 1315 :: Value.str (Str.ofString "=F5") 1319 :: Value.str (Str.ofString "=F6") 1323 :: Value.str (Str.ofString "=F7") 1327 :: Value.str (Str.ofString "=F8") 1331 :: Value.str (Str.ofString "=F9") 1335 :: Value.str (Str.ofString "=FA") 1339 :: Value.str (Str.ofString "=FB") 1343 :: Value.str (Str.ofString "=FC") 1347 :: Value.str (Str.ofString "=FD") 1351 :: Value.str (Str.ofString "=FE") 1355 :: Value.str (Str.ofString "=FF") 1359 :: []))) #[]) ::
  (nat_lit 87, Obj.mk (Value.type "tuple") none (Data.seq #[Value.int 76 1907, Value.str (Str.ofString "\n") 331]) #[]) ::
  (nat_lit 88, Obj.mk (Value.type "tuple") none (Data.seq #[]) #[]) ::
  (nat_lit 90, Obj.mk (Value.type "tuple") none (Data.seq #[Value.str (Str.ofString "body") 1911, Value.str (Str.ofString "maxlinelen") 1912, Value.str (Str.ofString "eol") 1913, Value.str (Str.ofString "soft_break") 1914, Value.str (Str.ofString "maxlinelen1") 1915, Value.str (Str.ofString "encoded_body") 1916, Value.str (Str.ofString "append") 1917, Value.str (Str.ofString "line") 1918, Value.str (Str.ofString "start") 1919, Value.str (Str.ofString "laststart") 1920, Value.str (Str.ofString "stop") 1921, Value.str (Str.ofString "room") 1922, Value.str (Str.ofString "q") 1923]) #[]) ::
  (nat_lit 91, Obj.mk (Value.type "tuple") none (Data.seq #[]) #[]) ::
  (nat_lit 93, Obj.mk (Value.type "code") none (Data.fields #[Value.str (Str.ofString "body_encode") 1908, Value.str (Str.ofString "body_encode") 1909, Value.str (Str.ofString "/claim/cut.py") 1910, Value.int 43 0, Value.int 3 0, Value.int 0 0, Value.int 0 0, Value.int 3 0, Value.ref 88, Value.bool true, Value.int 276 0, Value.ref 89, Value.none, Value.ref 90, Value.ref 91, Value.ref 92, Value.int 1924 0, Value.int 43 0, Value.str (Str.ofString "/claim/cut.py") 1925]) #[]) ::
  (nat_lit 94, Obj.mk (Value.type "function") none (Data.func (FuncData.mk (Str.ofString "body_encode") (Str.ofString "body_encode") (prm 24) (FuncBody.stmts (bdy 24)) (scp 24) 3 [] (Value.ref 87) Value.none Value.none (Value.str (Str.ofString "cpy313.email.quoprimime") 1376) none (Value.ref 93) Value.none 0)) #[]) ::
  (nat_lit 95, Obj.mk (Value.type "tuple") none (Data.seq #[Value.str (Str.ofString "\n") 331]) #[]) ::
  (nat_lit 96, Obj.mk (Value.type "tuple") none (Data.seq #[]) #[]) ::
  (nat_lit 98, Obj.mk (Value.type "tuple") none (Data.seq #[Value.str (Str.ofString "encoded") 1930, Value.str (Str.ofString "eol") 1931, Value.str (Str.ofString "decoded") 1932, Value.str (Str.ofString "line") 1933, Value.str (Str.ofString "i") 1934, Value.str (Str.ofString "n") 1935, Value.str (Str.ofString "c") 1936]) #[]) ::
  (nat_lit 99, Obj.mk (Value.type "tuple") none (Data.seq #[]) #[]) ::
  (nat_lit 101, Obj.mk (Value.type "code") none (Data.fields #[Value.str (Str.ofString "decode") 1927, Value.str (Str.ofString "decode") 1928, Value.str (Str.ofString "/claim/cut.py") 1929, Value.int 81 0, Value.int 2 0, Value.int 0 0, Value.int 0 0, Value.int 3 0, Value.ref 96, Value.bool true, Value.int 276 0, Value.ref 97, Value.none, Value.ref 98, Value.ref 99, Value.ref 100, Value.int 1937 0, Value.int 81 0, Value.str (Str.ofString "/claim/cut.py") 1938]) #[]) ::
  (nat_lit 102, Obj.mk (Value.type "function") none (Data.func (FuncData.mk (Str.ofString "decode") (Str.ofString "decode") (prm 25) (FuncBody.stmts (bdy 25)) (scp 25) 3 [] (Value.ref 95) Value.none Value.none (Value.str (Str.ofString "cpy313.email.quoprimime") 1376) none (Value.ref 101) Value.none 0)) #[]) ::
  (nat_lit 103, Obj.mk (Value.type "tuple") none (Data.seq #[]) #[]) ::
  (nat_lit 105, Obj.mk (Value.type "tuple") none (Data.seq #[Value.str (Str.ofString "match") 1943, Value.str (Str.ofString "s") 1944]) #[]) ::
  (nat_lit 106, Obj.mk (Value.type "tuple") none (Data.seq #[]) #[]) ::
  (nat_lit 108, Obj.mk (Value.type "code") none (Data.fields #[Value.str (Str.ofString "_unquote_match") 1940, Value.str (Str.ofString "_unquote_match") 1941, Value.str (Str.ofString "/claim/cut.py") 1942, Value.int 111 0, Value.int 1 0, Value.int 0 0, Value.int 0 0, Value.int 3 0, Value.ref 103, Value.bool true, Value.int 276 0, Value.ref 104, Value.none, Value.ref 105, Value.ref 106, Value.ref 107, Value.int 1945 0, Value.int 111 0, Value.str (Str.ofString "/claim/cut.py") 1946]) #[]) ::
  (nat_lit 109, Obj.mk (Value.type "function") none (Data.func (FuncData.mk (Str.ofString "_unquote_match") (Str.ofString "_unquote_match") (prm 26) (FuncBody.stmts (bdy 26)) (scp 26) 3 [] Value.none Value.none Value.none (Value.str (Str.ofString "cpy313.email.quoprimime") 1376) none (Value.ref 108) Value.none 0)) #[]) ::
  (nat_lit 110, Obj.mk (Value.type "tuple") none (Data.seq #[]) #[]) ::
  (nat_lit 112, Obj.mk (Value.type "tuple") none (Data.seq #[Value.str (Str.ofString "s") 1951]) #[]) ::
  (nat_lit 113, Obj.mk (Value.type "tuple") none (Data.seq #[]) #[]) ::
  (nat_lit 115, Obj.mk (Value.type "code") none (Data.fields #[Value.str (Str.ofString "header_decode") 1948, Value.str (Str.ofString "header_decode") 1949, Value.str (Str.ofString "/claim/cut.py") 1950, Value.int 114 0, Value.int 1 0, Value.int 0 0, Value.int 0 0, Value.int 3 0, Value.ref 110, Value.bool true, Value.int 276 0, Value.ref 111, Value.none, Value.ref 112, Value.ref 113, Value.ref 114, Value.int 1952 0, Value.int 114 0, Value.str (Str.ofString "/claim/cut.py") 1953]) #[]) ::
  (nat_lit 116, Obj.mk (Value.type "function") none (Data.func (FuncData.mk (Str.ofString "header_decode") (Str.ofString "header_decode") (prm 27) (FuncBody.stmts (bdy 27)) (scp 27) 3 [] Value.none Value.none Value.none (Value.str (Str.ofString "cpy313.email.quoprimime") 1376) none (Value.ref 115) Value.none 0)) #[]) ::
  (nat_lit 117, Obj.mk (Value.type "tuple") none (Data.seq #[]) #[]) ::
  (nat_lit 120, Obj.mk (Value.type "code") none (Data.fields #[Value.str (Str.ofString "_law_field") 1957, Value.str (Str.ofString "_law_field") 1958, Value.str (Str.ofString "/claim/cut.py") 1959, Value.int 118 0, Value.int 1 0, Value.int 0 0, Value.int 0 0, Value.int 3 0, Value.ref 117, Value.bool true, Value.int 276 0, Value.ref 118, Value.none, Value.none, Value.none, Value.ref 119, Value.int 1960 0, Value.int 118 0, Value.str (Str.ofString "/claim/cut.py") 1961]) #[]) ::
  (nat_lit 121, Obj.mk (Value.type "function") none (Data.func (FuncData.mk (Str.ofString "_law_field") (Str.ofString "_law_field") (prm 29) (FuncBody.stmts (bdy 29)) (scp 29) 3 [] Value.none Value.none Value.none (Value.str (Str.ofString "law_nb0210_01") 1955) none (Value.ref 120) Value.none 0)) #[]) ::
  (nat_lit 122, Obj.mk (Value.type "tuple") none (Data.seq #[]) #[]) ::
  (nat_lit 124, Obj.mk (Value.type "tuple") none (Data.seq #[Value.str (Str.ofString "left") 1966, Value.str (Str.ofString "word") 1967, Value.str (Str.ofString "right") 1968, Value.str (Str.ofString "amount") 1969, Value.str (Str.ofString "front") 1970, Value.str (Str.ofString "behind") 1971]) #[]) ::
  (nat_lit 125, Obj.mk (Value.type "tuple") none (Data.seq #[]) #[]) ::
  (nat_lit 127, Obj.mk (Value.type "code") none (Data.fields #[Value.str (Str.ofString "_law_left") 1963, Value.str (Str.ofString "_law_left") 1964, Value.str (Str.ofString "/claim/cut.py") 1965, Value.int 122 0, Value.int 4 0, Value.int 0 0, Value.int 0 0, Value.int 3 0, Value.ref 122, Value.bool true, Value.int 276 0, Value.ref 123, Value.none, Value.ref 124, Value.ref 125, Value.ref 126, Value.int 1972 0, Value.int 122 0, Value.str (Str.ofString "/claim/cut.py") 1973]) #[]) ::
  (nat_lit 128, Obj.mk (Value.type "function") none (Data.func (FuncData.mk (Str.ofString "_law_left") (Str.ofString "_law_left") (prm 30) (FuncBody.stmts (bdy 30)) (scp 30) 3 [] Value.none Value.none Value.none (Value.str (Str.ofString "law_nb0210_01") 1955) none (Value.ref 127) Value.none 0)) #[]) ::
  (nat_lit 129, Obj.mk (Value.type "tuple") none (Data.seq #[]) #[]) ::
  (nat_lit 132, Obj.mk (Value.type "code") none (Data.fields #[Value.str (Str.ofString "_law_header") 1975, Value.str (Str.ofString "_law_header") 1976, Value.str (Str.ofString "/claim/cut.py") 1977, Value.int 126 0, Value.int 1 0, Value.int 0 0, Value.int 0 0, Value.int 3 0, Value.ref 129, Value.bool true, Value.int 276 0, Value.ref 130, Value.none, Value.none, Value.none, Value.ref 131, Value.int 1978 0, Value.int 126 0, Value.str (Str.ofString "/claim/cut.py") 1979]) #[]) ::
  (nat_lit 133, Obj.mk (Value.type "function") none (Data.func (FuncData.mk (Str.ofString "_law_header") (Str.ofString "_law_header") (prm 31) (FuncBody.stmts (bdy 31)) (scp 31) 3 [] Value.none Value.none Value.none (Value.str (Str.ofString "law_nb0210_01") 1955) none (Value.ref 132) Value.none 0)) #[]) ::
  (nat_lit 134, Obj.mk (Value.type "tuple") none (Data.seq #[]) #[]) ::
  (nat_lit 136, Obj.mk (Value.type "tuple") none (Data.seq #[Value.str (Str.ofString "word") 1984]) #[]) ::
  (nat_lit 137, Obj.mk (Value.type "tuple") none (Data.seq #[]) #[]) ::
  (nat_lit 139, Obj.mk (Value.type "code") none (Data.fields #[Value.str (Str.ofString "_law_body") 1981, Value.str (Str.ofString "_law_body") 1982, Value.str (Str.ofString "/claim/cut.py") 1983, Value.int 129 0, Value.int 1 0, Value.int 0 0, Value.int 0 0, Value.int 3 0, Value.ref 134, Value.bool true, Value.int 276 0, Value.ref 135, Value.none, Value.ref 136, Value.ref 137, Value.ref 138, Value.int 1985 0, Value.int 129 0, Value.str (Str.ofString "/claim/cut.py") 1986]) #[]) ::
  (nat_lit 140, Obj.mk (Value.type "function") none (Data.func (FuncData.mk (Str.ofString "_law_body") (Str.ofString "_law_body") (prm 32) (FuncBody.stmts (bdy 32)) (scp 32) 3 [] Value.none Value.none Value.none (Value.str (Str.ofString "law_nb0210_01") 1955) none (Value.ref 139) Value.none 0)) #[]) ::
  (nat_lit 141, Obj.mk (Value.type "tuple") none (Data.seq #[]) #[]) ::
  (nat_lit 143, Obj.mk (Value.type "tuple") none (Data.seq #[Value.str (Str.ofString "script") 1991, Value.str (Str.ofString "x") 1992, Value.str (Str.ofString "left") 1993, Value.str (Str.ofString "word") 1994, Value.str (Str.ofString "right") 1995, Value.str (Str.ofString "amount") 1996, Value.str (Str.ofString "text") 1997, Value.str (Str.ofString "due") 1998, Value.str (Str.ofString "inner") 1999, Value.str (Str.ofString "end") 2000, Value.str (Str.ofString "coded") 2001]) #[]) ::
  (nat_lit 144, Obj.mk (Value.type "tuple") none (Data.seq #[]) #[]) ::
  (nat_lit 146, Obj.mk (Value.type "code") none (Data.fields #[Value.str (Str.ofString "law") 1988, Value.str (Str.ofString "law") 1989, Value.str (Str.ofString "/claim/cut.py") 1990, Value.int 131 0, Value.int 1 0, Value.int 0 0, Value.int 0 0, Value.int 3 0, Value.ref 141, Value.bool true, Value.int 276 0, Value.ref 142, Value.none, Value.ref 143, Value.ref 144, Value.ref 145, Value.int 2002 0, Value.int 131 0, Value.str (Str.ofString "/claim/cut.py") 2003]) #[]) ::
  (nat_lit 147, Obj.mk (Value.type "function") none (Data.func (FuncData.mk (Str.ofString "law") (Str.ofString "law") (prm 33) (FuncBody.stmts (bdy 33)) (scp 33) 3 [] Value.none Value.none Value.none (Value.str (Str.ofString "law_nb0210_01") 1955) none (Value.ref 146) Value.none 0)) #[]) :: []
noncomputable abbrev VW : Program := Mine.hd.view_39
noncomputable abbrev LO : List Str := looseW Mine.hd.view_39
      [Str.ofString "_twin_re_1", Str.ofString "_QUOPRI_MAP", Str.ofString "_QUOPRI_HEADER_MAP",
        Str.ofString "_QUOPRI_BODY_MAP", Str.ofString "ascii_letters", Str.ofString "hexdigits",
        Str.ofString "header_encode", Str.ofString "_QUOPRI_BODY_ENCODE_MAP", Str.ofString "body_encode",
        Str.ofString "decode"]
noncomputable abbrev KK (w : World) : Frag := Mine.hd.heap_39 w.params
end Mine
end
section
open PySem PySem.W PyProof.Rows
set_option maxRecDepth 100000
namespace Mine.Hd
noncomputable def ob0 (P : Params) : Obj := Obj.mk (Value.type "dict") none (Data.dict (List.toArray (DictEntry.mk (PyData.keyHash P (Str.ofString "__name__")) (Value.str (Str.ofString "__name__") 1) (Value.str (Str.ofString "builtins") 160) :: DictEntry.mk (PyData.keyHash P (Str.ofString "__doc__")) (Value.str (Str.ofString "__doc__") 2) (Value.builtin "builtins.__doc__:str#opaque") :: DictEntry.mk (PyData.keyHash P (Str.ofString "__package__")) (Value.str (Str.ofString "__package__") 3) (Value.builtin "builtins.__package__:str#opaque") :: DictEntry.mk (PyData.keyHash P (Str.ofString "__loader__")) (Value.str (Str.ofString "__loader__") 4) (Value.builtin "builtins.__loader__:shared#opaque") :: DictEntry.mk (PyData.keyHash P (Str.ofString "__spec__")) (Value.str (Str.ofString "__spec__") 5) (Value.builtin "builtins.__spec__#opaque") :: DictEntry.mk (PyData.keyHash P (Str.ofString "__build_class__")) (Value.str (Str.ofString "__build_class__") 6) (Value.builtin "__build_class__") :: DictEntry.mk (PyData.keyHash P (Str.ofString "__import__")) (Value.str (Str.ofString "__import__") 7) (Value.builtin "__import__") :: DictEntry.mk (PyData.keyHash P (Str.ofString "abs")) (Value.str (Str.ofString "abs") 8) (Value.builtin "abs") :: DictEntry.mk (PyData.keyHash P (Str.ofString "all")) (Value.str (Str.ofString "all") 9) (Value.builtin "all") :: DictEntry.mk (PyData.keyHash P (Str.ofString "any")) (Value.str (Str.ofString "any") 10) (Value.builtin "any") :: DictEntry.mk (PyData.keyHash P (Str.ofString "ascii")) (Value.str (Str.ofString "ascii") 11) (Value.builtin "ascii") :: DictEntry.mk (PyData.keyHash P (Str.ofString "bin")) (Value.str (Str.ofString "bin") 12) (Value.builtin "bin") :: DictEntry.mk (PyData.keyHash P (Str.ofString "breakpoint")) (Value.str (Str.ofString "breakpoint") 13) (Value.builtin "breakpoint") :: DictEntry.mk (PyData.keyHash P (Str.ofString "callable")) (Value.str (Str.ofString "callable") 14) (Value.builtin "callable") :: DictEntry.mk (PyData.keyHash P (Str.ofString "chr")) (Value.str (Str.ofString "chr") 15) (Value.builtin "chr") :: DictEntry.mk (PyData.keyHash P (Str.ofString "compile")) (Value.str (Str.ofString "compile") 16) (Value.builtin "compile") :: DictEntry.mk (PyData.keyHash P (Str.ofString "delattr")) (Value.str (Str.ofString "delattr") 17) (Value.builtin "delattr") :: DictEntry.mk (PyData.keyHash P (Str.ofString "dir")) (Value.str (Str.ofString "dir") 18) (Value.builtin "dir") :: DictEntry.mk (PyData.keyHash P (Str.ofString "divmod")) (Value.str (Str.ofString "divmod") 19) (Value.builtin "divmod") :: DictEntry.mk (PyData.keyHash P (Str.ofString "eval")) (Value.str (Str.ofString "eval") 20) (Value.builtin "eval") :: DictEntry.mk (PyData.keyHash P (Str.ofString "exec")) (Value.str (Str.ofString "exec") 21) (Value.builtin "exec") :: DictEntry.mk (PyData.keyHash P (Str.ofString "format")) (Value.str (Str.ofString "format") 22) (Value.builtin "format") :: DictEntry.mk (PyData.keyHash P (Str.ofString "getattr")) (Value.str (Str.ofString "getattr") 23) (Value.builtin "getattr") :: DictEntry.mk (PyData.keyHash P (Str.ofString "globals")) (Value.str (Str.ofString "globals") 24) (Value.builtin "globals") :: DictEntry.mk (PyData.keyHash P (Str.ofString "hasattr")) (Value.str (Str.ofString "hasattr") 25) (Value.builtin "hasattr") :: DictEntry.mk (PyData.keyHash P (Str.ofString "hash")) (Value.str (Str.ofString "hash") 26) (Value.builtin "hash") :: DictEntry.mk (PyData.keyHash P (Str.ofString "hex")) (Value.str (Str.ofString "hex") 27) (Value.builtin "hex") :: DictEntry.mk (PyData.keyHash P (Str.ofString "id")) (Value.str (Str.ofString "id") 28) (Value.builtin "id") :: DictEntry.mk (PyData.keyHash P (Str.ofString "input")) (Value.str (Str.ofString "input") 29) (Value.builtin "input") :: DictEntry.mk (PyData.keyHash P (Str.ofString "isinstance")) (Value.str (Str.ofString "isinstance") 30) (Value.builtin "isinstance") :: DictEntry.mk (PyData.keyHash P (Str.ofString "issubclass")) (Value.str (Str.ofString "issubclass") 31) (Value.builtin "issubclass") :: DictEntry.mk (PyData.keyHash P (Str.ofString "iter")) (Value.str (Str.ofString "iter") 32) (Value.builtin "iter") :: DictEntry.mk (PyData.keyHash P (Str.ofString "aiter")) (Value.str (Str.ofString "aiter") 33) (Value.builtin "aiter") :: DictEntry.mk (PyData.keyHash P (Str.ofString "len")) (Value.str (Str.ofString "len") 34) (Value.builtin "len") :: DictEntry.mk (PyData.keyHash P (Str.ofString "locals")) (Value.str (Str.ofString "locals") 35) (Value.builtin "locals") :: DictEntry.mk (PyData.keyHash P (Str.ofString "max")) (Value.str (Str.ofString "max") 36) (Value.builtin "max") :: DictEntry.mk (PyData.keyHash P (Str.ofString "min")) (Value.str (Str.ofString "min") 37) (Value.builtin "min") :: DictEntry.mk (PyData.keyHash P (Str.ofString "next")) (Value.str (Str.ofString "next") 38) (Value.builtin "next") :: DictEntry.mk (PyData.keyHash P (Str.ofString "anext")) (Value.str (Str.ofString "anext") 39) (Value.builtin "anext") :: DictEntry.mk (PyData.keyHash P (Str.ofString "oct")) (Value.str (Str.ofString "oct") 40) (Value.builtin "oct") :: DictEntry.mk (PyData.keyHash P (Str.ofString "ord")) (Value.str (Str.ofString "ord") 41) (Value.builtin "ord") :: DictEntry.mk (PyData.keyHash P (Str.ofString "pow")) (Value.str (Str.ofString "pow") 42) (Value.builtin "pow") :: DictEntry.mk (PyData.keyHash P (Str.ofString "print")) (Value.str (Str.ofString "print") 43) (Value.builtin "print") :: DictEntry.mk (PyData.keyHash P (Str.ofString "repr")) (Value.str (Str.ofString "repr") 44) (Value.builtin "repr") :: DictEntry.mk (PyData.keyHash P (Str.ofString "round")) (Value.str (Str.ofString "round") 45) (Value.builtin "round") :: DictEntry.mk (PyData.keyHash P (Str.ofString "setattr")) (Value.str (Str.ofString "setattr") 46) (Value.builtin "setattr") :: DictEntry.mk (PyData.keyHash P (Str.ofString "sorted")) (Value.str (Str.ofString "sorted") 47) (Value.builtin "sorted") :: DictEntry.mk (PyData.keyHash P (Str.ofString "sum")) (Value.str (Str.ofString "sum") 48) (Value.builtin "sum") :: DictEntry.mk (PyData.keyHash P (Str.ofString "vars")) (Value.str (Str.ofString "vars") 49) (Value.builtin "vars") :: DictEntry.mk (PyData.keyHash P (Str.ofString "None")) (Value.str (Str.ofString "None") 50) Value.none :: DictEntry.mk (PyData.keyHash P (Str.ofString "Ellipsis")) (Value.str (Str.ofString "Ellipsis") 51) Value.ellipsis :: DictEntry.mk (PyData.keyHash P (Str.ofString "NotImplemented")) (Value.str (Str.ofString "NotImplemented") 52) Value.notImplemented :: DictEntry.mk (PyData.keyHash P (Str.ofString "False")) (Value.str (Str.ofString "False") 53) (Value.bool false) :: DictEntry.mk (PyData.keyHash P (Str.ofString "True")) (Value.str (Str.ofString "True") 54) (Value.bool true) :: DictEntry.mk (PyData.keyHash P (Str.ofString "bool")) (Value.str (Str.ofString "bool") 55) (Value.type "bool") :: DictEntry.mk (PyData.keyHash P (Str.ofString "memoryview")) (Value.str (Str.ofString "memoryview") 56) (Value.type "memoryview") :: DictEntry.mk (PyData.keyHash P (Str.ofString "bytearray")) (Value.str (Str.ofString "bytearray") 57) (Value.type "bytearray") :: DictEntry.mk (PyData.keyHash P (Str.ofString "bytes")) (Value.str (Str.ofString "bytes") 58) (Value.type "bytes") :: DictEntry.mk (PyData.keyHash P (Str.ofString "classmethod")) (Value.str (Str.ofString "classmethod") 59) (Value.type "classmethod") :: DictEntry.mk (PyData.keyHash P (Str.ofString "complex")) (Value.str (Str.ofString "complex") 60) (Value.type "complex") :: DictEntry.mk (PyData.keyHash P (Str.ofString "dict")) (Value.str (Str.ofString "dict") 61) (Value.type "dict") :: DictEntry.mk (PyData.keyHash P (Str.ofString "enumerate")) (Value.str (Str.ofString "enumerate") 62) (Value.type "enumerate") :: DictEntry.mk (PyData.keyHash P (Str.ofString "filter")) (Value.str (Str.ofString "filter") 63) (Value.type "filter") :: DictEntry.mk (PyData.keyHash P (Str.ofString "float")) (Value.str (Str.ofString "float") 64) (Value.type "float") :: DictEntry.mk (PyData.keyHash P (Str.ofString "frozenset")) (Value.str (Str.ofString "frozenset") 65) (Value.type "frozenset") :: DictEntry.mk (PyData.keyHash P (Str.ofString "property")) (Value.str (Str.ofString "property") 66) (Value.type "property") :: DictEntry.mk (PyData.keyHash P (Str.ofString "int")) (Value.str (Str.ofString "int") 67) (Value.type "int") :: DictEntry.mk (PyData.keyHash P (Str.ofString "list")) (Value.str (Str.ofString "list") 68) (Value.type "list") :: DictEntry.mk (PyData.keyHash P (Str.ofString "map")) (Value.str (Str.ofString "map") 69) (Value.type "map") :: DictEntry.mk (PyData.keyHash P (Str.ofString "object")) (Value.str (Str.ofString "object") 70) (Value.type "object") :: DictEntry.mk (PyData.keyHash P (Str.ofString "range")) (Value.str (Str.ofString "range") 71) (Value.type "range") :: DictEntry.mk (PyData.keyHash P (Str.ofString "reversed")) (Value.str (Str.ofString "reversed") 72) (Value.type "reversed") :: DictEntry.mk (PyData.keyHash P (Str.ofString "set")) (Value.str (Str.ofString "set") 73) (Value.type "set") :: DictEntry.mk (PyData.keyHash P (Str.ofString "slice")) (Value.str (Str.ofString "slice") 74) (Value.type "slice") :: DictEntry.mk (PyData.keyHash P (Str.ofString "staticmethod")) (Value.str (Str.ofString "staticmethod") 75) (Value.type "staticmethod") :: DictEntry.mk (PyData.keyHash P (Str.ofString "str")) (Value.str (Str.ofString "str") 76) (Value.type "str") :: DictEntry.mk (PyData.keyHash P (Str.ofString "super")) (Value.str (Str.ofString "super") 77) (Value.type "super") :: DictEntry.mk (PyData.keyHash P (Str.ofString "tuple")) (Value.str (Str.ofString "tuple") 78) (Value.type "tuple") :: DictEntry.mk (PyData.keyHash P (Str.ofString "type")) (Value.str (Str.ofString "type") 79) (Value.type "type") :: DictEntry.mk (PyData.keyHash P (Str.ofString "zip")) (Value.str (Str.ofString "zip") 80) (Value.type "zip") :: DictEntry.mk (PyData.keyHash P (Str.ofString "__debug__")) (Value.str (Str.ofString "__debug__") 81) (Value.bool true) :: DictEntry.mk (PyData.keyHash P (Str.ofString "BaseException")) (Value.str (Str.ofString "BaseException") 82) (Value.type "BaseException") :: DictEntry.mk (PyData.keyHash P (Str.ofString "BaseExceptionGroup")) (Value.str (Str.ofString "BaseExceptionGroup") 83) (Value.type "BaseExceptionGroup") :: DictEntry.mk (PyData.keyHash P (Str.ofString "Exception")) (Value.str (Str.ofString "Exception") 84) (Value.type "Exception") :: DictEntry.mk (PyData.keyHash P (Str.ofString "GeneratorExit")) (Value.str (Str.ofString "GeneratorExit") 85) (Value.type "GeneratorExit") :: DictEntry.mk (PyData.keyHash P (Str.ofString "KeyboardInterrupt")) (Value.str (Str.ofString "KeyboardInterrupt") 86) (Value.type "KeyboardInterrupt") :: DictEntry.mk (PyData.keyHash P (Str.ofString "SystemExit")) (Value.str (Str.ofString "SystemExit") 87) (Value.type "SystemExit") :: DictEntry.mk (PyData.keyHash P (Str.ofString "ArithmeticError")) (Value.str (Str.ofString "ArithmeticError") 88) (Value.type "ArithmeticError") :: DictEntry.mk (PyData.keyHash P (Str.ofString "AssertionError")) (Value.str (Str.ofString "AssertionError") 89) (Value.type "AssertionError") :: DictEntry.mk (PyData.keyHash P (Str.ofString "AttributeError")) (Value.str (Str.ofString "AttributeError") 90) (Value.type "AttributeError") :: DictEntry.mk (PyData.keyHash P (Str.ofString "BufferError")) (Value.str (Str.ofString "BufferError") 91) (Value.type "BufferError") :: DictEntry.mk (PyData.keyHash P (Str.ofString "EOFError")) (Value.str (Str.ofString "EOFError") 92) (Value.type "EOFError") :: DictEntry.mk (PyData.keyHash P (Str.ofString "ImportError")) (Value.str (Str.ofString "ImportError") 93) (Value.type "ImportError") :: DictEntry.mk (PyData.keyHash P (Str.ofString "LookupError")) (Value.str (Str.ofString "LookupError") 94) (Value.type "LookupError") :: DictEntry.mk (PyData.keyHash P (Str.ofString "MemoryError")) (Value.str (Str.ofString "MemoryError") 95) (Value.type "MemoryError") :: DictEntry.mk (PyData.keyHash P (Str.ofString "NameError")) (Value.str (Str.ofString "NameError") 96) (Value.type "NameError") :: DictEntry.mk (PyData.keyHash P (Str.ofString "OSError")) (Value.str (Str.ofString "OSError") 97) (Value.type "OSError") :: DictEntry.mk (PyData.keyHash P (Str.ofString "ReferenceError")) (Value.str (Str.ofString "ReferenceError") 98) (Value.type "ReferenceError") :: DictEntry.mk (PyData.keyHash P (Str.ofString "RuntimeError")) (Value.str (Str.ofString "RuntimeError") 99) (Value.type "RuntimeError") :: DictEntry.mk (PyData.keyHash P (Str.ofString "StopAsyncIteration")) (Value.str (Str.ofString "StopAsyncIteration") 100) (Value.type "StopAsyncIteration") :: DictEntry.mk (PyData.keyHash P (Str.ofString "StopIteration")) (Value.str (Str.ofString "StopIteration") 101) (Value.type "StopIteration") :: DictEntry.mk (PyData.keyHash P (Str.ofString "SyntaxError")) (Value.str (Str.ofString "SyntaxError") 102) (Value.type "SyntaxError") :: DictEntry.mk (PyData.keyHash P (Str.ofString "SystemError")) (Value.str (Str.ofString "SystemError") 103) (Value.type "SystemError") :: DictEntry.mk (PyData.keyHash P (Str.ofString "TypeError")) (Value.str (Str.ofString "TypeError") 104) (Value.type "TypeError") :: DictEntry.mk (PyData.keyHash P (Str.ofString "ValueError")) (Value.str (Str.ofString "ValueError") 105) (Value.type "ValueError") :: DictEntry.mk (PyData.keyHash P (Str.ofString "Warning")) (Value.str (Str.ofString "Warning") 106) (Value.type "Warning") :: DictEntry.mk (PyData.keyHash P (Str.ofString "FloatingPointError")) (Value.str (Str.ofString "FloatingPointError") 107) (Value.type "FloatingPointError") :: DictEntry.mk (PyData.keyHash P (Str.ofString "OverflowError")) (Value.str (Str.ofString "OverflowError") 108) (Value.type "OverflowError") :: DictEntry.mk (PyData.keyHash P (Str.ofString "ZeroDivisionError")) (Value.str (Str.ofString "ZeroDivisionError") 109) (Value.type "ZeroDivisionError") :: DictEntry.mk (PyData.keyHash P (Str.ofString "BytesWarning")) (Value.str (Str.ofString "BytesWarning") 110) (Value.type "BytesWarning") :: DictEntry.mk (PyData.keyHash P (Str.ofString "DeprecationWarning")) (Value.str (Str.ofString "DeprecationWarning") 111) (Value.type "DeprecationWarning") :: DictEntry.mk (PyData.keyHash P (Str.ofString "EncodingWarning")) (Value.str (Str.ofString "EncodingWarning") 112) (Value.type "EncodingWarning") :: DictEntry.mk (PyData.keyHash P (Str.ofString "FutureWarning")) (Value.str (Str.ofString "FutureWarning") 113) (Value.type "FutureWarning") :: DictEntry.mk (PyData.keyHash P (Str.ofString "ImportWarning")) (Value.str (Str.ofString "ImportWarning") 114) (Value.type "ImportWarning") :: DictEntry.mk (PyData.keyHash P (Str.ofString "PendingDeprecationWarning")) (Value.str (Str.ofString "PendingDeprecationWarning") 115) (Value.type "PendingDeprecationWarning") :: DictEntry.mk (PyData.keyHash P (Str.ofString "ResourceWarning")) (Value.str (Str.ofString "ResourceWarning") 116) (Value.type "ResourceWarning") :: DictEntry.mk (PyData.keyHash P (Str.ofString "RuntimeWarning")) (Value.str (Str.ofString "RuntimeWarning") 117) (Value.type "RuntimeWarning") :: DictEntry.mk (PyData.keyHash P (Str.ofString "SyntaxWarning")) (Value.str (Str.ofString "SyntaxWarning") 118) (Value.type "SyntaxWarning") :: DictEntry.mk (PyData.keyHash P (Str.ofString "UnicodeWarning")) (Value.str (Str.ofString "UnicodeWarning") 119) (Value.type "UnicodeWarning") :: DictEntry.mk (PyData.keyHash P (Str.ofString "UserWarning")) (Value.str (Str.ofString "UserWarning") 120) (Value.type "UserWarning") :: DictEntry.mk (PyData.keyHash P (Str.ofString "BlockingIOError")) (Value.str (Str.ofString "BlockingIOError") 121) (Value.type "BlockingIOError") :: DictEntry.mk (PyData.keyHash P (Str.ofString "ChildProcessError")) (Value.str (Str.ofString "ChildProcessError") 122) (Value.type "ChildProcessError") :: DictEntry.mk (PyData.keyHash P (Str.ofString "ConnectionError")) (Value.str (Str.ofString "ConnectionError") 123) (Value.type "ConnectionError") :: DictEntry.mk (PyData.keyHash P (Str.ofString "FileExistsError")) (Value.str (Str.ofString "FileExistsError") 124) (Value.type "FileExistsError") :: DictEntry.mk (PyData.keyHash P (Str.ofString "FileNotFoundError")) (Value.str (Str.ofString "FileNotFoundError") 125) (Value.type "FileNotFoundError") :: DictEntry.mk (PyData.keyHash P (Str.ofString "InterruptedError")) (Value.str (Str.ofString "InterruptedError") 126) (Value.type "InterruptedError") :: DictEntry.mk (PyData.keyHash P (Str.ofString "IsADirectoryError")) (Value.str (Str.ofString "IsADirectoryError") 127) (Value.type "IsADirectoryError") :: DictEntry.mk (PyData.keyHash P (Str.ofString "NotADirectoryError")) (Value.str (Str.ofString "NotADirectoryError") 128) (Value.type "NotADirectoryError") :: DictEntry.mk (PyData.keyHash P (Str.ofString "PermissionError")) (Value.str (Str.ofString "PermissionError") 129) (Value.type "PermissionError") :: DictEntry.mk (PyData.keyHash P (Str.ofString "ProcessLookupError")) (Value.str (Str.ofString "ProcessLookupError") 130) (Value.type "ProcessLookupError") :: DictEntry.mk (PyData.keyHash P (Str.ofString "TimeoutError")) (Value.str (Str.ofString "TimeoutError") 131) (Value.type "TimeoutError") :: DictEntry.mk (PyData.keyHash P (Str.ofString "IndentationError")) (Value.str (Str.ofString "IndentationError") 132) (Value.type "IndentationError") :: DictEntry.mk (PyData.keyHash P (Str.ofString "_IncompleteInputError")) (Value.str (Str.ofString "_IncompleteInputError") 133) (Value.type "_IncompleteInputError") :: DictEntry.mk (PyData.keyHash P (Str.ofString "IndexError")) (Value.str (Str.ofString "IndexError") 134) (Value.type "IndexError") :: DictEntry.mk (PyData.keyHash P (Str.ofString "KeyError")) (Value.str (Str.ofString "KeyError") 135) (Value.type "KeyError") :: DictEntry.mk (PyData.keyHash P (Str.ofString "ModuleNotFoundError")) (Value.str (Str.ofString "ModuleNotFoundError") 136) (Value.type "ModuleNotFoundError") :: DictEntry.mk (PyData.keyHash P (Str.ofString "NotImplementedError")) (Value.str (Str.ofString "NotImplementedError") 137) (Value.type "NotImplementedError") :: DictEntry.mk (PyData.keyHash P (Str.ofString "PythonFinalizationError")) (Value.str (Str.ofString "PythonFinalizationError") 138) (Value.type "PythonFinalizationError") :: DictEntry.mk (PyData.keyHash P (Str.ofString "RecursionError")) (Value.str (Str.ofString "RecursionError") 139) (Value.type "RecursionError") :: DictEntry.mk (PyData.keyHash P (Str.ofString "UnboundLocalError")) (Value.str (Str.ofString "UnboundLocalError") 140) (Value.type "UnboundLocalError") :: DictEntry.mk (PyData.keyHash P (Str.ofString "UnicodeError")) (Value.str (Str.ofString "UnicodeError") 141) (Value.type "UnicodeError") :: DictEntry.mk (PyData.keyHash P (Str.ofString "BrokenPipeError")) (Value.str (Str.ofString "BrokenPipeError") 142) (Value.type "BrokenPipeError") :: DictEntry.mk (PyData.keyHash P (Str.ofString "ConnectionAbortedError")) (Value.str (Str.ofString "ConnectionAbortedError") 143) (Value.type "ConnectionAbortedError") :: DictEntry.mk (PyData.keyHash P (Str.ofString "ConnectionRefusedError")) (Value.str (Str.ofString "ConnectionRefusedError") 144) (Value.type "ConnectionRefusedError") :: DictEntry.mk (PyData.keyHash P (Str.ofString "ConnectionResetError")) (Value.str (Str.ofString "ConnectionResetError") 145) (Value.type "ConnectionResetError") :: DictEntry.mk (PyData.keyHash P (Str.ofString "TabError")) (Value.str (Str.ofString "TabError") 146) (Value.type "TabError") :: DictEntry.mk (PyData.keyHash P (Str.ofString "UnicodeDecodeError")) (Value.str (Str.ofString "UnicodeDecodeError") 147) (Value.type "UnicodeDecodeError") :: DictEntry.mk (PyData.keyHash P (Str.ofString "UnicodeEncodeError")) (Value.str (Str.ofString "UnicodeEncodeError") 148) (Value.type "UnicodeEncodeError") :: DictEntry.mk (PyData.keyHash P (Str.ofString "UnicodeTranslateError")) (Value.str (Str.ofString "UnicodeTranslateError") 149) (Value.type "UnicodeTranslateError") :: DictEntry.mk (PyData.keyHash P (Str.ofString "ExceptionGroup")) (Value.str (Str.ofString "ExceptionGroup") 150) (Value.type "ExceptionGroup") :: DictEntry.mk (PyData.keyHash P (Str.ofString "EnvironmentError")) (Value.str (Str.ofString "EnvironmentError") 151) (Value.type "OSError") :: DictEntry.mk (PyData.keyHash P (Str.ofString "IOError")) (Value.str (Str.ofString "IOError") 152) (Value.type "OSError") :: DictEntry.mk (PyData.keyHash P (Str.ofString "open")) (Value.str (Str.ofString "open") 153) (Value.builtin "open") :: DictEntry.mk (PyData.keyHash P (Str.ofString "quit")) (Value.str (Str.ofString "quit") 154) (Value.builtin "builtins.quit#opaque") :: DictEntry.mk (PyData.keyHash P (Str.ofString "exit")) (Value.str (Str.ofString "exit") 155) (Value.builtin "builtins.exit#opaque") :: DictEntry.mk (PyData.keyHash P (Str.ofString "copyright")) (Value.str (Str.ofString "copyright") 156) (Value.builtin "builtins.copyright#opaque") :: DictEntry.mk (PyData.keyHash P (Str.ofString "credits")) (Value.str (Str.ofString "credits") 157) (Value.builtin "builtins.credits#opaque") :: DictEntry.mk (PyData.keyHash P (Str.ofString "license")) (Value.str (Str.ofString "license") 158) (Value.builtin "builtins.license#opaque") :: DictEntry.mk (PyData.keyHash P (Str.ofString "help")) (Value.str (Str.ofString "help") 159) (Value.builtin "builtins.help#opaque") :: [])) 159) #[]
noncomputable def ob1 (P : Params) : Obj := Obj.mk (Value.type "dict") none (Data.dict #[DictEntry.mk (PyData.keyHash P (Str.ofString "builtins")) (Value.str (Str.ofString "builtins") 162) (Value.ref 4), DictEntry.mk (PyData.keyHash P (Str.ofString "__main__")) (Value.str (Str.ofString "__main__") 163) (Value.ref 5), DictEntry.mk (PyData.keyHash P (Str.ofString "_sre")) (Value.str (Str.ofString "_sre") 244) (Value.ref 12)] 3) #[]
noncomputable def ob2 (P : Params) : Obj := Obj.mk Value.none none (Data.dict #[DictEntry.mk (PyData.keyHash P (Str.ofString "\x69mport.loaded._sre")) (Value.str (Str.ofString "\x69mport.loaded._sre") 183) (Value.bool true), DictEntry.mk (PyData.keyHash P (Str.ofString "class._frozen_importlib.BuiltinImporter")) (Value.str (Str.ofString "class._frozen_importlib.BuiltinImporter") 185) (Value.ref 14), DictEntry.mk (PyData.keyHash P (Str.ofString "watched.\x69mport")) (Value.str (Str.ofString "watched.\x69mport") 206) (Value.ref 18), DictEntry.mk (PyData.keyHash P (Str.ofString "class._frozen_importlib.ModuleSpec")) (Value.str (Str.ofString "class._frozen_importlib.ModuleSpec") 216) (Value.ref 22), DictEntry.mk (PyData.keyHash P (Str.ofString "sys.modules.booked-epoch")) (Value.str (Str.ofString "sys.modules.booked-epoch") 245) (Value.int 3 0), DictEntry.mk (PyData.keyHash P (Str.ofString "\x69mport.later-laid._sre")) (Value.str (Str.ofString "\x69mport.later-laid._sre") 270) (Value.bool true), DictEntry.mk (PyData.keyHash P (Str.ofString "watched.library")) (Value.str (Str.ofString "watched.library") 272) (Value.ref 27), DictEntry.mk (PyData.keyHash P (Str.ofString "watched.library-objects")) (Value.str (Str.ofString "watched.library-objects") 0) (Value.str (Str.ofString "\x0c") 0), DictEntry.mk (PyData.keyHash P (Str.ofString "watched.library-deep._sre")) (Value.str (Str.ofString "watched.library-deep._sre") 273) (Value.str (Str.ofString "\x04\x00\x00\x0b\x04\x00\x00\x0b\x04\x00\x00\x03\x04\x00\x00\x0b\x08\x04dict\x02") 0)] 9) #[]
noncomputable def ob3 (P : Params) : Obj := Obj.mk (Value.type "dict") none (Data.dict #[DictEntry.mk (PyData.keyHash P (Str.ofString "__name__")) (Value.str (Str.ofString "__name__") 165) (Value.str (Str.ofString "__main__") 164), DictEntry.mk (PyData.keyHash P (Str.ofString "__doc__")) (Value.str (Str.ofString "__doc__") 166) Value.none, DictEntry.mk (PyData.keyHash P (Str.ofString "__package__")) (Value.str (Str.ofString "__package__") 167) Value.none, DictEntry.mk (PyData.keyHash P (Str.ofString "__loader__")) (Value.str (Str.ofString "__loader__") 168) (Value.builtin "__main__.__loader__#opaque"), DictEntry.mk (PyData.keyHash P (Str.ofString "__spec__")) (Value.str (Str.ofString "__spec__") 169) Value.none, DictEntry.mk (PyData.keyHash P (Str.ofString "__annotations__")) (Value.str (Str.ofString "__annotations__") 170) (Value.ref 6), DictEntry.mk (PyData.keyHash P (Str.ofString "__builtins__")) (Value.str (Str.ofString "__builtins__") 171) (Value.ref 4), DictEntry.mk (PyData.keyHash P (Str.ofString "__file__")) (Value.str (Str.ofString "__file__") 173) (Value.str (Str.ofString "/claim/cut.py") 172), DictEntry.mk (PyData.keyHash P (Str.ofString "__cached__")) (Value.str (Str.ofString "__cached__") 174) Value.none, DictEntry.mk (PyData.keyHash P (Str.ofString "_sre")) (Value.str (Str.ofString "_sre") 275) (Value.ref 12)] 10) #[]
noncomputable def ob4 (_ : Params) : Obj := Obj.mk (Value.type "module") (some 0) Data.plain #[]
noncomputable def ob5 (_ : Params) : Obj := Obj.mk (Value.type "module") (some 3) Data.plain #[]
noncomputable def ob6 (_ : Params) : Obj := Obj.mk (Value.type "dict") none (Data.dict #[]) #[]
noncomputable def ob7 (_ : Params) : Obj := Obj.mk (Value.type "tuple") none (Data.seq #[]) #[]
noncomputable def ob8 (_ : Params) : Obj := Obj.mk Value.none none (Data.fields #[]) #[]
noncomputable def ob9 (_ : Params) : Obj := Obj.mk (Value.type "code") none (Data.fields #[Value.str (Str.ofString "<module>") 176, Value.str (Str.ofString "<module>") 177, Value.str (Str.ofString "/claim/cut.py") 178, Value.int 1 0, Value.int 0 0, Value.int 0 0, Value.int 0 0, Value.int 0 0, Value.ref 7, Value.bool false, Value.int 175 0, Value.ref 8, Value.none, Value.none, Value.none, Value.none, Value.int 179 0, Value.int 1 0, Value.str (Str.ofString "/claim/cut.py") 180]) #[]
noncomputable def ob10 (_ : Params) : Obj := Obj.mk (Value.type "frame") none Data.plain #[some (Value.ref 9), some (Value.ref 3), some (Value.ref 3), none, some (Value.str (Str.ofString "__main__") 164), none, some (Value.ref 0)]
noncomputable def ob11 (P : Params) : Obj := Obj.mk (Value.type "dict") none (Data.dict #[DictEntry.mk (PyData.keyHash P (Str.ofString "__name__")) (Value.str (Str.ofString "__name__") 247) (Value.str (Str.ofString "_sre") 246), DictEntry.mk (PyData.keyHash P (Str.ofString "__doc__")) (Value.str (Str.ofString "__doc__") 248) Value.none, DictEntry.mk (PyData.keyHash P (Str.ofString "__package__")) (Value.str (Str.ofString "__package__") 250) (Value.str (Str.ofString "") 249), DictEntry.mk (PyData.keyHash P (Str.ofString "__loader__")) (Value.str (Str.ofString "__loader__") 251) (Value.builtin "off-the-table:_sre.__loader__:shared#opaque"), DictEntry.mk (PyData.keyHash P (Str.ofString "__spec__")) (Value.str (Str.ofString "__spec__") 252) (Value.builtin "off-the-table:_sre.__spec__:shared#opaque"), DictEntry.mk (PyData.keyHash P (Str.ofString "compile")) (Value.str (Str.ofString "compile") 253) (Value.builtin "_sre.compile"), DictEntry.mk (PyData.keyHash P (Str.ofString "template")) (Value.str (Str.ofString "template") 254) (Value.builtin "off-the-table:_sre.template:shared#opaque"), DictEntry.mk (PyData.keyHash P (Str.ofString "getcodesize")) (Value.str (Str.ofString "getcodesize") 255) (Value.builtin "off-the-table:_sre.getcodesize:shared#opaque"), DictEntry.mk (PyData.keyHash P (Str.ofString "ascii_iscased")) (Value.str (Str.ofString "ascii_iscased") 256) (Value.builtin "off-the-table:_sre.ascii_iscased:shared#opaque"), DictEntry.mk (PyData.keyHash P (Str.ofString "unicode_iscased")) (Value.str (Str.ofString "unicode_iscased") 257) (Value.builtin "off-the-table:_sre.unicode_iscased:shared#opaque"), DictEntry.mk (PyData.keyHash P (Str.ofString "ascii_tolower")) (Value.str (Str.ofString "ascii_tolower") 258) (Value.builtin "off-the-table:_sre.ascii_tolower:shared#opaque"), DictEntry.mk (PyData.keyHash P (Str.ofString "unicode_tolower")) (Value.str (Str.ofString "unicode_tolower") 259) (Value.builtin "off-the-table:_sre.unicode_tolower:shared#opaque"), DictEntry.mk (PyData.keyHash P (Str.ofString "MAGIC")) (Value.str (Str.ofString "MAGIC") 261) (Value.int 20230612 260), DictEntry.mk (PyData.keyHash P (Str.ofString "CODESIZE")) (Value.str (Str.ofString "CODESIZE") 263) (Value.int 4 262), DictEntry.mk (PyData.keyHash P (Str.ofString "MAXREPEAT")) (Value.str (Str.ofString "MAXREPEAT") 265) (Value.int 4294967295 264), DictEntry.mk (PyData.keyHash P (Str.ofString "MAXGROUPS")) (Value.str (Str.ofString "MAXGROUPS") 267) (Value.int 1073741823 266), DictEntry.mk (PyData.keyHash P (Str.ofString "copyright")) (Value.str (Str.ofString "copyright") 269) (Value.str (Str.ofString " SRE 2.2.2 Copyright (c) 1997-2002 by Secret Labs AB ") 268)] 17) #[]
noncomputable def ob12 (_ : Params) : Obj := Obj.mk (Value.type "module") (some 11) Data.plain #[]
noncomputable def ob13 (P : Params) : Obj := Obj.mk (Value.type "dict") none (Data.dict #[DictEntry.mk (PyData.keyHash P (Str.ofString "__module__")) (Value.str (Str.ofString "__module__") 189) (Value.str (Str.ofString "_frozen_importlib") 186), DictEntry.mk (PyData.keyHash P (Str.ofString "__firstlineno__")) (Value.str (Str.ofString "__firstlineno__") 190) (Value.int 971 187), DictEntry.mk (PyData.keyHash P (Str.ofString "__doc__")) (Value.str (Str.ofString "__doc__") 191) (Value.builtin "_frozen_importlib.BuiltinImporter.__doc__:str#opaque"), DictEntry.mk (PyData.keyHash P (Str.ofString "_ORIGIN")) (Value.str (Str.ofString "_ORIGIN") 192) (Value.str (Str.ofString "built-in") 188), DictEntry.mk (PyData.keyHash P (Str.ofString "find_spec")) (Value.str (Str.ofString "find_spec") 193) (Value.builtin "_frozen_importlib.BuiltinImporter.find_spec#opaque"), DictEntry.mk (PyData.keyHash P (Str.ofString "create_module")) (Value.str (Str.ofString "create_module") 194) (Value.builtin "_frozen_importlib.BuiltinImporter.create_module#opaque"), DictEntry.mk (PyData.keyHash P (Str.ofString "exec_module")) (Value.str (Str.ofString "exec_module") 195) (Value.builtin "_frozen_importlib.BuiltinImporter.exec_module#opaque"), DictEntry.mk (PyData.keyHash P (Str.ofString "get_code")) (Value.str (Str.ofString "get_code") 196) (Value.builtin "_frozen_importlib.BuiltinImporter.get_code#opaque"), DictEntry.mk (PyData.keyHash P (Str.ofString "get_source")) (Value.str (Str.ofString "get_source") 197) (Value.builtin "_frozen_importlib.BuiltinImporter.get_source#opaque"), DictEntry.mk (PyData.keyHash P (Str.ofString "is_package")) (Value.str (Str.ofString "is_package") 198) (Value.builtin "_frozen_importlib.BuiltinImporter.is_package#opaque"), DictEntry.mk (PyData.keyHash P (Str.ofString "load_module")) (Value.str (Str.ofString "load_module") 199) (Value.builtin "_frozen_importlib.BuiltinImporter.load_module#opaque"), DictEntry.mk (PyData.keyHash P (Str.ofString "__static_attributes__")) (Value.str (Str.ofString "__static_attributes__") 200) (Value.ref 15), DictEntry.mk (PyData.keyHash P (Str.ofString "__dict__")) (Value.str (Str.ofString "__dict__") 202) (Value.ref 16), DictEntry.mk (PyData.keyHash P (Str.ofString "__weakref__")) (Value.str (Str.ofString "__weakref__") 204) (Value.ref 17)] 14) #[]
noncomputable def ob14 (_ : Params) : Obj := Obj.mk (Value.type "type") none (Data.cls (ClassData.mk (Str.ofString "BuiltinImporter") [Value.type "object"] [Value.ref 14, Value.type "object"] 13 (Str.ofString "BuiltinImporter") true [] [] false none false)) #[]
noncomputable def ob15 (_ : Params) : Obj := Obj.mk (Value.type "getset_descriptor") none (Data.fields #[Value.str (Str.ofString "__dict__") 201, Value.ref 14, Value.builtin "function.__dict__", Value.builtin "function.__dict__#set"]) #[]
noncomputable def ob16 (_ : Params) : Obj := Obj.mk (Value.type "getset_descriptor") none (Data.fields #[Value.str (Str.ofString "__weakref__") 203, Value.ref 14, Value.builtin "ExceptionGroup.__weakref__", Value.none]) #[]
noncomputable def ob17 (_ : Params) : Obj := Obj.mk Value.none none (Data.seq #[Value.int 13 0, Value.str (Str.ofString "\x06½\n__module__\x06º\x11_frozen_importlib\x06¾\x0f__firstlineno__\x04»\x00ϋ\x06¿\x07__doc__\t4_frozen_importlib.BuiltinImporter.__doc__:str#opaque\x06À\x07_ORIGIN\x06¼\x08built-in\x06Á\tfind_spec\t2_frozen_importlib.BuiltinImporter.find_spec#opaque\x06Â\x0dcreate_module\t6_frozen_importlib.BuiltinImporter.create_module#opaque\x06Ã\x0bexec_module\t4_frozen_importlib.BuiltinImporter.exec_module#opaque\x06Ä\x08get_code\t1_frozen_importlib.BuiltinImporter.get_code#opaque\x06Å\nget_source\t3_frozen_importlib.BuiltinImporter.get_source#opaque\x06Æ\nis_package\t3_frozen_importlib.BuiltinImporter.is_package#opaque\x06Ç\x0bload_module\t4_frozen_importlib.BuiltinImporter.load_module#opaque\x06È\x15__static_attributes__\x04\x00\x00\x0f\x06Ê\x08__dict__\x04\x00\x00\x10\x06Ì\x0b__weakref__\x04\x00\x00\x11") 0, Value.bool true, Value.bool true, Value.str (Str.ofString "") 205, Value.int 21 0, Value.str (Str.ofString "\x06ã\n__module__\x06Ù\x11_frozen_importlib\x06ä\x0f__firstlineno__\x04Ú\x00Ȳ\x06å\x07__doc__\t/_frozen_importlib.ModuleSpec.__doc__:str#opaque\x06æ\x08__init__\t,_frozen_importlib.ModuleSpec.__init__#opaque\x06ç\x08__repr__\t,_frozen_importlib.ModuleSpec.__repr__#opaque\x06è\x06__eq__\t*_frozen_importlib.ModuleSpec.__eq__#opaque\x06é\x06cached\t*_frozen_importlib.ModuleSpec.cached#opaque\x06ê\x06parent\t*_frozen_importlib.ModuleSpec.parent#opaque\x06ë\x0chas_location\t0_frozen_importlib.ModuleSpec.has_location#opaque\x06ì\x15__static_attributes__\x04\x00\x00\x17\x06î\x08__dict__\x04\x00\x00\x18\x06ð\x0b__weakref__\x04\x00\x00\x19\x06ñ\x08__hash__\x00") 0, Value.bool true, Value.bool true, Value.str (Str.ofString "") 242] 1) #[]
noncomputable def ob18 (_ : Params) : Obj := Obj.mk (Value.type "list") none (Data.seq #[]) #[]
noncomputable def ob19 (P : Params) : Obj := Obj.mk (Value.type "dict") none (Data.dict #[DictEntry.mk (PyData.keyHash P (Str.ofString "name")) (Value.str (Str.ofString "name") 208) (Value.str (Str.ofString "_sre") 207), DictEntry.mk (PyData.keyHash P (Str.ofString "loader")) (Value.str (Str.ofString "loader") 209) (Value.ref 14), DictEntry.mk (PyData.keyHash P (Str.ofString "origin")) (Value.str (Str.ofString "origin") 210) (Value.str (Str.ofString "built-in") 184), DictEntry.mk (PyData.keyHash P (Str.ofString "loader_state")) (Value.str (Str.ofString "loader_state") 211) Value.none, DictEntry.mk (PyData.keyHash P (Str.ofString "submodule_search_locations")) (Value.str (Str.ofString "submodule_search_locations") 212) Value.none, DictEntry.mk (PyData.keyHash P (Str.ofString "_uninitialized_submodules")) (Value.str (Str.ofString "_uninitialized_submodules") 213) (Value.ref 19), DictEntry.mk (PyData.keyHash P (Str.ofString "_set_fileattr")) (Value.str (Str.ofString "_set_fileattr") 214) (Value.bool false), DictEntry.mk (PyData.keyHash P (Str.ofString "_cached")) (Value.str (Str.ofString "_cached") 215) Value.none, DictEntry.mk (PyData.keyHash P (Str.ofString "_initializing")) (Value.str (Str.ofString "_initializing") 243) (Value.bool false)] 9) #[]
noncomputable def ob20 (P : Params) : Obj := Obj.mk (Value.type "dict") none (Data.dict #[DictEntry.mk (PyData.keyHash P (Str.ofString "__module__")) (Value.str (Str.ofString "__module__") 227) (Value.str (Str.ofString "_frozen_importlib") 217), DictEntry.mk (PyData.keyHash P (Str.ofString "__firstlineno__")) (Value.str (Str.ofString "__firstlineno__") 228) (Value.int 562 218), DictEntry.mk (PyData.keyHash P (Str.ofString "__doc__")) (Value.str (Str.ofString "__doc__") 229) (Value.builtin "_frozen_importlib.ModuleSpec.__doc__:str#opaque"), DictEntry.mk (PyData.keyHash P (Str.ofString "__init__")) (Value.str (Str.ofString "__init__") 230) (Value.builtin "_frozen_importlib.ModuleSpec.__init__#opaque"), DictEntry.mk (PyData.keyHash P (Str.ofString "__repr__")) (Value.str (Str.ofString "__repr__") 231) (Value.builtin "_frozen_importlib.ModuleSpec.__repr__#opaque"), DictEntry.mk (PyData.keyHash P (Str.ofString "__eq__")) (Value.str (Str.ofString "__eq__") 232) (Value.builtin "_frozen_importlib.ModuleSpec.__eq__#opaque"), DictEntry.mk (PyData.keyHash P (Str.ofString "cached")) (Value.str (Str.ofString "cached") 233) (Value.builtin "_frozen_importlib.ModuleSpec.cached#opaque"), DictEntry.mk (PyData.keyHash P (Str.ofString "parent")) (Value.str (Str.ofString "parent") 234) (Value.builtin "_frozen_importlib.ModuleSpec.parent#opaque"), DictEntry.mk (PyData.keyHash P (Str.ofString "has_location")) (Value.str (Str.ofString "has_location") 235) (Value.builtin "_frozen_importlib.ModuleSpec.has_location#opaque"), DictEntry.mk (PyData.keyHash P (Str.ofString "__static_attributes__")) (Value.str (Str.ofString "__static_attributes__") 236) (Value.ref 23), DictEntry.mk (PyData.keyHash P (Str.ofString "__dict__")) (Value.str (Str.ofString "__dict__") 238) (Value.ref 24), DictEntry.mk (PyData.keyHash P (Str.ofString "__weakref__")) (Value.str (Str.ofString "__weakref__") 240) (Value.ref 25), DictEntry.mk (PyData.keyHash P (Str.ofString "__hash__")) (Value.str (Str.ofString "__hash__") 241) Value.none] 13) #[]
noncomputable def ob21 (_ : Params) : Obj := Obj.mk (Value.type "type") none (Data.cls (ClassData.mk (Str.ofString "ModuleSpec") [Value.type "object"] [Value.ref 22, Value.type "object"] 21 (Str.ofString "ModuleSpec") true [] [] false none false)) #[]
noncomputable def ob22 (_ : Params) : Obj := Obj.mk (Value.type "tuple") none (Data.seq #[Value.str (Str.ofString "_cached") 219, Value.str (Str.ofString "_set_fileattr") 220, Value.str (Str.ofString "_uninitialized_submodules") 221, Value.str (Str.ofString "loader") 222, Value.str (Str.ofString "loader_state") 223, Value.str (Str.ofString "name") 224, Value.str (Str.ofString "origin") 225, Value.str (Str.ofString "submodule_search_locations") 226]) #[]
noncomputable def ob23 (_ : Params) : Obj := Obj.mk (Value.type "getset_descriptor") none (Data.fields #[Value.str (Str.ofString "__dict__") 237, Value.ref 22, Value.builtin "function.__dict__", Value.builtin "function.__dict__#set"]) #[]
noncomputable def ob24 (_ : Params) : Obj := Obj.mk (Value.type "getset_descriptor") none (Data.fields #[Value.str (Str.ofString "__weakref__") 239, Value.ref 22, Value.builtin "ExceptionGroup.__weakref__", Value.none]) #[]
noncomputable def ob25 (_ : Params) : Obj := Obj.mk (Value.ref 22) (some 20) Data.plain #[]
noncomputable def ob26 (_ : Params) : Obj := Obj.mk Value.none none (Data.seq #[Value.int 11 0, Value.str (Str.mk (List.toArray (6 :: 247 :: 8 :: 95 :: 95 :: 110 :: 97 :: 109 :: 101 :: 95 :: 95 :: 6 :: 246 :: 4 :: 95 :: 115 :: 114 :: 101 :: 6 :: 248 :: 7 :: 95 :: 95 :: 100 :: 111 :: 99 :: 95 :: 95 :: 0 :: 6 :: 250 :: 11 :: 95 :: 95 :: 112 :: 97 :: 99 :: 107 :: 97 :: 103 :: 101 :: 95 :: 95 :: 6 :: 249 :: 0 :: 6 :: 251 :: 10 :: 95 :: 95 :: 108 :: 111 :: 97 :: 100 :: 101 :: 114 :: 95 :: 95 :: 4 :: 0 :: 0 :: 14 :: 6 :: 252 :: 8 :: 95 :: 95 :: 115 :: 112 :: 101 :: 99 :: 95 :: 95 :: 4 :: 0 :: 0 :: 26 :: 6 :: 253 :: 7 :: 99 :: 111 :: 109 :: 112 :: 105 :: 108 :: 101 :: 9 :: 12 :: 95 :: 115 :: 114 :: 101 :: 46 :: 99 :: 111 :: 109 :: 112 :: 105 :: 108 :: 101 :: 6 :: 254 :: 8 :: 116 :: 101 :: 109 :: 112 :: 108 :: 97 :: 116 :: 101 :: 9 :: 13 :: 95 :: 115 :: 114 :: 101 :: 46 :: 116 :: 101 :: 109 :: 112 :: 108 :: 97 :: 116 :: 101 :: 6 :: 255 :: 11 :: 103 :: 101 :: 116 :: 99 :: 111 :: 100 :: 101 :: 115 :: 105 :: 122 :: 101 :: 9 :: 16 :: 95 :: 115 :: 114 :: 101 :: 46 :: 103 :: 101 :: 116 :: 99 :: 111 :: 100 :: 101 :: 115 :: 105 :: 122 :: 101 :: 6 :: 256 :: 13 :: 97 :: 115 :: 99 :: 105 :: 105 :: 95 :: 105 :: 115 :: 99 :: 97 :: 115 :: 101 :: 100 :: 9 :: 18 :: 95 :: 115 :: 114 :: 101 :: 46 :: 97 :: 115 :: 99 :: 105 :: 105 :: 95 :: 105 :: 115 :: 99 :: 97 :: 115 :: 101 :: 100 :: 6 :: 257 :: 15 :: 117 :: 110 :: 105 :: 99 :: 111 :: 100 :: 101 :: 95 :: 105 :: 115 :: 99 :: 97 :: 115 :: 101 :: 100 :: 9 :: 20 :: 95 :: 115 :: 114 :: 101 :: 46 :: 117 :: 110 :: 105 :: 99 :: 111 :: 100 :: 101 :: 95 :: 105 :: 115 :: 99 :: 97 :: 115 :: 101 :: 100 :: 6 :: 258 :: 13 :: 97 :: 115 :: 99 :: 105 :: 105 :: 95 :: 116 :: 111 :: 108 :: 111 :: 119 :: 101 :: 114 :: 9 :: 18 :: 95 :: 115 :: 114 :: 101 :: 46 :: 97 :: 115 :: 99 :: 105 :: 105 :: 95 :: 116 :: 111 :: 108 :: 111 :: 119 :: 101 :: 114 :: 6 :: 259 :: 15 :: 117 :: 110 :: 105 :: 99 :: 111 :: 100 :: 101 :: 95 :: 116 :: 111 :: 108 :: 111 :: 119 :: 101 :: 114 :: 9 :: 20 :: 95 :: 115 :: 114 :: 101 :: 46 :: 117 :: 110 :: 105 :: 99 :: 111 :: 100 :: 101 :: 95 :: 116 :: 111 :: 108 :: 111 :: 119 :: 101 :: 114 :: 6 :: 261 :: 5 :: 77 :: 65 :: 71 :: 73 :: 67 :: 4 :: 260 :: 0 :: 20230612 :: 6 :: 263 :: 8 :: 67 :: 79 :: 68 :: 69 :: 83 :: 73 :: 90 :: 69 :: 4 :: 262 :: 0 :: 4 :: 6 :: 265 :: 9 :: 77 :: 65 :: 88 :: 82 :: 69 :: 80 :: 69 :: 65 :: 84 :: 4 :: 264 :: 0 :: 4294967295 :: 6 :: 267 :: 9 :: 77 :: 65 :: 88 :: 71 :: 82 :: 79 :: 85 :: 80 :: 83 :: 4 :: 266 :: 0 :: 1073741823 :: 6 :: 269 :: 9 :: 99 :: 111 :: 112 :: 121 :: 114 :: 105 :: 103 :: 104 :: 116 :: 6 :: 268 :: 53 :: 32 :: 83 :: 82 :: 69 :: 32 :: 50 :: 46 :: 50 :: 46 :: 50 :: 32 :: 67 :: 111 :: 112 :: 121 :: 114 :: 105 :: 103 :: 104 :: 116 :: 32 :: 40 :: 99 :: 41 :: 32 :: 49 :: 57 :: 57 :: 55 :: 45 :: 50 :: 48 :: 48 :: 50 :: 32 :: 98 :: 121 :: 32 :: 83 :: 101 :: 99 :: 114 :: 101 :: 116 :: 32 :: 76 :: 97 :: 98 :: 115 :: 32 :: 65 :: 66 :: 32 :: []))) 0, Value.bool true, Value.bool false, Value.str (Str.ofString "_sre") 271]) #[]
noncomputable def ob27 (_ : Params) : Obj := Obj.mk (Value.type "code") none (Data.fields #[Value.str (Str.ofString "<module>") 277, Value.str (Str.ofString "<module>") 278, Value.str (Str.ofString "/claim/cut.py") 279, Value.int 1 0, Value.int 0 0, Value.int 0 0, Value.int 0 0, Value.int 0 0, Value.ref 28, Value.bool false, Value.int 276 0, Value.ref 29, Value.none, Value.none, Value.none, Value.none, Value.int 280 0, Value.int 1 0, Value.str (Str.ofString "/claim/cut.py") 281]) #[]
noncomputable def ob28 (_ : Params) : Obj := Obj.mk (Value.type "frame") none Data.plain #[some (Value.ref 30), some (Value.ref 3), some (Value.ref 3), none, some (Value.str (Str.ofString "__main__") 164), none, some (Value.ref 0)]
noncomputable def ob29 (P : Params) : Obj := Obj.mk (Value.type "dict") none (Data.dict #[DictEntry.mk (PyData.keyHash P (Str.ofString "__name__")) (Value.str (Str.ofString "__name__") 165) (Value.str (Str.ofString "cpy313.locale") 282), DictEntry.mk (PyData.keyHash P (Str.ofString "__doc__")) (Value.str (Str.ofString "__doc__") 166) Value.none, DictEntry.mk (PyData.keyHash P (Str.ofString "__package__")) (Value.str (Str.ofString "__package__") 167) Value.none, DictEntry.mk (PyData.keyHash P (Str.ofString "__loader__")) (Value.str (Str.ofString "__loader__") 168) (Value.builtin "__main__.__loader__#opaque"), DictEntry.mk (PyData.keyHash P (Str.ofString "__spec__")) (Value.str (Str.ofString "__spec__") 169) Value.none, DictEntry.mk (PyData.keyHash P (Str.ofString "__annotations__")) (Value.str (Str.ofString "__annotations__") 170) (Value.ref 6), DictEntry.mk (PyData.keyHash P (Str.ofString "__builtins__")) (Value.str (Str.ofString "__builtins__") 171) (Value.ref 4), DictEntry.mk (PyData.keyHash P (Str.ofString "__file__")) (Value.str (Str.ofString "__file__") 173) (Value.str (Str.ofString "/claim/cut.py") 172), DictEntry.mk (PyData.keyHash P (Str.ofString "__cached__")) (Value.str (Str.ofString "__cached__") 174) Value.none, DictEntry.mk (PyData.keyHash P (Str.ofString "_sre")) (Value.str (Str.ofString "_sre") 275) (Value.ref 12), DictEntry.mk (PyData.keyHash P (Str.ofString "_strip_padding")) (Value.str (Str.ofString "_strip_padding") 293) (Value.ref 38), DictEntry.mk (PyData.keyHash P (Str.ofString "_twin_re_1")) (Value.str (Str.ofString "_twin_re_1") 328) (Value.ref 43), DictEntry.mk (PyData.keyHash P (Str.ofString "CRLF")) (Value.str (Str.ofString "CRLF") 330) (Value.str (Str.ofString "\x0d\n") 329), DictEntry.mk (PyData.keyHash P (Str.ofString "NL")) (Value.str (Str.ofString "NL") 332) (Value.str (Str.ofString "\n") 331)] 14) #[]
noncomputable def ob30 (_ : Params) : Obj := Obj.mk Value.none none (Data.fields #[Value.int 3 0, Value.int 0 0, Value.ref 37]) #[]
noncomputable def ob31 (_ : Params) : Obj := Obj.mk (Value.type "tuple") none (Data.seq #[Value.str (Str.ofString "s") 287, Value.str (Str.ofString "amount") 288, Value.str (Str.ofString "lpos") 289, Value.str (Str.ofString "rpos") 290]) #[]
noncomputable def ob32 (_ : Params) : Obj := Obj.mk Value.none none (Data.func (FuncData.mk (Str.ofString "_strip_padding") (Str.ofString "_strip_padding") (prm 2) (FuncBody.stmts (bdy 2)) (scp 2) 0 [] Value.none Value.none Value.none Value.none none Value.none Value.none 0)) #[]
noncomputable def ob33 (_ : Params) : Obj := Obj.mk (Value.type "code") none (Data.fields #[Value.str (Str.ofString "_strip_padding") 284, Value.str (Str.ofString "_strip_padding") 285, Value.str (Str.ofString "/claim/cut.py") 286, Value.int 3 0, Value.int 2 0, Value.int 0 0, Value.int 0 0, Value.int 3 0, Value.ref 32, Value.bool true, Value.int 276 0, Value.ref 33, Value.none, Value.ref 34, Value.ref 35, Value.ref 36, Value.int 291 0, Value.int 3 0, Value.str (Str.ofString "/claim/cut.py") 292]) #[]
noncomputable def ob34 (_ : Params) : Obj := Obj.mk (Value.type "function") none (Data.func (FuncData.mk (Str.ofString "_strip_padding") (Str.ofString "_strip_padding") (prm 2) (FuncBody.stmts (bdy 2)) (scp 2) 3 [] Value.none Value.none Value.none (Value.str (Str.ofString "cpy313.locale") 282) none (Value.ref 37) Value.none 0)) #[]
noncomputable def ob35 (_ : Params) : Obj := Obj.mk (Value.type "list") none (Data.seq #[Value.int 14 297, Value.int 8 298, Value.int 1 299, Value.int 3 300, Value.int 3 301, Value.int 1 302, Value.int 1 303, Value.int 61 304, Value.int 0 305, Value.int 16 306, Value.int 61 307, Value.int 24 308, Value.int 16 309, Value.int 2 310, Value.int 2 311, Value.int 13 312, Value.int 11 313, Value.int 9 314, Value.int 0 315, Value.int 67043328 316, Value.int 126 317, Value.int 126 318, Value.int 0 319, Value.int 0 320, Value.int 0 321, Value.int 0 322, Value.int 0 323, Value.int 1 324, Value.int 1 325]) #[]
noncomputable def ob36 (_ : Params) : Obj := Obj.mk (Value.type "tuple") none (Data.seq #[Value.none]) #[]
noncomputable def ob37 (_ : Params) : Obj := Obj.mk (Value.type "tuple") none (Data.seq #[Value.int 14 0, Value.int 8 0, Value.int 1 0, Value.int 3 0, Value.int 3 0, Value.int 1 0, Value.int 1 0, Value.int 61 0, Value.int 0 0, Value.int 16 0, Value.int 61 0, Value.int 24 0, Value.int 16 0, Value.int 2 0, Value.int 2 0, Value.int 13 0, Value.int 11 0, Value.int 9 0, Value.int 0 0, Value.int 67043328 0, Value.int 126 0, Value.int 126 0, Value.int 0 0, Value.int 0 0, Value.int 0 0, Value.int 0 0, Value.int 0 0, Value.int 1 0, Value.int 1 0]) #[]
noncomputable def ob38 (_ : Params) : Obj := Obj.mk (Value.type "re.Pattern") none (Data.fields #[Value.str (Str.ofString "=[a-fA-F0-9]{2}") 295, Value.int 256 327, Value.int 0 0, Value.none, Value.none, Value.ref 42, Value.int 0 0]) #[]
noncomputable def ob39 (_ : Params) : Obj := Obj.mk (Value.type "range") none (Data.fields #[Value.int 0 334, Value.int 256 333, Value.int 1 335]) #[]
noncomputable def ob40 (_ : Params) : Obj := Obj.mk (Value.type "range_iterator") none (Data.fields #[Value.int 1 0, Value.int 255 0, Value.int 1 0]) #[]
noncomputable def ob41 (_ : Params) : Obj := Obj.mk (Value.type "list") none (Data.seq #[Value.str (Str.ofString "=00") 339] 1) #[]
noncomputable def ob42 (P : Params) : Obj := Obj.mk (Value.type "dict") none (Data.dict #[DictEntry.mk (PyData.keyHash P (Str.ofString "c")) (Value.str (Str.ofString "c") 337) (Value.int 0 336)] 1) #[]
noncomputable def ob43 (_ : Params) : Obj := Obj.mk (Value.type "range_iterator") none (Data.fields #[Value.int 65 0, Value.int 191 0, Value.int 1 0]) #[]
noncomputable def ob44 (_ : Params) : Obj := Obj.mk (Value.type "list") none (Data.seq (List.toArray (Value.str (Str.ofString "=00") 339 :: Value.str (Str.ofString "=01") 343 :: Value.str (Str.ofString "=02") 347 :: Value.str (Str.ofString "=03") 351 :: Value.str (Str.ofString "=04") 355 :: Value.str (Str.ofString "=05") 359 :: Value.str (Str.ofString "=06") 363 :: Value.str (Str.ofString "=07") 367 :: Value.str (Str.ofString "=08") 371 :: Value.str (Str.ofString "=09") 375 :: Value.str (Str.ofString "=0A") 379 :: Value.str (Str.ofString "=0B") 383 :: Value.str (Str.ofString "=0C") 387 :: Value.str (Str.ofString "=0D") 391 :: Value.str (Str.ofString "=0E") 395 :: Value.str (Str.ofString "=0F") 399 :: Value.str (Str.ofString "=10") 403 :: Value.str (Str.ofString "=11") 407 :: Value.str (Str.ofString "=12") 411 :: Value.str (Str.ofString "=13") 415 :: Value.str (Str.ofString "=14") 419 :: Value.str (Str.ofString "=15") 423 :: Value.str (Str.ofString "=16") 427 :: Value.str (Str.ofString "=17") 431 :: Value.str (Str.ofString "=18") 435 :: Value.str (Str.ofString "=19") 439 :: Value.str (Str.ofString "=1A") 443 :: Value.str (Str.ofString "=1B") 447 :: Value.str (Str.ofString "=1C") 451 :: Value.str (Str.ofString "=1D") 455 :: Value.str (Str.ofString "=1E") 459 :: Value.str (Str.ofString "=1F") 463 :: Value.str (Str.ofString "=20") 467 :: Value.str (Str.ofString "=21") 471 :: Value.str (Str.ofString "=22") 475 :: Value.str (Str.ofString "=23") 479 :: Value.str (Str.ofString "=24") 483 :: Value.str (Str.ofString "=25") 487 :: Value.str (Str.ofString "=26") 491 :: Value.str (Str.ofString "=27") 495 :: Value.str (Str.ofString "=28") 499 :: Value.str (Str.ofString "=29") 503 :: Value.str (Str.ofString "=2A") 507 :: Value.str (Str.ofString "=2B") 511 :: Value.str (Str.ofString "=2C") 515 :: Value.str (Str.ofString "=2D") 519 :: Value.str (Str.ofString "=2E") 523 :: Value.str (Str.ofString "=2F") 527 :: Value.str (Str.ofString "=30") 531 :: Value.str (Str.ofString "=31") 535 :: Value.str (Str.ofString "=32") 539 :: Value.str (Str.ofString "=33") 543 :: Value.str (Str.ofString "=34") 547 :: Value.str (Str.ofString "=35") 551 :: Value.str (Str.ofString "=36") 555 :: Value.str (Str.ofString "=37") 559 :: Value.str (Str.ofString "=38") 563 :: Value.str (Str.ofString "=39") 567 :: Value.str (Str.ofString "=3A") 571 :: Value.str (Str.ofString "=3B") 575 :: Value.str (Str.ofString "=3C") 579 :: Value.str (Str.ofString "=3D") 583 :: Value.str (Str.ofString "=3E") 587 :: Value.str (Str.ofString "=3F") 591 :: Value.str (Str.ofString "=40") 595 :: [])) 65) #[]
noncomputable def ob45 (P : Params) : Obj := Obj.mk (Value.type "dict") none (Data.dict #[DictEntry.mk (PyData.keyHash P (Str.ofString "c")) (Value.str (Str.ofString "c") 337) (Value.int 64 592)] 1) #[]
noncomputable def ob46 (_ : Params) : Obj := Obj.mk (Value.type "range_iterator") none (Data.fields #[Value.int 129 0, Value.int 127 0, Value.int 1 0]) #[]
noncomputable def ob47 (_ : Params) : Obj := Obj.mk (Value.type "list") none (Data.seq (List.toArray (Value.str (Str.ofString "=00") 339 :: Value.str (Str.ofString "=01") 343 :: Value.str (Str.ofString "=02") 347 :: Value.str (Str.ofString "=03") 351 :: Value.str (Str.ofString "=04") 355 :: Value.str (Str.ofString "=05") 359 :: Value.str (Str.ofString "=06") 363 :: Value.str (Str.ofString "=07") 367 :: Value.str (Str.ofString "=08") 371 :: Value.str (Str.ofString "=09") 375 :: Value.str (Str.ofString "=0A") 379 :: Value.str (Str.ofString "=0B") 383 :: Value.str (Str.ofString "=0C") 387 :: Value.str (Str.ofString "=0D") 391 :: Value.str (Str.ofString "=0E") 395 :: Value.str (Str.ofString "=0F") 399 :: Value.str (Str.ofString "=10") 403 :: Value.str (Str.ofString "=11") 407 :: Value.str (Str.ofString "=12") 411 :: Value.str (Str.ofString "=13") 415 :: Value.str (Str.ofString "=14") 419 :: Value.str (Str.ofString "=15") 423 :: Value.str (Str.ofString "=16") 427 :: Value.str (Str.ofString "=17") 431 :: Value.str (Str.ofString "=18") 435 :: Value.str (Str.ofString "=19") 439 :: Value.str (Str.ofString "=1A") 443 :: Value.str (Str.ofString "=1B") 447 :: Value.str (Str.ofString "=1C") 451 :: Value.str (Str.ofString "=1D") 455 :: Value.str (Str.ofString "=1E") 459 :: Value.str (Str.ofString "=1F") 463 :: Value.str (Str.ofString "=20") 467 :: Value.str (Str.ofString "=21") 471 :: Value.str (Str.ofString "=22") 475 :: Value.str (Str.ofString "=23") 479 :: Value.str (Str.ofString "=24") 483 :: Value.str (Str.ofString "=25") 487 :: Value.str (Str.ofString "=26") 491 :: Value.str (Str.ofString "=27") 495 :: Value.str (Str.ofString "=28") 499 :: Value.str (Str.ofString "=29") 503 :: Value.str (Str.ofString "=2A") 507 :: Value.str (Str.ofString "=2B") 511 :: Value.str (Str.ofString "=2C") 515 :: Value.str (Str.ofString "=2D") 519 :: Value.str (Str.ofString "=2E") 523 :: Value.str (Str.ofString "=2F") 527 :: Value.str (Str.ofString "=30") 531 :: Value.str (Str.ofString "=31") 535 :: Value.str (Str.ofString "=32") 539 :: Value.str (Str.ofString "=33") 543 :: Value.str (Str.ofString "=34") 547 :: Value.str (Str.ofString "=35") 551 :: Value.str (Str.ofString "=36") 555 :: Value.str (Str.ofString "=37") 559 :: Value.str (Str.ofString "=38") 563 :: Value.str (Str.ofString "=39") 567 :: Value.str (Str.ofString "=3A") 571 :: Value.str (Str.ofString "=3B") 575 :: Value.str (Str.ofString "=3C") 579 :: Value.str (Str.ofString "=3D") 583 :: Value.str (Str.ofString "=3E") 587 :: Value.str (Str.ofString "=3F") 591 :: Value.str (Str.ofString "=40") 595 :: Value.str (Str.ofString "=41") 599 :: Value.str (Str.ofString "=42") 603 :: Value.str (Str.ofString "=43") 607 :: Value.str (Str.ofString "=44") 611 :: Value.str (Str.ofString "=45") 615 :: Value.str (Str.ofString "=46") 619 :: Value.str (Str.ofString "=47") 623 :: Value.str (Str.ofString "=48") 627 :: Value.str (Str.ofString "=49") 631 :: Value.str (Str.ofString "=4A") 635 :: Value.str (Str.ofString "=4B") 639 :: Value.str (Str.ofString "=4C") 643 :: Value.str (Str.ofString "=4D") 647 :: Value.str (Str.ofString "=4E") 651 :: Value.str (Str.ofString "=4F") 655 :: Value.str (Str.ofString "=50") 659 :: Value.str (Str.ofString "=51") 663 :: Value.str (Str.ofString "=52") 667 :: Value.str (Str.ofString "=53") 671 :: Value.str (Str.ofString "=54") 675 :: Value.str (Str.ofString "=55") 679 :: Value.str (Str.ofString "=56") 683 :: Value.str (Str.ofString "=57") 687 :: Value.str (Str.ofString "=58") 691 :: Value.str (Str.ofString "=59") 695 :: Value.str (Str.ofString "=5A") 699 :: Value.str (Str.ofString "=5B") 703 :: Value.str (Str.ofString "=5C") 707 :: Value.str (Str.ofString "=5D") 711 :: Value.str (Str.ofString "=5E") 715 :: Value.str (Str.ofString "=5F") 719 :: Value.str (Str.ofString "=60") 723 :: Value.str (Str.ofString "=61") 727 :: Value.str (Str.ofString "=62") 731 :: Value.str (Str.ofString "=63") 735 :: Value.str (Str.ofString "=64") 739 :: Value.str (Str.ofString "=65") 743 :: Value.str (Str.ofString "=66") 747 :: Value.str (Str.ofString "=67") 751 :: Value.str (Str.ofString "=68") 755 :: Value.str (Str.ofString "=69") 759 :: Value.str (Str.ofString "=6A") 763 :: Value.str (Str.ofString "=6B") 767 :: Value.str (Str.ofString "=6C") 771 :: Value.str (Str.ofString "=6D") 775 :: Value.str (Str.ofString "=6E") 779 :: Value.str (Str.ofString "=6F") 783 :: Value.str (Str.ofString "=70") 787 :: Value.str (Str.ofString "=71") 791 :: Value.str (Str.ofString "=72") 795 :: Value.str (Str.ofString "=73") 799 :: Value.str (Str.ofString "=74") 803 :: Value.str (Str.ofString "=75") 807 :: Value.str (Str.ofString "=76") 811 :: Value.str (Str.ofString "=77") 815 :: Value.str (Str.ofString "=78") 819 :: Value.str (Str.ofString "=79") 823 :: Value.str (Str.ofString "=7A") 827 :: Value.str (Str.ofString "=7B") 831 :: Value.str (Str.ofString "=7C") 835 :: Value.str (Str.ofString "=7D") 839 :: Value.str (Str.ofString "=7E") 843 :: Value.str (Str.ofString "=7F") 847 :: Value.str (Str.ofString "=80") 851 :: [])) 129) #[]
noncomputable def ob48 (P : Params) : Obj := Obj.mk (Value.type "dict") none (Data.dict #[DictEntry.mk (PyData.keyHash P (Str.ofString "c")) (Value.str (Str.ofString "c") 337) (Value.int 128 848)] 1) #[]
noncomputable def ob49 (_ : Params) : Obj := Obj.mk (Value.type "range_iterator") none (Data.fields #[Value.int 193 0, Value.int 63 0, Value.int 1 0]) #[]
noncomputable def ob50 (_ : Params) : Obj := Obj.mk (Value.type "list") none (Data.seq (List.toArray (Value.str (Str.ofString "=00") 339 :: Value.str (Str.ofString "=01") 343 :: Value.str (Str.ofString "=02") 347 :: Value.str (Str.ofString "=03") 351 :: Value.str (Str.ofString "=04") 355 :: Value.str (Str.ofString "=05") 359 :: Value.str (Str.ofString "=06") 363 :: Value.str (Str.ofString "=07") 367 :: Value.str (Str.ofString "=08") 371 :: Value.str (Str.ofString "=09") 375 :: Value.str (Str.ofString "=0A") 379 :: Value.str (Str.ofString "=0B") 383 :: Value.str (Str.ofString "=0C") 387 :: Value.str (Str.ofString "=0D") 391 :: Value.str (Str.ofString "=0E") 395 :: Value.str (Str.ofString "=0F") 399 :: Value.str (Str.ofString "=10") 403 :: Value.str (Str.ofString "=11") 407 :: Value.str (Str.ofString "=12") 411 :: Value.str (Str.ofString "=13") 415 :: Value.str (Str.ofString "=14") 419 :: Value.str (Str.ofString "=15") 423 :: Value.str (Str.ofString "=16") 427 :: Value.str (Str.ofString "=17") 431 :: Value.str (Str.ofString "=18") 435 :: Value.str (Str.ofString "=19") 439 :: Value.str (Str.ofString "=1A") 443 :: Value.str (Str.ofString "=1B") 447 :: Value.str (Str.ofString "=1C") 451 :: Value.str (Str.ofString "=1D") 455 :: Value.str (Str.ofString "=1E") 459 :: Value.str (Str.ofString "=1F") 463 :: Value.str (Str.ofString "=20") 467 :: Value.str (Str.ofString "=21") 471 :: Value.str (Str.ofString "=22") 475 :: Value.str (Str.ofString "=23") 479 :: Value.str (Str.ofString "=24") 483 :: Value.str (Str.ofString "=25") 487 :: Value.str (Str.ofString "=26") 491 :: Value.str (Str.ofString "=27") 495 :: Value.str (Str.ofString "=28") 499 :: Value.str (Str.ofString "=29") 503 :: Value.str (Str.ofString "=2A") 507 :: Value.str (Str.ofString "=2B") 511 :: Value.str (Str.ofString "=2C") 515 :: Value.str (Str.ofString "=2D") 519 :: Value.str (Str.ofString "=2E") 523 :: Value.str (Str.ofString "=2F") 527 :: Value.str (Str.ofString "=30") 531 :: Value.str (Str.ofString "=31") 535 :: Value.str (Str.ofString "=32") 539 :: Value.str (Str.ofString "=33") 543 :: Value.str (Str.ofString "=34") 547 :: Value.str (Str.ofString "=35") 551 :: Value.str (Str.ofString "=36") 555 :: Value.str (Str.ofString "=37") 559 :: Value.str (Str.ofString "=38") 563 :: Value.str (Str.ofString "=39") 567 :: Value.str (Str.ofString "=3A") 571 :: Value.str (Str.ofString "=3B") 575 :: Value.str (Str.ofString "=3C") 579 :: Value.str (Str.ofString "=3D") 583 :: Value.str (Str.ofString "=3E") 587 :: Value.str (Str.ofString "=3F") 591 :: Value.str (Str.ofString "=40") 595 :: Value.str (Str.ofString "=41") 599 :: Value.str (Str.ofString "=42") 603 :: Value.str (Str.ofString "=43") 607 :: Value.str (Str.ofString "=44") 611 :: Value.str (Str.ofString "=45") 615 :: Value.str (Str.ofString "=46") 619 :: Value.str (Str.ofString "=47") 623 :: Value.str (Str.ofString "=48") 627 :: Value.str (Str.ofString "=49") 631 :: Value.str (Str.ofString "=4A") 635 :: Value.str (Str.ofString "=4B") 639 :: Value.str (Str.ofString "=4C") 643 :: Value.str (Str.ofString "=4D") 647 :: Value.str (Str.ofString "=4E") 651 :: Value.str (Str.ofString "=4F") 655 :: Value.str (Str.ofString "=50") 659 :: Value.str (Str.ofString "=51") 663 :: Value.str (Str.ofString "=52") 667 :: Value.str (Str.ofString "=53") 671 :: Value.str (Str.ofString "=54") 675 :: Value.str (Str.ofString "=55") 679 :: Value.str (Str.ofString "=56") 683 :: Value.str (Str.ofString "=57") 687 :: Value.str (Str.ofString "=58") 691 :: Value.str (Str.ofString "=59") 695 :: Value.str (Str.ofString "=5A") 699 :: Value.str (Str.ofString "=5B") 703 :: Value.str (Str.ofString "=5C") 707 :: Value.str (Str.ofString "=5D") 711 :: Value.str (Str.ofString "=5E") 715 :: Value.str (Str.ofString "=5F") 719 :: Value.str (Str.ofString "=60") 723 :: Value.str (Str.ofString "=61") 727 :: Value.str (Str.ofString "=62") 731 :: Value.str (Str.ofString "=63") 735 :: Value.str (Str.ofString "=64") 739 :: Value.str (Str.ofString "=65") 743 :: Value.str (Str.ofString "=66") 747 :: Value.str (Str.ofString "=67") 751 :: Value.str (Str.ofString "=68") 755 :: Value.str (Str.ofString "=69") 759 :: Value.str (Str.ofString "=6A") 763 :: Value.str (Str.ofString "=6B") 767 :: Value.str (Str.ofString "=6C") 771 :: Value.str (Str.ofString "=6D") 775 :: Value.str (Str.ofString "=6E") 779 :: Value.str (Str.ofString "=6F") 783 :: Value.str (Str.ofString "=70") 787 :: Value.str (Str.ofString "=71") 791 :: Value.str (Str.ofString "=72") 795 :: Value.str (Str.ofString "=73") 799 :: Value.str (Str.ofString "=74") 803 :: Value.str (Str.ofString "=75") 807 :: Value.str (Str.ofString "=76") 811 :: Value.str (Str.ofString "=77") 815 :: Value.str (Str.ofString "=78") 819 :: Value.str (Str.ofString "=79") 823 :: Value.str (Str.ofString "=7A") 827 :: Value.str (Str.ofString "=7B") 831 :: Value.str (Str.ofString "=7C") 835 :: Value.str (Str.ofString "=7D") 839 :: Value.str (Str.ofString "=7E") 843 :: Value.str (Str.ofString "=7F") 847 :: Value.str (Str.ofString "=80") 851 :: Value.str (Str.ofString "=81") 855 :: Value.str (Str.ofString "=82") 859 :: Value.str (Str.ofString "=83") 863 :: Value.str (Str.ofString "=84") 867 :: Value.str (Str.ofString "=85") 871 :: Value.str (Str.ofString "=86") 875 :: Value.str (Str.ofString "=87") 879 :: Value.str (Str.ofString "=88") 883 :: Value.str (Str.ofString "=89") 887 :: Value.str (Str.ofString "=8A") 891 :: Value.str (Str.ofString "=8B") 895 :: Value.str (Str.ofString "=8C") 899 :: Value.str (Str.ofString "=8D") 903 :: Value.str (Str.ofString "=8E") 907 :: Value.str (Str.ofString "=8F") 911 :: Value.str (Str.ofString "=90") 915 :: Value.str (Str.ofString "=91") 919 :: Value.str (Str.ofString "=92") 923 :: Value.str (Str.ofString "=93") 927 :: Value.str (Str.ofString "=94") 931 :: Value.str (Str.ofString "=95") 935 :: Value.str (Str.ofString "=96") 939 :: Value.str (Str.ofString "=97") 943 :: Value.str (Str.ofString "=98") 947 :: Value.str (Str.ofString "=99") 951 :: Value.str (Str.ofString "=9A") 955 :: Value.str (Str.ofString "=9B") 959 :: Value.str (Str.ofString "=9C") 963 :: Value.str (Str.ofString "=9D") 967 :: Value.str (Str.ofString "=9E") 971 :: Value.str (Str.ofString "=9F") 975 :: Value.str (Str.ofString "=A0") 979 :: Value.str (Str.ofString "=A1") 983 :: Value.str (Str.ofString "=A2") 987 :: Value.str (Str.ofString "=A3") 991 :: Value.str (Str.ofString "=A4") 995 :: Value.str (Str.ofString "=A5") 999 :: Value.str (Str.ofString "=A6") 1003 :: Value.str (Str.ofString "=A7") 1007 :: Value.str (Str.ofString "=A8") 1011 :: Value.str (Str.ofString "=A9") 1015 :: Value.str (Str.ofString "=AA") 1019 :: Value.str (Str.ofString "=AB") 1023 :: Value.str (Str.ofString "=AC") 1027 :: Value.str (Str.ofString "=AD") 1031 :: Value.str (Str.ofString "=AE") 1035 :: Value.str (Str.ofString "=AF") 1039 :: Value.str (Str.ofString "=B0") 1043 :: Value.str (Str.ofString "=B1") 1047 :: Value.str (Str.ofString "=B2") 1051 :: Value.str (Str.ofString "=B3") 1055 :: Value.str (Str.ofString "=B4") 1059 :: Value.str (Str.ofString "=B5") 1063 :: Value.str (Str.ofString "=B6") 1067 :: Value.str (Str.ofString "=B7") 1071 :: Value.str (Str.ofString "=B8") 1075 :: Value.str (Str.ofString "=B9") 1079 :: Value.str (Str.ofString "=BA") 1083 :: Value.str (Str.ofString "=BB") 1087 :: Value.str (Str.ofString "=BC") 1091 :: Value.str (Str.ofString "=BD") 1095 :: Value.str (Str.ofString "=BE") 1099 :: Value.str (Str.ofString "=BF") 1103 :: Value.str (Str.ofString "=C0") 1107 :: [])) 193) #[]
noncomputable def ob51 (P : Params) : Obj := Obj.mk (Value.type "dict") none (Data.dict #[DictEntry.mk (PyData.keyHash P (Str.ofString "c")) (Value.str (Str.ofString "c") 337) (Value.int 192 1104)] 1) #[]
noncomputable def ob52 (P : Params) : Obj := Obj.mk (Value.type "dict") none (Data.dict #[DictEntry.mk (PyData.keyHash P (Str.ofString "__name__")) (Value.str (Str.ofString "__name__") 165) (Value.str (Str.ofString "cpy313.locale") 282), DictEntry.mk (PyData.keyHash P (Str.ofString "__doc__")) (Value.str (Str.ofString "__doc__") 166) Value.none, DictEntry.mk (PyData.keyHash P (Str.ofString "__package__")) (Value.str (Str.ofString "__package__") 167) Value.none, DictEntry.mk (PyData.keyHash P (Str.ofString "__loader__")) (Value.str (Str.ofString "__loader__") 168) (Value.builtin "__main__.__loader__#opaque"), DictEntry.mk (PyData.keyHash P (Str.ofString "__spec__")) (Value.str (Str.ofString "__spec__") 169) Value.none, DictEntry.mk (PyData.keyHash P (Str.ofString "__annotations__")) (Value.str (Str.ofString "__annotations__") 170) (Value.ref 6), DictEntry.mk (PyData.keyHash P (Str.ofString "__builtins__")) (Value.str (Str.ofString "__builtins__") 171) (Value.ref 4), DictEntry.mk (PyData.keyHash P (Str.ofString "__file__")) (Value.str (Str.ofString "__file__") 173) (Value.str (Str.ofString "/claim/cut.py") 172), DictEntry.mk (PyData.keyHash P (Str.ofString "__cached__")) (Value.str (Str.ofString "__cached__") 174) Value.none, DictEntry.mk (PyData.keyHash P (Str.ofString "_sre")) (Value.str (Str.ofString "_sre") 275) (Value.ref 12), DictEntry.mk (PyData.keyHash P (Str.ofString "_strip_padding")) (Value.str (Str.ofString "_strip_padding") 293) (Value.ref 38), DictEntry.mk (PyData.keyHash P (Str.ofString "_twin_re_1")) (Value.str (Str.ofString "_twin_re_1") 328) (Value.ref 43), DictEntry.mk (PyData.keyHash P (Str.ofString "CRLF")) (Value.str (Str.ofString "CRLF") 330) (Value.str (Str.ofString "\x0d\n") 329), DictEntry.mk (PyData.keyHash P (Str.ofString "NL")) (Value.str (Str.ofString "NL") 332) (Value.str (Str.ofString "\n") 331), DictEntry.mk (PyData.keyHash P (Str.ofString "_QUOPRI_MAP")) (Value.str (Str.ofString "_QUOPRI_MAP") 1360) (Value.ref 46)] 15) #[]
noncomputable def ob53 (_ : Params) : Obj := Obj.mk (Value.type "range_iterator") none (Data.fields #[Value.int 256 0, Value.int 0 0, Value.int 1 0]) #[]
noncomputable def ob54 (_ : Params) : Obj := Obj.mk (Value.type "list") none (Data.seq (List.toArray (Value.str (Str.ofString "=00") 339 :: Value.str (Str.ofString "=01") 343 :: Value.str (Str.ofString "=02") 347 :: Value.str (Str.ofString "=03") 351 :: Value.str (Str.ofString "=04") 355 :: Value.str (Str.ofString "=05") 359 :: Value.str (Str.ofString "=06") 363 :: Value.str (Str.ofString "=07") 367 :: Value.str (Str.ofString "=08") 371 :: Value.str (Str.ofString "=09") 375 :: Value.str (Str.ofString "=0A") 379 :: Value.str (Str.ofString "=0B") 383 :: Value.str (Str.ofString "=0C") 387 :: Value.str (Str.ofString "=0D") 391 :: Value.str (Str.ofString "=0E") 395 :: Value.str (Str.ofString "=0F") 399 :: Value.str (Str.ofString "=10") 403 :: Value.str (Str.ofString "=11") 407 :: Value.str (Str.ofString "=12") 411 :: Value.str (Str.ofString "=13") 415 :: Value.str (Str.ofString "=14") 419 :: Value.str (Str.ofString "=15") 423 :: Value.str (Str.ofString "=16") 427 :: Value.str (Str.ofString "=17") 431 :: Value.str (Str.ofString "=18") 435 :: Value.str (Str.ofString "=19") 439 :: Value.str (Str.ofString "=1A") 443 :: Value.str (Str.ofString "=1B") 447 :: Value.str (Str.ofString "=1C") 451 :: Value.str (Str.ofString "=1D") 455 :: Value.str (Str.ofString "=1E") 459 :: Value.str (Str.ofString "=1F") 463 :: Value.str (Str.ofString "=20") 467 :: Value.str (Str.ofString "=21") 471 :: Value.str (Str.ofString "=22") 475 :: Value.str (Str.ofString "=23") 479 :: Value.str (Str.ofString "=24") 483 :: Value.str (Str.ofString "=25") 487 :: Value.str (Str.ofString "=26") 491 :: Value.str (Str.ofString "=27") 495 :: Value.str (Str.ofString "=28") 499 :: Value.str (Str.ofString "=29") 503 :: Value.str (Str.ofString "=2A") 507 :: Value.str (Str.ofString "=2B") 511 :: Value.str (Str.ofString "=2C") 515 :: Value.str (Str.ofString "=2D") 519 :: Value.str (Str.ofString "=2E") 523 :: Value.str (Str.ofString "=2F") 527 :: Value.str (Str.ofString "=30") 531 :: Value.str (Str.ofString "=31") 535 :: Value.str (Str.ofString "=32") 539 :: Value.str (Str.ofString "=33") 543 :: Value.str (Str.ofString "=34") 547 :: Value.str (Str.ofString "=35") 551 :: Value.str (Str.ofString "=36") 555 :: Value.str (Str.ofString "=37") 559 :: Value.str (Str.ofString "=38") 563 :: Value.str (Str.ofString "=39") 567 :: Value.str (Str.ofString "=3A") 571 :: Value.str (Str.ofString "=3B") 575 :: Value.str (Str.ofString "=3C") 579 :: Value.str (Str.ofString "=3D") 583 :: Value.str (Str.ofString "=3E") 587 :: Value.str (Str.ofString "=3F") 591 :: Value.str (Str.ofString "=40") 595 :: Value.str (Str.ofString "=41") 599 :: Value.str (Str.ofString "=42") 603 :: Value.str (Str.ofString "=43") 607 :: Value.str (Str.ofString "=44") 611 :: Value.str (Str.ofString "=45") 615 :: Value.str (Str.ofString "=46") 619 :: Value.str (Str.ofString "=47") 623 :: Value.str (Str.ofString "=48") 627 :: Value.str (Str.ofString "=49") 631 :: Value.str (Str.ofString "=4A") 635 :: Value.str (Str.ofString "=4B") 639 :: Value.str (Str.ofString "=4C") 643 :: Value.str (Str.ofString "=4D") 647 :: Value.str (Str.ofString "=4E") 651 :: Value.str (Str.ofString "=4F") 655 :: Value.str (Str.ofString "=50") 659 :: Value.str (Str.ofString "=51") 663 :: Value.str (Str.ofString "=52") 667 :: Value.str (Str.ofString "=53") 671 :: Value.str (Str.ofString "=54") 675 :: Value.str (Str.ofString "=55") 679 :: Value.str (Str.ofString "=56") 683 :: Value.str (Str.ofString "=57") 687 :: Value.str (Str.ofString "=58") 691 :: Value.str (Str.ofString "=59") 695 :: Value.str (Str.ofString "=5A") 699 :: Value.str (Str.ofString "=5B") 703 :: Value.str (Str.ofString "=5C") 707 :: Value.str (Str.ofString "=5D") 711 :: Value.str (Str.ofString "=5E") 715 :: Value.str (Str.ofString "=5F") 719 :: Value.str (Str.ofString "=60") 723 :: Value.str (Str.ofString "=61") 727 :: Value.str (Str.ofString "=62") 731 :: Value.str (Str.ofString "=63") 735 :: Value.str (Str.ofString "=64") 739 :: Value.str (Str.ofString "=65") 743 :: Value.str (Str.ofString "=66") 747 :: Value.str (Str.ofString "=67") 751 :: Value.str (Str.ofString "=68") 755 :: Value.str (Str.ofString "=69") 759 :: Value.str (Str.ofString "=6A") 763 :: Value.str (Str.ofString "=6B") 767 :: Value.str (Str.ofString "=6C") 771 :: Value.str (Str.ofString "=6D") 775 :: Value.str (Str.ofString "=6E") 779 :: Value.str (Str.ofString "=6F") 783 :: Value.str (Str.ofString "=70") 787 :: Value.str (Str.ofString "=71") 791 :: Value.str (Str.ofString "=72") 795 :: Value.str (Str.ofString "=73") 799 :: Value.str (Str.ofString "=74") 803 :: Value.str (Str.ofString "=75") 807 :: Value.str (Str.ofString "=76") 811 :: Value.str (Str.ofString "=77") 815 :: Value.str (Str.ofString "=78") 819 :: Value.str (Str.ofString "=79") 823 :: Value.str (Str.ofString "=7A") 827 :: Value.str (Str.ofString "=7B") 831 :: Value.str (Str.ofString "=7C") 835 :: Value.str (Str.ofString "=7D") 839 :: Value.str (Str.ofString "=7E") 843 :: Value.str (Str.ofString "=7F") 847 :: Value.str (Str.ofString "=80") 851 :: Value.str (Str.ofString "=81") 855 :: Value.str (Str.ofString "=82") 859 :: Value.str (Str.ofString "=83") 863 :: Value.str (Str.ofString "=84") 867 :: Value.str (Str.ofString "=85") 871 :: Value.str (Str.ofString "=86") 875 :: Value.str (Str.ofString "=87") 879 :: Value.str (Str.ofString "=88") 883 :: Value.str (Str.ofString "=89") 887 :: Value.str (Str.ofString "=8A") 891 :: Value.str (Str.ofString "=8B") 895 :: Value.str (Str.ofString "=8C") 899 :: Value.str (Str.ofString "=8D") 903 :: Value.str (Str.ofString "=8E") 907 :: Value.str (Str.ofString "=8F") 911 :: Value.str (Str.ofString "=90") 915 :: Value.str (Str.ofString "=91") 919 :: Value.str (Str.ofString "=92") 923 :: Value.str (Str.ofString "=93") 927 :: Value.str (Str.ofString "=94") 931 :: Value.str (Str.ofString "=95") 935 :: Value.str (Str.ofString "=96") 939 :: Value.str (Str.ofString "=97") 943 :: Value.str (Str.ofString "=98") 947 :: Value.str (Str.ofString "=99") 951 :: Value.str (Str.ofString "=9A") 955 :: Value.str (Str.ofString "=9B") 959 :: Value.str (Str.ofString "=9C") 963 :: Value.str (Str.ofString "=9D") 967 :: Value.str (Str.ofString "=9E") 971 :: Value.str (Str.ofString "=9F") 975 :: Value.str (Str.ofString "=A0") 979 :: Value.str (Str.ofString "=A1") 983 :: Value.str (Str.ofString "=A2") 987 :: Value.str (Str.ofString "=A3") 991 :: Value.str (Str.ofString "=A4") 995 :: Value.str (Str.ofString "=A5") 999 :: Value.str (Str.ofString "=A6") 1003 :: Value.str (Str.ofString "=A7") 1007 :: Value.str (Str.ofString "=A8") 1011 :: Value.str (Str.ofString "=A9") 1015 :: Value.str (Str.ofString "=AA") 1019 :: Value.str (Str.ofString "=AB") 1023 :: Value.str (Str.ofString "=AC") 1027 :: Value.str (Str.ofString "=AD") 1031 :: Value.str (Str.ofString "=AE") 1035 :: Value.str (Str.ofString "=AF") 1039 :: Value.str (Str.ofString "=B0") 1043 :: Value.str (Str.ofString "=B1") 1047 :: Value.str (Str.ofString "=B2") 1051 :: Value.str (Str.ofString "=B3") 1055 :: Value.str (Str.ofString "=B4") 1059 :: Value.str (Str.ofString "=B5") 1063 :: Value.str (Str.ofString "=B6") 1067 :: Value.str (Str.ofString "=B7") 1071 :: Value.str (Str.ofString "=B8") 1075 :: Value.str (Str.ofString "=B9") 1079 :: Value.str (Str.ofString "=BA") 1083 :: Value.str (Str.ofString "=BB") 1087 :: Value.str (Str.ofString "=BC") 1091 :: Value.str (Str.ofString "=BD") 1095 :: Value.str (Str.ofString "=BE") 1099 :: Value.str (Str.ofString "=BF") 1103 :: Value.str (Str.ofString "=C0") 1107 :: Value.str (Str.ofString "=C1") 1111 :: Value.str (Str.ofString "=C2") 1115 :: Value.str (Str.ofString "=C3") 1119 :: Value.str (Str.ofString "=C4") 1123 :: Value.str (Str.ofString "=C5") 1127 :: Value.str (Str.ofString "=C6") 1131 :: Value.str (Str.ofString "=C7") 1135 :: Value.str (Str.ofString "=C8") 1139 :: Value.str (Str.ofString "=C9") 1143 :: Value.str (Str.ofString "=CA") 1147 :: Value.str (Str.ofString "=CB") 1151 :: Value.str (Str.ofString "=CC") 1155 :: Value.str (Str.ofString "=CD") 1159 :: Value.str (Str.ofString "=CE") 1163 :: Value.str (Str.ofString "=CF") 1167 :: Value.str (Str.ofString "=D0") 1171 :: Value.str (Str.ofString "=D1") 1175 :: Value.str (Str.ofString "=D2") 1179 :: Value.str (Str.ofString "=D3") 1183 :: Value.str (Str.ofString "=D4") 1187 :: Value.str (Str.ofString "=D5") 1191 :: Value.str (Str.ofString "=D6") 1195 :: Value.str (Str.ofString "=D7") 1199 :: Value.str (Str.ofString "=D8") 1203 :: Value.str (Str.ofString "=D9") 1207 :: Value.str (Str.ofString "=DA") 1211 :: Value.str (Str.ofString "=DB") 1215 :: Value.str (Str.ofString "=DC") 1219 :: Value.str (Str.ofString "=DD") 1223 :: Value.str (Str.ofString "=DE") 1227 :: Value.str (Str.ofString "=DF") 1231 :: Value.str (Str.ofString "=E0") 1235 :: Value.str (Str.ofString "=E1") 1239 :: Value.str (Str.ofString "=E2") 1243 :: Value.str (Str.ofString "=E3") 1247 :: Value.str (Str.ofString "=E4") 1251 :: Value.str (Str.ofString "=E5") 1255 :: Value.str (Str.ofString "=E6") 1259 :: Value.str (Str.ofString "=E7") 1263 :: Value.str (Str.ofString "=E8") 1267 :: Value.str (Str.ofString "=E9") 1271 :: Value.str (Str.ofString "=EA") 1275 :: Value.str (Str.ofString "=EB") 1279 :: Value.str (Str.ofString "=EC") 1283 :: Value.str (Str.ofString "=ED") 1287 :: Value.str (Str.ofString "=EE") 1291 :: Value.str (Str.ofString "=EF") 1295 :: Value.str (Str.ofString "=F0") 1299 :: Value.str (Str.ofString "=F1") 1303 :: Value.str (Str.ofString "=F2") 1307 :: Value.str (Str.ofString "=F3") 1311 :: Value.str (Str.ofString "=F4") 1315 :: Value.str (Str.ofString "=F5") 1319 :: Value.str (Str.ofString "=F6") 1323 :: Value.str (Str.ofString "=F7") 1327 :: Value.str (Str.ofString "=F8") 1331 :: Value.str (Str.ofString "=F9") 1335 :: Value.str (Str.ofString "=FA") 1339 :: Value.str (Str.ofString "=FB") 1343 :: Value.str (Str.ofString "=FC") 1347 :: Value.str (Str.ofString "=FD") 1351 :: Value.str (Str.ofString "=FE") 1355 :: Value.str (Str.ofString "=FF") 1359 :: [])) 256) #[]
noncomputable def ob55 (_ : Params) : Obj := Obj.mk (Value.type "dict") none (Data.dict #[] 2) #[]
noncomputable def ob56 (_ : Params) : Obj := Obj.mk (Value.type "StopIteration") none (Data.fields #[Value.ref 48, Value.none, Value.none, Value.none, Value.bool false, Value.none]) #[]
noncomputable def ob57 (P : Params) : Obj := Obj.mk (Value.type "dict") none (Data.dict #[DictEntry.mk (PyData.keyHash P (Str.ofString "__name__")) (Value.str (Str.ofString "__name__") 165) (Value.str (Str.ofString "cpy313.email.quoprimime") 1376), DictEntry.mk (PyData.keyHash P (Str.ofString "__doc__")) (Value.str (Str.ofString "__doc__") 166) Value.none, DictEntry.mk (PyData.keyHash P (Str.ofString "__package__")) (Value.str (Str.ofString "__package__") 167) Value.none, DictEntry.mk (PyData.keyHash P (Str.ofString "__loader__")) (Value.str (Str.ofString "__loader__") 168) (Value.builtin "__main__.__loader__#opaque"), DictEntry.mk (PyData.keyHash P (Str.ofString "__spec__")) (Value.str (Str.ofString "__spec__") 169) Value.none, DictEntry.mk (PyData.keyHash P (Str.ofString "__annotations__")) (Value.str (Str.ofString "__annotations__") 170) (Value.ref 6), DictEntry.mk (PyData.keyHash P (Str.ofString "__builtins__")) (Value.str (Str.ofString "__builtins__") 171) (Value.ref 4), DictEntry.mk (PyData.keyHash P (Str.ofString "__file__")) (Value.str (Str.ofString "__file__") 173) (Value.str (Str.ofString "/claim/cut.py") 172), DictEntry.mk (PyData.keyHash P (Str.ofString "__cached__")) (Value.str (Str.ofString "__cached__") 174) Value.none, DictEntry.mk (PyData.keyHash P (Str.ofString "_sre")) (Value.str (Str.ofString "_sre") 275) (Value.ref 12), DictEntry.mk (PyData.keyHash P (Str.ofString "_strip_padding")) (Value.str (Str.ofString "_strip_padding") 293) (Value.ref 38), DictEntry.mk (PyData.keyHash P (Str.ofString "_twin_re_1")) (Value.str (Str.ofString "_twin_re_1") 328) (Value.ref 43), DictEntry.mk (PyData.keyHash P (Str.ofString "CRLF")) (Value.str (Str.ofString "CRLF") 330) (Value.str (Str.ofString "\x0d\n") 329), DictEntry.mk (PyData.keyHash P (Str.ofString "NL")) (Value.str (Str.ofString "NL") 332) (Value.str (Str.ofString "\n") 331), DictEntry.mk (PyData.keyHash P (Str.ofString "_QUOPRI_MAP")) (Value.str (Str.ofString "_QUOPRI_MAP") 1360) (Value.ref 46), DictEntry.mk (PyData.keyHash P (Str.ofString "_QUOPRI_HEADER_MAP")) (Value.str (Str.ofString "_QUOPRI_HEADER_MAP") 1361) (Value.ref 51), DictEntry.mk (PyData.keyHash P (Str.ofString "_QUOPRI_BODY_MAP")) (Value.str (Str.ofString "_QUOPRI_BODY_MAP") 1362) (Value.ref 53), DictEntry.mk (PyData.keyHash P (Str.ofString "ascii_lowercase")) (Value.str (Str.ofString "ascii_lowercase") 1364) (Value.str (Str.ofString "abcdefghijklmnopqrstuvwxyz") 1363), DictEntry.mk (PyData.keyHash P (Str.ofString "ascii_uppercase")) (Value.str (Str.ofString "ascii_uppercase") 1366) (Value.str (Str.ofString "ABCDEFGHIJKLMNOPQRSTUVWXYZ") 1365), DictEntry.mk (PyData.keyHash P (Str.ofString "ascii_letters")) (Value.str (Str.ofString "ascii_letters") 1368) (Value.str (Str.ofString "abcdefghijklmnopqrstuvwxyzABCDEFGHIJKLMNOPQRSTUVWXYZ") 1367), DictEntry.mk (PyData.keyHash P (Str.ofString "digits")) (Value.str (Str.ofString "digits") 1370) (Value.str (Str.ofString "0123456789") 1369), DictEntry.mk (PyData.keyHash P (Str.ofString "hexdigits")) (Value.str (Str.ofString "hexdigits") 1375) (Value.str (Str.ofString "0123456789abcdefABCDEF") 1374)] 22) #[]
noncomputable def ob58 (_ : Params) : Obj := Obj.mk (Value.type "slice") none (Data.fields #[Value.none, Value.none, Value.none]) #[]
noncomputable def ob59 (_ : Params) : Obj := Obj.mk (Value.type "list") none (Data.seq (List.toArray (Value.str (Str.ofString "=00") 339 :: Value.str (Str.ofString "=01") 343 :: Value.str (Str.ofString "=02") 347 :: Value.str (Str.ofString "=03") 351 :: Value.str (Str.ofString "=04") 355 :: Value.str (Str.ofString "=05") 359 :: Value.str (Str.ofString "=06") 363 :: Value.str (Str.ofString "=07") 367 :: Value.str (Str.ofString "=08") 371 :: Value.str (Str.ofString "=09") 375 :: Value.str (Str.ofString "=0A") 379 :: Value.str (Str.ofString "=0B") 383 :: Value.str (Str.ofString "=0C") 387 :: Value.str (Str.ofString "=0D") 391 :: Value.str (Str.ofString "=0E") 395 :: Value.str (Str.ofString "=0F") 399 :: Value.str (Str.ofString "=10") 403 :: Value.str (Str.ofString "=11") 407 :: Value.str (Str.ofString "=12") 411 :: Value.str (Str.ofString "=13") 415 :: Value.str (Str.ofString "=14") 419 :: Value.str (Str.ofString "=15") 423 :: Value.str (Str.ofString "=16") 427 :: Value.str (Str.ofString "=17") 431 :: Value.str (Str.ofString "=18") 435 :: Value.str (Str.ofString "=19") 439 :: Value.str (Str.ofString "=1A") 443 :: Value.str (Str.ofString "=1B") 447 :: Value.str (Str.ofString "=1C") 451 :: Value.str (Str.ofString "=1D") 455 :: Value.str (Str.ofString "=1E") 459 :: Value.str (Str.ofString "=1F") 463 :: Value.str (Str.ofString "=20") 467 :: Value.str (Str.ofString "=21") 471 :: Value.str (Str.ofString "=22") 475 :: Value.str (Str.ofString "=23") 479 :: Value.str (Str.ofString "=24") 483 :: Value.str (Str.ofString "=25") 487 :: Value.str (Str.ofString "=26") 491 :: Value.str (Str.ofString "=27") 495 :: Value.str (Str.ofString "=28") 499 :: Value.str (Str.ofString "=29") 503 :: Value.str (Str.ofString "=2A") 507 :: Value.str (Str.ofString "=2B") 511 :: Value.str (Str.ofString "=2C") 515 :: Value.str (Str.ofString "=2D") 519 :: Value.str (Str.ofString "=2E") 523 :: Value.str (Str.ofString "=2F") 527 :: Value.str (Str.ofString "=30") 531 :: Value.str (Str.ofString "=31") 535 :: Value.str (Str.ofString "=32") 539 :: Value.str (Str.ofString "=33") 543 :: Value.str (Str.ofString "=34") 547 :: Value.str (Str.ofString "=35") 551 :: Value.str (Str.ofString "=36") 555 :: Value.str (Str.ofString "=37") 559 :: Value.str (Str.ofString "=38") 563 :: Value.str (Str.ofString "=39") 567 :: Value.str (Str.ofString "=3A") 571 :: Value.str (Str.ofString "=3B") 575 :: Value.str (Str.ofString "=3C") 579 :: Value.str (Str.ofString "=3D") 583 :: Value.str (Str.ofString "=3E") 587 :: Value.str (Str.ofString "=3F") 591 :: Value.str (Str.ofString "=40") 595 :: Value.str (Str.ofString "=41") 599 :: Value.str (Str.ofString "=42") 603 :: Value.str (Str.ofString "=43") 607 :: Value.str (Str.ofString "=44") 611 :: Value.str (Str.ofString "=45") 615 :: Value.str (Str.ofString "=46") 619 :: Value.str (Str.ofString "=47") 623 :: Value.str (Str.ofString "=48") 627 :: Value.str (Str.ofString "=49") 631 :: Value.str (Str.ofString "=4A") 635 :: Value.str (Str.ofString "=4B") 639 :: Value.str (Str.ofString "=4C") 643 :: Value.str (Str.ofString "=4D") 647 :: Value.str (Str.ofString "=4E") 651 :: Value.str (Str.ofString "=4F") 655 :: Value.str (Str.ofString "=50") 659 :: Value.str (Str.ofString "=51") 663 :: Value.str (Str.ofString "=52") 667 :: Value.str (Str.ofString "=53") 671 :: Value.str (Str.ofString "=54") 675 :: Value.str (Str.ofString "=55") 679 :: Value.str (Str.ofString "=56") 683 :: Value.str (Str.ofString "=57") 687 :: Value.str (Str.ofString "=58") 691 :: Value.str (Str.ofString "=59") 695 :: Value.str (Str.ofString "=5A") 699 :: Value.str (Str.ofString "=5B") 703 :: Value.str (Str.ofString "=5C") 707 :: Value.str (Str.ofString "=5D") 711 :: Value.str (Str.ofString "=5E") 715 :: Value.str (Str.ofString "=5F") 719 :: Value.str (Str.ofString "=60") 723 :: Value.str (Str.ofString "=61") 727 :: Value.str (Str.ofString "=62") 731 :: Value.str (Str.ofString "=63") 735 :: Value.str (Str.ofString "=64") 739 :: Value.str (Str.ofString "=65") 743 :: Value.str (Str.ofString "=66") 747 :: Value.str (Str.ofString "=67") 751 :: Value.str (Str.ofString "=68") 755 :: Value.str (Str.ofString "=69") 759 :: Value.str (Str.ofString "=6A") 763 :: Value.str (Str.ofString "=6B") 767 :: Value.str (Str.ofString "=6C") 771 :: Value.str (Str.ofString "=6D") 775 :: Value.str (Str.ofString "=6E") 779 :: Value.str (Str.ofString "=6F") 783 :: Value.str (Str.ofString "=70") 787 :: Value.str (Str.ofString "=71") 791 :: Value.str (Str.ofString "=72") 795 :: Value.str (Str.ofString "=73") 799 :: Value.str (Str.ofString "=74") 803 :: Value.str (Str.ofString "=75") 807 :: Value.str (Str.ofString "=76") 811 :: Value.str (Str.ofString "=77") 815 :: Value.str (Str.ofString "=78") 819 :: Value.str (Str.ofString "=79") 823 :: Value.str (Str.ofString "=7A") 827 :: Value.str (Str.ofString "=7B") 831 :: Value.str (Str.ofString "=7C") 835 :: Value.str (Str.ofString "=7D") 839 :: Value.str (Str.ofString "=7E") 843 :: Value.str (Str.ofString "=7F") 847 :: Value.str (Str.ofString "=80") 851 :: Value.str (Str.ofString "=81") 855 :: Value.str (Str.ofString "=82") 859 :: Value.str (Str.ofString "=83") 863 :: Value.str (Str.ofString "=84") 867 :: Value.str (Str.ofString "=85") 871 :: Value.str (Str.ofString "=86") 875 :: Value.str (Str.ofString "=87") 879 :: Value.str (Str.ofString "=88") 883 :: Value.str (Str.ofString "=89") 887 :: Value.str (Str.ofString "=8A") 891 :: Value.str (Str.ofString "=8B") 895 :: Value.str (Str.ofString "=8C") 899 :: Value.str (Str.ofString "=8D") 903 :: Value.str (Str.ofString "=8E") 907 :: Value.str (Str.ofString "=8F") 911 :: Value.str (Str.ofString "=90") 915 :: Value.str (Str.ofString "=91") 919 :: Value.str (Str.ofString "=92") 923 :: Value.str (Str.ofString "=93") 927 :: Value.str (Str.ofString "=94") 931 :: Value.str (Str.ofString "=95") 935 :: Value.str (Str.ofString "=96") 939 :: Value.str (Str.ofString "=97") 943 :: Value.str (Str.ofString "=98") 947 :: Value.str (Str.ofString "=99") 951 :: Value.str (Str.ofString "=9A") 955 :: Value.str (Str.ofString "=9B") 959 :: Value.str (Str.ofString "=9C") 963 :: Value.str (Str.ofString "=9D") 967 :: Value.str (Str.ofString "=9E") 971 :: Value.str (Str.ofString "=9F") 975 :: Value.str (Str.ofString "=A0") 979 :: Value.str (Str.ofString "=A1") 983 :: Value.str (Str.ofString "=A2") 987 :: Value.str (Str.ofString "=A3") 991 :: Value.str (Str.ofString "=A4") 995 :: Value.str (Str.ofString "=A5") 999 :: Value.str (Str.ofString "=A6") 1003 :: Value.str (Str.ofString "=A7") 1007 :: Value.str (Str.ofString "=A8") 1011 :: Value.str (Str.ofString "=A9") 1015 :: Value.str (Str.ofString "=AA") 1019 :: Value.str (Str.ofString "=AB") 1023 :: Value.str (Str.ofString "=AC") 1027 :: Value.str (Str.ofString "=AD") 1031 :: Value.str (Str.ofString "=AE") 1035 :: Value.str (Str.ofString "=AF") 1039 :: Value.str (Str.ofString "=B0") 1043 :: Value.str (Str.ofString "=B1") 1047 :: Value.str (Str.ofString "=B2") 1051 :: Value.str (Str.ofString "=B3") 1055 :: Value.str (Str.ofString "=B4") 1059 :: Value.str (Str.ofString "=B5") 1063 :: Value.str (Str.ofString "=B6") 1067 :: Value.str (Str.ofString "=B7") 1071 :: Value.str (Str.ofString "=B8") 1075 :: Value.str (Str.ofString "=B9") 1079 :: Value.str (Str.ofString "=BA") 1083 :: Value.str (Str.ofString "=BB") 1087 :: Value.str (Str.ofString "=BC") 1091 :: Value.str (Str.ofString "=BD") 1095 :: Value.str (Str.ofString "=BE") 1099 :: Value.str (Str.ofString "=BF") 1103 :: Value.str (Str.ofString "=C0") 1107 :: Value.str (Str.ofString "=C1") 1111 :: Value.str (Str.ofString "=C2") 1115 :: Value.str (Str.ofString "=C3") 1119 :: Value.str (Str.ofString "=C4") 1123 :: Value.str (Str.ofString "=C5") 1127 :: Value.str (Str.ofString "=C6") 1131 :: Value.str (Str.ofString "=C7") 1135 :: Value.str (Str.ofString "=C8") 1139 :: Value.str (Str.ofString "=C9") 1143 :: Value.str (Str.ofString "=CA") 1147 :: Value.str (Str.ofString "=CB") 1151 :: Value.str (Str.ofString "=CC") 1155 :: Value.str (Str.ofString "=CD") 1159 :: Value.str (Str.ofString "=CE") 1163 :: Value.str (Str.ofString "=CF") 1167 :: Value.str (Str.ofString "=D0") 1171 :: Value.str (Str.ofString "=D1") 1175 :: Value.str (Str.ofString "=D2") 1179 :: Value.str (Str.ofString "=D3") 1183 :: Value.str (Str.ofString "=D4") 1187 :: Value.str (Str.ofString "=D5") 1191 :: Value.str (Str.ofString "=D6") 1195 :: Value.str (Str.ofString "=D7") 1199 :: Value.str (Str.ofString "=D8") 1203 :: Value.str (Str.ofString "=D9") 1207 :: Value.str (Str.ofString "=DA") 1211 :: Value.str (Str.ofString "=DB") 1215 :: Value.str (Str.ofString "=DC") 1219 :: Value.str (Str.ofString "=DD") 1223 :: Value.str (Str.ofString "=DE") 1227 :: Value.str (Str.ofString "=DF") 1231 :: Value.str (Str.ofString "=E0") 1235 :: Value.str (Str.ofString "=E1") 1239 :: Value.str (Str.ofString "=E2") 1243 :: Value.str (Str.ofString "=E3") 1247 :: Value.str (Str.ofString "=E4") 1251 :: Value.str (Str.ofString "=E5") 1255 :: Value.str (Str.ofString "=E6") 1259 :: Value.str (Str.ofString "=E7") 1263 :: Value.str (Str.ofString "=E8") 1267 :: Value.str (Str.ofString "=E9") 1271 :: Value.str (Str.ofString "=EA") 1275 :: Value.str (Str.ofString "=EB") 1279 :: Value.str (Str.ofString "=EC") 1283 :: Value.str (Str.ofString "=ED") 1287 :: Value.str (Str.ofString "=EE") 1291 :: Value.str (Str.ofString "=EF") 1295 :: Value.str (Str.ofString "=F0") 1299 :: Value.str (Str.ofString "=F1") 1303 :: Value.str (Str.ofString "=F2") 1307 :: Value.str (Str.ofString "=F3") 1311 :: Value.str (Str.ofString "=F4") 1315 :: Value.str (Str.ofString "=F5") 1319 :: Value.str (Str.ofString "=F6") 1323 :: Value.str (Str.ofString "=F7") 1327 :: Value.str (Str.ofString "=F8") 1331 :: Value.str (Str.ofString "=F9") 1335 :: Value.str (Str.ofString "=FA") 1339 :: Value.str (Str.ofString "=FB") 1343 :: Value.str (Str.ofString "=FC") 1347 :: Value.str (Str.ofString "=FD") 1351 :: Value.str (Str.ofString "=FE") 1355 :: Value.str (Str.ofString "=FF") 1359 :: []))) #[]
noncomputable def ob60 (P : Params) : Obj := Obj.mk (Value.type "dict") none (Data.dict #[DictEntry.mk (PyData.keyHash P (Str.ofString "__name__")) (Value.str (Str.ofString "__name__") 165) (Value.str (Str.ofString "cpy313.email.quoprimime") 1376), DictEntry.mk (PyData.keyHash P (Str.ofString "__doc__")) (Value.str (Str.ofString "__doc__") 166) Value.none, DictEntry.mk (PyData.keyHash P (Str.ofString "__package__")) (Value.str (Str.ofString "__package__") 167) Value.none, DictEntry.mk (PyData.keyHash P (Str.ofString "__loader__")) (Value.str (Str.ofString "__loader__") 168) (Value.builtin "__main__.__loader__#opaque"), DictEntry.mk (PyData.keyHash P (Str.ofString "__spec__")) (Value.str (Str.ofString "__spec__") 169) Value.none, DictEntry.mk (PyData.keyHash P (Str.ofString "__annotations__")) (Value.str (Str.ofString "__annotations__") 170) (Value.ref 6), DictEntry.mk (PyData.keyHash P (Str.ofString "__builtins__")) (Value.str (Str.ofString "__builtins__") 171) (Value.ref 4), DictEntry.mk (PyData.keyHash P (Str.ofString "__file__")) (Value.str (Str.ofString "__file__") 173) (Value.str (Str.ofString "/claim/cut.py") 172), DictEntry.mk (PyData.keyHash P (Str.ofString "__cached__")) (Value.str (Str.ofString "__cached__") 174) Value.none, DictEntry.mk (PyData.keyHash P (Str.ofString "_sre")) (Value.str (Str.ofString "_sre") 275) (Value.ref 12), DictEntry.mk (PyData.keyHash P (Str.ofString "_strip_padding")) (Value.str (Str.ofString "_strip_padding") 293) (Value.ref 38), DictEntry.mk (PyData.keyHash P (Str.ofString "_twin_re_1")) (Value.str (Str.ofString "_twin_re_1") 328) (Value.ref 43), DictEntry.mk (PyData.keyHash P (Str.ofString "CRLF")) (Value.str (Str.ofString "CRLF") 330) (Value.str (Str.ofString "\x0d\n") 329), DictEntry.mk (PyData.keyHash P (Str.ofString "NL")) (Value.str (Str.ofString "NL") 332) (Value.str (Str.ofString "\n") 331), DictEntry.mk (PyData.keyHash P (Str.ofString "_QUOPRI_MAP")) (Value.str (Str.ofString "_QUOPRI_MAP") 1360) (Value.ref 46), DictEntry.mk (PyData.keyHash P (Str.ofString "_QUOPRI_HEADER_MAP")) (Value.str (Str.ofString "_QUOPRI_HEADER_MAP") 1361) (Value.ref 51), DictEntry.mk (PyData.keyHash P (Str.ofString "_QUOPRI_BODY_MAP")) (Value.str (Str.ofString "_QUOPRI_BODY_MAP") 1362) (Value.ref 53), DictEntry.mk (PyData.keyHash P (Str.ofString "ascii_lowercase")) (Value.str (Str.ofString "ascii_lowercase") 1364) (Value.str (Str.ofString "abcdefghijklmnopqrstuvwxyz") 1363), DictEntry.mk (PyData.keyHash P (Str.ofString "ascii_uppercase")) (Value.str (Str.ofString "ascii_uppercase") 1366) (Value.str (Str.ofString "ABCDEFGHIJKLMNOPQRSTUVWXYZ") 1365), DictEntry.mk (PyData.keyHash P (Str.ofString "ascii_letters")) (Value.str (Str.ofString "ascii_letters") 1368) (Value.str (Str.ofString "abcdefghijklmnopqrstuvwxyzABCDEFGHIJKLMNOPQRSTUVWXYZ") 1367), DictEntry.mk (PyData.keyHash P (Str.ofString "digits")) (Value.str (Str.ofString "digits") 1370) (Value.str (Str.ofString "0123456789") 1369), DictEntry.mk (PyData.keyHash P (Str.ofString "hexdigits")) (Value.str (Str.ofString "hexdigits") 1375) (Value.str (Str.ofString "0123456789abcdefABCDEF") 1374), DictEntry.mk (PyData.keyHash P (Str.ofString "c")) (Value.str (Str.ofString "c") 1386) (Value.int 45 1385)] 23) #[]
noncomputable def ob61 (_ : Params) : Obj := Obj.mk (Value.type "list") none (Data.seq (List.toArray (Value.str (Str.ofString "=00") 339 :: Value.str (Str.ofString "=01") 343 :: Value.str (Str.ofString "=02") 347 :: Value.str (Str.ofString "=03") 351 :: Value.str (Str.ofString "=04") 355 :: Value.str (Str.ofString "=05") 359 :: Value.str (Str.ofString "=06") 363 :: Value.str (Str.ofString "=07") 367 :: Value.str (Str.ofString "=08") 371 :: Value.str (Str.ofString "=09") 375 :: Value.str (Str.ofString "=0A") 379 :: Value.str (Str.ofString "=0B") 383 :: Value.str (Str.ofString "=0C") 387 :: Value.str (Str.ofString "=0D") 391 :: Value.str (Str.ofString "=0E") 395 :: Value.str (Str.ofString "=0F") 399 :: Value.str (Str.ofString "=10") 403 :: Value.str (Str.ofString "=11") 407 :: Value.str (Str.ofString "=12") 411 :: Value.str (Str.ofString "=13") 415 :: Value.str (Str.ofString "=14") 419 :: Value.str (Str.ofString "=15") 423 :: Value.str (Str.ofString "=16") 427 :: Value.str (Str.ofString "=17") 431 :: Value.str (Str.ofString "=18") 435 :: Value.str (Str.ofString "=19") 439 :: Value.str (Str.ofString "=1A") 443 :: Value.str (Str.ofString "=1B") 447 :: Value.str (Str.ofString "=1C") 451 :: Value.str (Str.ofString "=1D") 455 :: Value.str (Str.ofString "=1E") 459 :: Value.str (Str.ofString "=1F") 463 :: Value.str (Str.ofString "=20") 467 :: Value.str (Str.ofString "=21") 471 :: Value.str (Str.ofString "=22") 475 :: Value.str (Str.ofString "=23") 479 :: Value.str (Str.ofString "=24") 483 :: Value.str (Str.ofString "=25") 487 :: Value.str (Str.ofString "=26") 491 :: Value.str (Str.ofString "=27") 495 :: Value.str (Str.ofString "=28") 499 :: Value.str (Str.ofString "=29") 503 :: Value.str (Str.ofString "=2A") 507 :: Value.str (Str.ofString "=2B") 511 :: Value.str (Str.ofString "=2C") 515 :: Value.str (Str.ofString "-") 1387 :: Value.str (Str.ofString "=2E") 523 :: Value.str (Str.ofString "=2F") 527 :: Value.str (Str.ofString "=30") 531 :: Value.str (Str.ofString "=31") 535 :: Value.str (Str.ofString "=32") 539 :: Value.str (Str.ofString "=33") 543 :: Value.str (Str.ofString "=34") 547 :: Value.str (Str.ofString "=35") 551 :: Value.str (Str.ofString "=36") 555 :: Value.str (Str.ofString "=37") 559 :: Value.str (Str.ofString "=38") 563 :: Value.str (Str.ofString "=39") 567 :: Value.str (Str.ofString "=3A") 571 :: Value.str (Str.ofString "=3B") 575 :: Value.str (Str.ofString "=3C") 579 :: Value.str (Str.ofString "=3D") 583 :: Value.str (Str.ofString "=3E") 587 :: Value.str (Str.ofString "=3F") 591 :: Value.str (Str.ofString "=40") 595 :: Value.str (Str.ofString "=41") 599 :: Value.str (Str.ofString "=42") 603 :: Value.str (Str.ofString "=43") 607 :: Value.str (Str.ofString "=44") 611 :: Value.str (Str.ofString "=45") 615 :: Value.str (Str.ofString "=46") 619 :: Value.str (Str.ofString "=47") 623 :: Value.str (Str.ofString "=48") 627 :: Value.str (Str.ofString "=49") 631 :: Value.str (Str.ofString "=4A") 635 :: Value.str (Str.ofString "=4B") 639 :: Value.str (Str.ofString "=4C") 643 :: Value.str (Str.ofString "=4D") 647 :: Value.str (Str.ofString "=4E") 651 :: Value.str (Str.ofString "=4F") 655 :: Value.str (Str.ofString "=50") 659 :: Value.str (Str.ofString "=51") 663 :: Value.str (Str.ofString "=52") 667 :: Value.str (Str.ofString "=53") 671 :: Value.str (Str.ofString "=54") 675 :: Value.str (Str.ofString "=55") 679 :: Value.str (Str.ofString "=56") 683 :: Value.str (Str.ofString "=57") 687 :: Value.str (Str.ofString "=58") 691 :: Value.str (Str.ofString "=59") 695 :: Value.str (Str.ofString "=5A") 699 :: Value.str (Str.ofString "=5B") 703 :: Value.str (Str.ofString "=5C") 707 :: Value.str (Str.ofString "=5D") 711 :: Value.str (Str.ofString "=5E") 715 :: Value.str (Str.ofString "=5F") 719 :: Value.str (Str.ofString "=60") 723 :: Value.str (Str.ofString "=61") 727 :: Value.str (Str.ofString "=62") 731 :: Value.str (Str.ofString "=63") 735 :: Value.str (Str.ofString "=64") 739 :: Value.str (Str.ofString "=65") 743 :: Value.str (Str.ofString "=66") 747 :: Value.str (Str.ofString "=67") 751 :: Value.str (Str.ofString "=68") 755 :: Value.str (Str.ofString "=69") 759 :: Value.str (Str.ofString "=6A") 763 :: Value.str (Str.ofString "=6B") 767 :: Value.str (Str.ofString "=6C") 771 :: Value.str (Str.ofString "=6D") 775 :: Value.str (Str.ofString "=6E") 779 :: Value.str (Str.ofString "=6F") 783 :: Value.str (Str.ofString "=70") 787 :: Value.str (Str.ofString "=71") 791 :: Value.str (Str.ofString "=72") 795 :: Value.str (Str.ofString "=73") 799 :: Value.str (Str.ofString "=74") 803 :: Value.str (Str.ofString "=75") 807 :: Value.str (Str.ofString "=76") 811 :: Value.str (Str.ofString "=77") 815 :: Value.str (Str.ofString "=78") 819 :: Value.str (Str.ofString "=79") 823 :: Value.str (Str.ofString "=7A") 827 :: Value.str (Str.ofString "=7B") 831 :: Value.str (Str.ofString "=7C") 835 :: Value.str (Str.ofString "=7D") 839 :: Value.str (Str.ofString "=7E") 843 :: Value.str (Str.ofString "=7F") 847 :: Value.str (Str.ofString "=80") 851 :: Value.str (Str.ofString "=81") 855 :: Value.str (Str.ofString "=82") 859 :: Value.str (Str.ofString "=83") 863 :: Value.str (Str.ofString "=84") 867 :: Value.str (Str.ofString "=85") 871 :: Value.str (Str.ofString "=86") 875 :: Value.str (Str.ofString "=87") 879 :: Value.str (Str.ofString "=88") 883 :: Value.str (Str.ofString "=89") 887 :: Value.str (Str.ofString "=8A") 891 :: Value.str (Str.ofString "=8B") 895 :: Value.str (Str.ofString "=8C") 899 :: Value.str (Str.ofString "=8D") 903 :: Value.str (Str.ofString "=8E") 907 :: Value.str (Str.ofString "=8F") 911 :: Value.str (Str.ofString "=90") 915 :: Value.str (Str.ofString "=91") 919 :: Value.str (Str.ofString "=92") 923 :: Value.str (Str.ofString "=93") 927 :: Value.str (Str.ofString "=94") 931 :: Value.str (Str.ofString "=95") 935 :: Value.str (Str.ofString "=96") 939 :: Value.str (Str.ofString "=97") 943 :: Value.str (Str.ofString "=98") 947 :: Value.str (Str.ofString "=99") 951 :: Value.str (Str.ofString "=9A") 955 :: Value.str (Str.ofString "=9B") 959 :: Value.str (Str.ofString "=9C") 963 :: Value.str (Str.ofString "=9D") 967 :: Value.str (Str.ofString "=9E") 971 :: Value.str (Str.ofString "=9F") 975 :: Value.str (Str.ofString "=A0") 979 :: Value.str (Str.ofString "=A1") 983 :: Value.str (Str.ofString "=A2") 987 :: Value.str (Str.ofString "=A3") 991 :: Value.str (Str.ofString "=A4") 995 :: Value.str (Str.ofString "=A5") 999 :: Value.str (Str.ofString "=A6") 1003 :: Value.str (Str.ofString "=A7") 1007 :: Value.str (Str.ofString "=A8") 1011 :: Value.str (Str.ofString "=A9") 1015 :: Value.str (Str.ofString "=AA") 1019 :: Value.str (Str.ofString "=AB") 1023 :: Value.str (Str.ofString "=AC") 1027 :: Value.str (Str.ofString "=AD") 1031 :: Value.str (Str.ofString "=AE") 1035 :: Value.str (Str.ofString "=AF") 1039 :: Value.str (Str.ofString "=B0") 1043 :: Value.str (Str.ofString "=B1") 1047 :: Value.str (Str.ofString "=B2") 1051 :: Value.str (Str.ofString "=B3") 1055 :: Value.str (Str.ofString "=B4") 1059 :: Value.str (Str.ofString "=B5") 1063 :: Value.str (Str.ofString "=B6") 1067 :: Value.str (Str.ofString "=B7") 1071 :: Value.str (Str.ofString "=B8") 1075 :: Value.str (Str.ofString "=B9") 1079 :: Value.str (Str.ofString "=BA") 1083 :: Value.str (Str.ofString "=BB") 1087 :: Value.str (Str.ofString "=BC") 1091 :: Value.str (Str.ofString "=BD") 1095 :: Value.str (Str.ofString "=BE") 1099 :: Value.str (Str.ofString "=BF") 1103 :: Value.str (Str.ofString "=C0") 1107 :: Value.str (Str.ofString "=C1") 1111 :: Value.str (Str.ofString "=C2") 1115 :: Value.str (Str.ofString "=C3") 1119 :: Value.str (Str.ofString "=C4") 1123 :: Value.str (Str.ofString "=C5") 1127 :: Value.str (Str.ofString "=C6") 1131 :: Value.str (Str.ofString "=C7") 1135 :: Value.str (Str.ofString "=C8") 1139 :: Value.str (Str.ofString "=C9") 1143 :: Value.str (Str.ofString "=CA") 1147 :: Value.str (Str.ofString "=CB") 1151 :: Value.str (Str.ofString "=CC") 1155 :: Value.str (Str.ofString "=CD") 1159 :: Value.str (Str.ofString "=CE") 1163 :: Value.str (Str.ofString "=CF") 1167 :: Value.str (Str.ofString "=D0") 1171 :: Value.str (Str.ofString "=D1") 1175 :: Value.str (Str.ofString "=D2") 1179 :: Value.str (Str.ofString "=D3") 1183 :: Value.str (Str.ofString "=D4") 1187 :: Value.str (Str.ofString "=D5") 1191 :: Value.str (Str.ofString "=D6") 1195 :: Value.str (Str.ofString "=D7") 1199 :: Value.str (Str.ofString "=D8") 1203 :: Value.str (Str.ofString "=D9") 1207 :: Value.str (Str.ofString "=DA") 1211 :: Value.str (Str.ofString "=DB") 1215 :: Value.str (Str.ofString "=DC") 1219 :: Value.str (Str.ofString "=DD") 1223 :: Value.str (Str.ofString "=DE") 1227 :: Value.str (Str.ofString "=DF") 1231 :: Value.str (Str.ofString "=E0") 1235 :: Value.str (Str.ofString "=E1") 1239 :: Value.str (Str.ofString "=E2") 1243 :: Value.str (Str.ofString "=E3") 1247 :: Value.str (Str.ofString "=E4") 1251 :: Value.str (Str.ofString "=E5") 1255 :: Value.str (Str.ofString "=E6") 1259 :: Value.str (Str.ofString "=E7") 1263 :: Value.str (Str.ofString "=E8") 1267 :: Value.str (Str.ofString "=E9") 1271 :: Value.str (Str.ofString "=EA") 1275 :: Value.str (Str.ofString "=EB") 1279 :: Value.str (Str.ofString "=EC") 1283 :: Value.str (Str.ofString "=ED") 1287 :: Value.str (Str.ofString "=EE") 1291 :: Value.str (Str.ofString "=EF") 1295 :: Value.str (Str.ofString "=F0") 1299 :: Value.str (Str.ofString "=F1") 1303 :: Value.str (Str.ofString "=F2") 1307 :: Value.str (Str.ofString "=F3") 1311 :: Value.str (Str.ofString "=F4") 1315 :: Value.str (Str.ofString "=F5") 1319 :: Value.str (Str.ofString "=F6") 1323 :: Value.str (Str.ofString "=F7") 1327 :: Value.str (Str.ofString "=F8") 1331 :: Value.str (Str.ofString "=F9") 1335 :: Value.str (Str.ofString "=FA") 1339 :: Value.str (Str.ofString "=FB") 1343 :: Value.str (Str.ofString "=FC") 1347 :: Value.str (Str.ofString "=FD") 1351 :: Value.str (Str.ofString "=FE") 1355 :: Value.str (Str.ofString "=FF") 1359 :: []))) #[]
noncomputable def ob62 (_ : Params) : Obj := Obj.mk (Value.type "bytes_iterator") none (Data.fields #[Value.bytes (List.toArray (45 :: 33 :: 42 :: 43 :: 47 :: 97 :: 98 :: 99 :: 100 :: 101 :: 102 :: 103 :: 104 :: 105 :: 106 :: 107 :: 108 :: 109 :: 110 :: 111 :: 112 :: 113 :: 114 :: 115 :: 116 :: 117 :: 118 :: 119 :: 120 :: 121 :: 122 :: 65 :: 66 :: 67 :: 68 :: 69 :: 70 :: 71 :: 72 :: 73 :: 74 :: 75 :: 76 :: 77 :: 78 :: 79 :: 80 :: 81 :: 82 :: 83 :: 84 :: 85 :: 86 :: 87 :: 88 :: 89 :: 90 :: 48 :: 49 :: 50 :: 51 :: 52 :: 53 :: 54 :: 55 :: 56 :: 57 :: [])) 1384, Value.int 1 0]) #[]
noncomputable def ob63 (P : Params) : Obj := Obj.mk (Value.type "dict") none (Data.dict #[DictEntry.mk (PyData.keyHash P (Str.ofString "__name__")) (Value.str (Str.ofString "__name__") 165) (Value.str (Str.ofString "cpy313.email.quoprimime") 1376), DictEntry.mk (PyData.keyHash P (Str.ofString "__doc__")) (Value.str (Str.ofString "__doc__") 166) Value.none, DictEntry.mk (PyData.keyHash P (Str.ofString "__package__")) (Value.str (Str.ofString "__package__") 167) Value.none, DictEntry.mk (PyData.keyHash P (Str.ofString "__loader__")) (Value.str (Str.ofString "__loader__") 168) (Value.builtin "__main__.__loader__#opaque"), DictEntry.mk (PyData.keyHash P (Str.ofString "__spec__")) (Value.str (Str.ofString "__spec__") 169) Value.none, DictEntry.mk (PyData.keyHash P (Str.ofString "__annotations__")) (Value.str (Str.ofString "__annotations__") 170) (Value.ref 6), DictEntry.mk (PyData.keyHash P (Str.ofString "__builtins__")) (Value.str (Str.ofString "__builtins__") 171) (Value.ref 4), DictEntry.mk (PyData.keyHash P (Str.ofString "__file__")) (Value.str (Str.ofString "__file__") 173) (Value.str (Str.ofString "/claim/cut.py") 172), DictEntry.mk (PyData.keyHash P (Str.ofString "__cached__")) (Value.str (Str.ofString "__cached__") 174) Value.none, DictEntry.mk (PyData.keyHash P (Str.ofString "_sre")) (Value.str (Str.ofString "_sre") 275) (Value.ref 12), DictEntry.mk (PyData.keyHash P (Str.ofString "_strip_padding")) (Value.str (Str.ofString "_strip_padding") 293) (Value.ref 38), DictEntry.mk (PyData.keyHash P (Str.ofString "_twin_re_1")) (Value.str (Str.ofString "_twin_re_1") 328) (Value.ref 43), DictEntry.mk (PyData.keyHash P (Str.ofString "CRLF")) (Value.str (Str.ofString "CRLF") 330) (Value.str (Str.ofString "\x0d\n") 329), DictEntry.mk (PyData.keyHash P (Str.ofString "NL")) (Value.str (Str.ofString "NL") 332) (Value.str (Str.ofString "\n") 331), DictEntry.mk (PyData.keyHash P (Str.ofString "_QUOPRI_MAP")) (Value.str (Str.ofString "_QUOPRI_MAP") 1360) (Value.ref 46), DictEntry.mk (PyData.keyHash P (Str.ofString "_QUOPRI_HEADER_MAP")) (Value.str (Str.ofString "_QUOPRI_HEADER_MAP") 1361) (Value.ref 51), DictEntry.mk (PyData.keyHash P (Str.ofString "_QUOPRI_BODY_MAP")) (Value.str (Str.ofString "_QUOPRI_BODY_MAP") 1362) (Value.ref 53), DictEntry.mk (PyData.keyHash P (Str.ofString "ascii_lowercase")) (Value.str (Str.ofString "ascii_lowercase") 1364) (Value.str (Str.ofString "abcdefghijklmnopqrstuvwxyz") 1363), DictEntry.mk (PyData.keyHash P (Str.ofString "ascii_uppercase")) (Value.str (Str.ofString "ascii_uppercase") 1366) (Value.str (Str.ofString "ABCDEFGHIJKLMNOPQRSTUVWXYZ") 1365), DictEntry.mk (PyData.keyHash P (Str.ofString "ascii_letters")) (Value.str (Str.ofString "ascii_letters") 1368) (Value.str (Str.ofString "abcdefghijklmnopqrstuvwxyzABCDEFGHIJKLMNOPQRSTUVWXYZ") 1367), DictEntry.mk (PyData.keyHash P (Str.ofString "digits")) (Value.str (Str.ofString "digits") 1370) (Value.str (Str.ofString "0123456789") 1369), DictEntry.mk (PyData.keyHash P (Str.ofString "hexdigits")) (Value.str (Str.ofString "hexdigits") 1375) (Value.str (Str.ofString "0123456789abcdefABCDEF") 1374), DictEntry.mk (PyData.keyHash P (Str.ofString "c")) (Value.str (Str.ofString "c") 1386) (Value.int 67 1484)] 23) #[]
noncomputable def ob64 (_ : Params) : Obj := Obj.mk (Value.type "list") none (Data.seq (List.toArray (Value.str (Str.ofString "=00") 339 :: Value.str (Str.ofString "=01") 343 :: Value.str (Str.ofString "=02") 347 :: Value.str (Str.ofString "=03") 351 :: Value.str (Str.ofString "=04") 355 :: Value.str (Str.ofString "=05") 359 :: Value.str (Str.ofString "=06") 363 :: Value.str (Str.ofString "=07") 367 :: Value.str (Str.ofString "=08") 371 :: Value.str (Str.ofString "=09") 375 :: Value.str (Str.ofString "=0A") 379 :: Value.str (Str.ofString "=0B") 383 :: Value.str (Str.ofString "=0C") 387 :: Value.str (Str.ofString "=0D") 391 :: Value.str (Str.ofString "=0E") 395 :: Value.str (Str.ofString "=0F") 399 :: Value.str (Str.ofString "=10") 403 :: Value.str (Str.ofString "=11") 407 :: Value.str (Str.ofString "=12") 411 :: Value.str (Str.ofString "=13") 415 :: Value.str (Str.ofString "=14") 419 :: Value.str (Str.ofString "=15") 423 :: Value.str (Str.ofString "=16") 427 :: Value.str (Str.ofString "=17") 431 :: Value.str (Str.ofString "=18") 435 :: Value.str (Str.ofString "=19") 439 :: Value.str (Str.ofString "=1A") 443 :: Value.str (Str.ofString "=1B") 447 :: Value.str (Str.ofString "=1C") 451 :: Value.str (Str.ofString "=1D") 455 :: Value.str (Str.ofString "=1E") 459 :: Value.str (Str.ofString "=1F") 463 :: Value.str (Str.ofString "=20") 467 :: Value.str (Str.ofString "!") 1390 :: Value.str (Str.ofString "=22") 475 :: Value.str (Str.ofString "=23") 479 :: Value.str (Str.ofString "=24") 483 :: Value.str (Str.ofString "=25") 487 :: Value.str (Str.ofString "=26") 491 :: Value.str (Str.ofString "=27") 495 :: Value.str (Str.ofString "=28") 499 :: Value.str (Str.ofString "=29") 503 :: Value.str (Str.ofString "*") 1393 :: Value.str (Str.ofString "+") 1396 :: Value.str (Str.ofString "=2C") 515 :: Value.str (Str.ofString "-") 1387 :: Value.str (Str.ofString "=2E") 523 :: Value.str (Str.ofString "/") 1399 :: Value.str (Str.ofString "=30") 531 :: Value.str (Str.ofString "=31") 535 :: Value.str (Str.ofString "=32") 539 :: Value.str (Str.ofString "=33") 543 :: Value.str (Str.ofString "=34") 547 :: Value.str (Str.ofString "=35") 551 :: Value.str (Str.ofString "=36") 555 :: Value.str (Str.ofString "=37") 559 :: Value.str (Str.ofString "=38") 563 :: Value.str (Str.ofString "=39") 567 :: Value.str (Str.ofString "=3A") 571 :: Value.str (Str.ofString "=3B") 575 :: Value.str (Str.ofString "=3C") 579 :: Value.str (Str.ofString "=3D") 583 :: Value.str (Str.ofString "=3E") 587 :: Value.str (Str.ofString "=3F") 591 :: Value.str (Str.ofString "=40") 595 :: Value.str (Str.ofString "A") 1480 :: Value.str (Str.ofString "B") 1483 :: Value.str (Str.ofString "C") 1486 :: Value.str (Str.ofString "=44") 611 :: Value.str (Str.ofString "=45") 615 :: Value.str (Str.ofString "=46") 619 :: Value.str (Str.ofString "=47") 623 :: Value.str (Str.ofString "=48") 627 :: Value.str (Str.ofString "=49") 631 :: Value.str (Str.ofString "=4A") 635 :: Value.str (Str.ofString "=4B") 639 :: Value.str (Str.ofString "=4C") 643 :: Value.str (Str.ofString "=4D") 647 :: Value.str (Str.ofString "=4E") 651 :: Value.str (Str.ofString "=4F") 655 :: Value.str (Str.ofString "=50") 659 :: Value.str (Str.ofString "=51") 663 :: Value.str (Str.ofString "=52") 667 :: Value.str (Str.ofString "=53") 671 :: Value.str (Str.ofString "=54") 675 :: Value.str (Str.ofString "=55") 679 :: Value.str (Str.ofString "=56") 683 :: Value.str (Str.ofString "=57") 687 :: Value.str (Str.ofString "=58") 691 :: Value.str (Str.ofString "=59") 695 :: Value.str (Str.ofString "=5A") 699 :: Value.str (Str.ofString "=5B") 703 :: Value.str (Str.ofString "=5C") 707 :: Value.str (Str.ofString "=5D") 711 :: Value.str (Str.ofString "=5E") 715 :: Value.str (Str.ofString "=5F") 719 :: Value.str (Str.ofString "=60") 723 :: Value.str (Str.ofString "a") 1402 :: Value.str (Str.ofString "b") 1405 :: Value.str (Str.ofString "c") 1408 :: Value.str (Str.ofString "d") 1411 :: Value.str (Str.ofString "e") 1414 :: Value.str (Str.ofString "f") 1417 :: Value.str (Str.ofString "g") 1420 :: Value.str (Str.ofString "h") 1423 :: Value.str (Str.ofString "i") 1426 :: Value.str (Str.ofString "j") 1429 :: Value.str (Str.ofString "k") 1432 :: Value.str (Str.ofString "l") 1435 :: Value.str (Str.ofString "m") 1438 :: Value.str (Str.ofString "n") 1441 :: Value.str (Str.ofString "o") 1444 :: Value.str (Str.ofString "p") 1447 :: Value.str (Str.ofString "q") 1450 :: Value.str (Str.ofString "r") 1453 :: Value.str (Str.ofString "s") 1456 :: Value.str (Str.ofString "t") 1459 :: Value.str (Str.ofString "u") 1462 :: Value.str (Str.ofString "v") 1465 :: Value.str (Str.ofString "w") 1468 :: Value.str (Str.ofString "x") 1471 :: Value.str (Str.ofString "y") 1474 :: Value.str (Str.ofString "z") 1477 :: Value.str (Str.ofString "=7B") 831 :: Value.str (Str.ofString "=7C") 835 :: Value.str (Str.ofString "=7D") 839 :: Value.str (Str.ofString "=7E") 843 :: Value.str (Str.ofString "=7F") 847 :: Value.str (Str.ofString "=80") 851 :: Value.str (Str.ofString "=81") 855 :: Value.str (Str.ofString "=82") 859 :: Value.str (Str.ofString "=83") 863 :: Value.str (Str.ofString "=84") 867 :: Value.str (Str.ofString "=85") 871 :: Value.str (Str.ofString "=86") 875 :: Value.str (Str.ofString "=87") 879 :: Value.str (Str.ofString "=88") 883 :: Value.str (Str.ofString "=89") 887 :: Value.str (Str.ofString "=8A") 891 :: Value.str (Str.ofString "=8B") 895 :: Value.str (Str.ofString "=8C") 899 :: Value.str (Str.ofString "=8D") 903 :: Value.str (Str.ofString "=8E") 907 :: Value.str (Str.ofString "=8F") 911 :: Value.str (Str.ofString "=90") 915 :: Value.str (Str.ofString "=91") 919 :: Value.str (Str.ofString "=92") 923 :: Value.str (Str.ofString "=93") 927 :: Value.str (Str.ofString "=94") 931 :: Value.str (Str.ofString "=95") 935 :: Value.str (Str.ofString "=96") 939 :: Value.str (Str.ofString "=97") 943 :: Value.str (Str.ofString "=98") 947 :: Value.str (Str.ofString "=99") 951 :: Value.str (Str.ofString "=9A") 955 :: Value.str (Str.ofString "=9B") 959 :: Value.str (Str.ofString "=9C") 963 :: Value.str (Str.ofString "=9D") 967 :: Value.str (Str.ofString "=9E") 971 :: Value.str (Str.ofString "=9F") 975 :: Value.str (Str.ofString "=A0") 979 :: Value.str (Str.ofString "=A1") 983 :: Value.str (Str.ofString "=A2") 987 :: Value.str (Str.ofString "=A3") 991 :: Value.str (Str.ofString "=A4") 995 :: Value.str (Str.ofString "=A5") 999 :: Value.str (Str.ofString "=A6") 1003 :: Value.str (Str.ofString "=A7") 1007 :: Value.str (Str.ofString "=A8") 1011 :: Value.str (Str.ofString "=A9") 1015 :: Value.str (Str.ofString "=AA") 1019 :: Value.str (Str.ofString "=AB") 1023 :: Value.str (Str.ofString "=AC") 1027 :: Value.str (Str.ofString "=AD") 1031 :: Value.str (Str.ofString "=AE") 1035 :: Value.str (Str.ofString "=AF") 1039 :: Value.str (Str.ofString "=B0") 1043 :: Value.str (Str.ofString "=B1") 1047 :: Value.str (Str.ofString "=B2") 1051 :: Value.str (Str.ofString "=B3") 1055 :: Value.str (Str.ofString "=B4") 1059 :: Value.str (Str.ofString "=B5") 1063 :: Value.str (Str.ofString "=B6") 1067 :: Value.str (Str.ofString "=B7") 1071 :: Value.str (Str.ofString "=B8") 1075 :: Value.str (Str.ofString "=B9") 1079 :: Value.str (Str.ofString "=BA") 1083 :: Value.str (Str.ofString "=BB") 1087 :: Value.str (Str.ofString "=BC") 1091 :: Value.str (Str.ofString "=BD") 1095 :: Value.str (Str.ofString "=BE") 1099 :: Value.str (Str.ofString "=BF") 1103 :: Value.str (Str.ofString "=C0") 1107 :: Value.str (Str.ofString "=C1") 1111 :: Value.str (Str.ofString "=C2") 1115 :: Value.str (Str.ofString "=C3") 1119 :: Value.str (Str.ofString "=C4") 1123 :: Value.str (Str.ofString "=C5") 1127 :: Value.str (Str.ofString "=C6") 1131 :: Value.str (Str.ofString "=C7") 1135 :: Value.str (Str.ofString "=C8") 1139 :: Value.str (Str.ofString "=C9") 1143 :: Value.str (Str.ofString "=CA") 1147 :: Value.str (Str.ofString "=CB") 1151 :: Value.str (Str.ofString "=CC") 1155 :: Value.str (Str.ofString "=CD") 1159 :: Value.str (Str.ofString "=CE") 1163 :: Value.str (Str.ofString "=CF") 1167 :: Value.str (Str.ofString "=D0") 1171 :: Value.str (Str.ofString "=D1") 1175 :: Value.str (Str.ofString "=D2") 1179 :: Value.str (Str.ofString "=D3") 1183 :: Value.str (Str.ofString "=D4") 1187 :: Value.str (Str.ofString "=D5") 1191 :: Value.str (Str.ofString "=D6") 1195 :: Value.str (Str.ofString "=D7") 1199 :: Value.str (Str.ofString "=D8") 1203 :: Value.str (Str.ofString "=D9") 1207 :: Value.str (Str.ofString "=DA") 1211 :: Value.str (Str.ofString "=DB") 1215 :: Value.str (Str.ofString "=DC") 1219 :: Value.str (Str.ofString "=DD") 1223 :: Value.str (Str.ofString "=DE") 1227 :: Value.str (Str.ofString "=DF") 1231 :: Value.str (Str.ofString "=E0") 1235 :: Value.str (Str.ofString "=E1") 1239 :: Value.str (Str.ofString "=E2") 1243 :: Value.str (Str.ofString "=E3") 1247 :: Value.str (Str.ofString "=E4") 1251 :: Value.str (Str.ofString "=E5") 1255 :: Value.str (Str.ofString "=E6") 1259 :: Value.str (Str.ofString "=E7") 1263 :: Value.str (Str.ofString "=E8") 1267 :: Value.str (Str.ofString "=E9") 1271 :: Value.str (Str.ofString "=EA") 1275 :: Value.str (Str.ofString "=EB") 1279 :: Value.str (Str.ofString "=EC") 1283 :: Value.str (Str.ofString "=ED") 1287 :: Value.str (Str.ofString "=EE") 1291 :: Value.str (Str.ofString "=EF") 1295 :: Value.str (Str.ofString "=F0") 1299 :: Value.str (Str.ofString "=F1") 1303 :: Value.str (Str.ofString "=F2") 1307 :: Value.str (Str.ofString "=F3") 1311 :: Value.str (Str.ofString "=F4") 1315 :: Value.str (Str.ofString "=F5") 1319 :: Value.str (Str.ofString "=F6") 1323 :: Value.str (Str.ofString "=F7") 1327 :: Value.str (Str.ofString "=F8") 1331 :: Value.str (Str.ofString "=F9") 1335 :: Value.str (Str.ofString "=FA") 1339 :: Value.str (Str.ofString "=FB") 1343 :: Value.str (Str.ofString "=FC") 1347 :: Value.str (Str.ofString "=FD") 1351 :: Value.str (Str.ofString "=FE") 1355 :: Value.str (Str.ofString "=FF") 1359 :: []))) #[]
noncomputable def ob65 (_ : Params) : Obj := Obj.mk (Value.type "bytes_iterator") none (Data.fields #[Value.bytes (List.toArray (45 :: 33 :: 42 :: 43 :: 47 :: 97 :: 98 :: 99 :: 100 :: 101 :: 102 :: 103 :: 104 :: 105 :: 106 :: 107 :: 108 :: 109 :: 110 :: 111 :: 112 :: 113 :: 114 :: 115 :: 116 :: 117 :: 118 :: 119 :: 120 :: 121 :: 122 :: 65 :: 66 :: 67 :: 68 :: 69 :: 70 :: 71 :: 72 :: 73 :: 74 :: 75 :: 76 :: 77 :: 78 :: 79 :: 80 :: 81 :: 82 :: 83 :: 84 :: 85 :: 86 :: 87 :: 88 :: 89 :: 90 :: 48 :: 49 :: 50 :: 51 :: 52 :: 53 :: 54 :: 55 :: 56 :: 57 :: [])) 1384, Value.int 34 0]) #[]
noncomputable def ob66 (P : Params) : Obj := Obj.mk (Value.type "dict") none (Data.dict #[DictEntry.mk (PyData.keyHash P (Str.ofString "__name__")) (Value.str (Str.ofString "__name__") 165) (Value.str (Str.ofString "cpy313.email.quoprimime") 1376), DictEntry.mk (PyData.keyHash P (Str.ofString "__doc__")) (Value.str (Str.ofString "__doc__") 166) Value.none, DictEntry.mk (PyData.keyHash P (Str.ofString "__package__")) (Value.str (Str.ofString "__package__") 167) Value.none, DictEntry.mk (PyData.keyHash P (Str.ofString "__loader__")) (Value.str (Str.ofString "__loader__") 168) (Value.builtin "__main__.__loader__#opaque"), DictEntry.mk (PyData.keyHash P (Str.ofString "__spec__")) (Value.str (Str.ofString "__spec__") 169) Value.none, DictEntry.mk (PyData.keyHash P (Str.ofString "__annotations__")) (Value.str (Str.ofString "__annotations__") 170) (Value.ref 6), DictEntry.mk (PyData.keyHash P (Str.ofString "__builtins__")) (Value.str (Str.ofString "__builtins__") 171) (Value.ref 4), DictEntry.mk (PyData.keyHash P (Str.ofString "__file__")) (Value.str (Str.ofString "__file__") 173) (Value.str (Str.ofString "/claim/cut.py") 172), DictEntry.mk (PyData.keyHash P (Str.ofString "__cached__")) (Value.str (Str.ofString "__cached__") 174) Value.none, DictEntry.mk (PyData.keyHash P (Str.ofString "_sre")) (Value.str (Str.ofString "_sre") 275) (Value.ref 12), DictEntry.mk (PyData.keyHash P (Str.ofString "_strip_padding")) (Value.str (Str.ofString "_strip_padding") 293) (Value.ref 38), DictEntry.mk (PyData.keyHash P (Str.ofString "_twin_re_1")) (Value.str (Str.ofString "_twin_re_1") 328) (Value.ref 43), DictEntry.mk (PyData.keyHash P (Str.ofString "CRLF")) (Value.str (Str.ofString "CRLF") 330) (Value.str (Str.ofString "\x0d\n") 329), DictEntry.mk (PyData.keyHash P (Str.ofString "NL")) (Value.str (Str.ofString "NL") 332) (Value.str (Str.ofString "\n") 331), DictEntry.mk (PyData.keyHash P (Str.ofString "_QUOPRI_MAP")) (Value.str (Str.ofString "_QUOPRI_MAP") 1360) (Value.ref 46), DictEntry.mk (PyData.keyHash P (Str.ofString "_QUOPRI_HEADER_MAP")) (Value.str (Str.ofString "_QUOPRI_HEADER_MAP") 1361) (Value.ref 51), DictEntry.mk (PyData.keyHash P (Str.ofString "_QUOPRI_BODY_MAP")) (Value.str (Str.ofString "_QUOPRI_BODY_MAP") 1362) (Value.ref 53), DictEntry.mk (PyData.keyHash P (Str.ofString "ascii_lowercase")) (Value.str (Str.ofString "ascii_lowercase") 1364) (Value.str (Str.ofString "abcdefghijklmnopqrstuvwxyz") 1363), DictEntry.mk (PyData.keyHash P (Str.ofString "ascii_uppercase")) (Value.str (Str.ofString "ascii_uppercase") 1366) (Value.str (Str.ofString "ABCDEFGHIJKLMNOPQRSTUVWXYZ") 1365), DictEntry.mk (PyData.keyHash P (Str.ofString "ascii_letters")) (Value.str (Str.ofString "ascii_letters") 1368) (Value.str (Str.ofString "abcdefghijklmnopqrstuvwxyzABCDEFGHIJKLMNOPQRSTUVWXYZ") 1367), DictEntry.mk (PyData.keyHash P (Str.ofString "digits")) (Value.str (Str.ofString "digits") 1370) (Value.str (Str.ofString "0123456789") 1369), DictEntry.mk (PyData.keyHash P (Str.ofString "hexdigits")) (Value.str (Str.ofString "hexdigits") 1375) (Value.str (Str.ofString "0123456789abcdefABCDEF") 1374), DictEntry.mk (PyData.keyHash P (Str.ofString "c")) (Value.str (Str.ofString "c") 1386) (Value.int 57 1583)] 23) #[]
noncomputable def ob67 (P : Params) : Obj := Obj.mk (Value.type "list") none (Data.seq (List.toArray (Value.str (Str.ofString "=00") 339 :: Value.str (Str.ofString "=01") 343 :: Value.str (Str.ofString "=02") 347 :: Value.str (Str.ofString "=03") 351 :: Value.str (Str.ofString "=04") 355 :: Value.str (Str.ofString "=05") 359 :: Value.str (Str.ofString "=06") 363 :: Value.str (Str.ofString "=07") 367 :: Value.str (Str.ofString "=08") 371 :: Value.str (Str.ofString "=09") 375 :: Value.str (Str.ofString "=0A") 379 :: Value.str (Str.ofString "=0B") 383 :: Value.str (Str.ofString "=0C") 387 :: Value.str (Str.ofString "=0D") 391 :: Value.str (Str.ofString "=0E") 395 :: Value.str (Str.ofString "=0F") 399 :: Value.str (Str.ofString "=10") 403 :: Value.str (Str.ofString "=11") 407 :: Value.str (Str.ofString "=12") 411 :: Value.str (Str.ofString "=13") 415 :: Value.str (Str.ofString "=14") 419 :: Value.str (Str.ofString "=15") 423 :: Value.str (Str.ofString "=16") 427 :: Value.str (Str.ofString "=17") 431 :: Value.str (Str.ofString "=18") 435 :: Value.str (Str.ofString "=19") 439 :: Value.str (Str.ofString "=1A") 443 :: Value.str (Str.ofString "=1B") 447 :: Value.str (Str.ofString "=1C") 451 :: Value.str (Str.ofString "=1D") 455 :: Value.str (Str.ofString "=1E") 459 :: Value.str (Str.ofString "=1F") 463 :: Value.str (Str.ofString "=20") 467 :: Value.str (Str.ofString "!") 1390 :: Value.str (Str.ofString "=22") 475 :: Value.str (Str.ofString "=23") 479 :: Value.str (Str.ofString "=24") 483 :: Value.str (Str.ofString "=25") 487 :: Value.str (Str.ofString "=26") 491 :: Value.str (Str.ofString "=27") 495 :: Value.str (Str.ofString "=28") 499 :: Value.str (Str.ofString "=29") 503 :: Value.str (Str.ofString "*") 1393 :: Value.str (Str.ofString "+") 1396 :: Value.str (Str.ofString "=2C") 515 :: Value.str (Str.ofString "-") 1387 :: Value.str (Str.ofString "=2E") 523 :: Value.str (Str.ofString "/") 1399 :: Value.str (Str.ofString "0") 1558 :: Value.str (Str.ofString "1") 1561 :: Value.str (Str.ofString "2") 1564 :: Value.str (Str.ofString "3") 1567 :: Value.str (Str.ofString "4") 1570 :: Value.str (Str.ofString "5") 1573 :: Value.str (Str.ofString "6") 1576 :: Value.str (Str.ofString "7") 1579 :: Value.str (Str.ofString "8") 1582 :: Value.str (Str.ofString "9") 1585 :: Value.str (Str.ofString "=3A") 571 :: Value.str (Str.ofString "=3B") 575 :: Value.str (Str.ofString "=3C") 579 :: Value.str (Str.ofString "=3D") 583 :: Value.str (Str.ofString "=3E") 587 :: Value.str (Str.ofString "=3F") 591 :: Value.str (Str.ofString "=40") 595 :: Value.str (Str.ofString "A") 1480 :: Value.str (Str.ofString "B") 1483 :: Value.str (Str.ofString "C") 1486 :: Value.str (Str.ofString "D") 1489 :: Value.str (Str.ofString "E") 1492 :: Value.str (Str.ofString "F") 1495 :: Value.str (Str.ofString "G") 1498 :: Value.str (Str.ofString "H") 1501 :: Value.str (Str.ofString "I") 1504 :: Value.str (Str.ofString "J") 1507 :: Value.str (Str.ofString "K") 1510 :: Value.str (Str.ofString "L") 1513 :: Value.str (Str.ofString "M") 1516 :: Value.str (Str.ofString "N") 1519 :: Value.str (Str.ofString "O") 1522 :: Value.str (Str.ofString "P") 1525 :: Value.str (Str.ofString "Q") 1528 :: Value.str (Str.ofString "R") 1531 :: Value.str (Str.ofString "S") 1534 :: Value.str (Str.ofString "T") 1537 :: Value.str (Str.ofString "U") 1540 :: Value.str (Str.ofString "V") 1543 :: Value.str (Str.ofString "W") 1546 :: Value.str (Str.ofString "X") 1549 :: Value.str (Str.ofString "Y") 1552 :: Value.str (Str.ofString "Z") 1555 :: Value.str (Str.ofString "=5B") 703 :: Value.str (Str.ofString "=5C") 707 :: Value.str (Str.ofString "=5D") 711 :: Value.str (Str.ofString "=5E") 715 :: Value.str (Str.ofString "=5F") 719 :: Value.str (Str.ofString "=60") 723 :: Value.str (Str.ofString "a") 1402 :: Value.str (Str.ofString "b") 1405 :: Value.str (Str.ofString "c") 1408 :: Value.str (Str.ofString "d") 1411 :: Value.str (Str.ofString "e") 1414 :: Value.str (Str.ofString "f") 1417 :: Value.str (Str.ofString "g") 1420 :: Value.str (Str.ofString "h") 1423 :: Value.str (Str.ofString "i") 1426 :: Value.str (Str.ofString "j") 1429 :: Value.str (Str.ofString "k") 1432 :: Value.str (Str.ofString "l") 1435 :: Value.str (Str.ofString "m") 1438 :: Value.str (Str.ofString "n") 1441 :: Value.str (Str.ofString "o") 1444 :: Value.str (Str.ofString "p") 1447 :: Value.str (Str.ofString "q") 1450 :: Value.str (Str.ofString "r") 1453 :: Value.str (Str.ofString "s") 1456 :: Value.str (Str.ofString "t") 1459 :: Value.str (Str.ofString "u") 1462 :: Value.str (Str.ofString "v") 1465 :: Value.str (Str.ofString "w") 1468 :: Value.str (Str.ofString "x") 1471 :: Value.str (Str.ofString "y") 1474 :: Value.str (Str.ofString "z") 1477 :: Value.str (Str.ofString "=7B") 831 :: Value.str (Str.ofString "=7C") 835 :: Value.str (Str.ofString "=7D") 839 :: Value.str (Str.ofString "=7E") 843 :: Value.str (Str.ofString "=7F") 847 :: Value.str (Str.ofString "=80") 851 :: Value.str (Str.ofString "=81") 855 :: Value.str (Str.ofString "=82") 859 :: Value.str (Str.ofString "=83") 863 :: Value.str (Str.ofString "=84") 867 :: Value.str (Str.ofString "=85") 871 :: Value.str (Str.ofString "=86") 875 :: Value.str (Str.ofString "=87") 879 :: Value.str (Str.ofString "=88") 883 :: Value.str (Str.ofString "=89") 887 :: Value.str (Str.ofString "=8A") 891 :: Value.str (Str.ofString "=8B") 895 :: Value.str (Str.ofString "=8C") 899 :: Value.str (Str.ofString "=8D") 903 :: Value.str (Str.ofString "=8E") 907 :: Value.str (Str.ofString "=8F") 911 :: Value.str (Str.ofString "=90") 915 :: Value.str (Str.ofString "=91") 919 :: Value.str (Str.ofString "=92") 923 :: Value.str (Str.ofString "=93") 927 :: Value.str (Str.ofString "=94") 931 :: Value.str (Str.ofString "=95") 935 :: Value.str (Str.ofString "=96") 939 :: Value.str (Str.ofString "=97") 943 :: Value.str (Str.ofString "=98") 947 :: Value.str (Str.ofString "=99") 951 :: Value.str (Str.ofString "=9A") 955 :: Value.str (Str.ofString "=9B") 959 :: Value.str (Str.ofString "=9C") 963 :: Value.str (Str.ofString "=9D") 967 :: Value.str (Str.ofString "=9E") 971 :: Value.str (Str.ofString "=9F") 975 :: Value.str (Str.ofString "=A0") 979 :: Value.str (Str.ofString "=A1") 983 :: Value.str (Str.ofString "=A2") 987 :: Value.str (Str.ofString "=A3") 991 :: Value.str (Str.ofString "=A4") 995 :: Value.str (Str.ofString "=A5") 999 :: Value.str (Str.ofString "=A6") 1003 :: Value.str (Str.ofString "=A7") 1007 :: Value.str (Str.ofString "=A8") 1011 :: Value.str (Str.ofString "=A9") 1015 :: Value.str (Str.ofString "=AA") 1019 :: Value.str (Str.ofString "=AB") 1023 :: Value.str (Str.ofString "=AC") 1027 :: Value.str (Str.ofString "=AD") 1031 :: Value.str (Str.ofString "=AE") 1035 :: Value.str (Str.ofString "=AF") 1039 :: Value.str (Str.ofString "=B0") 1043 :: Value.str (Str.ofString "=B1") 1047 :: Value.str (Str.ofString "=B2") 1051 :: Value.str (Str.ofString "=B3") 1055 :: Value.str (Str.ofString "=B4") 1059 :: Value.str (Str.ofString "=B5") 1063 :: Value.str (Str.ofString "=B6") 1067 :: Value.str (Str.ofString "=B7") 1071 :: Value.str (Str.ofString "=B8") 1075 :: Value.str (Str.ofString "=B9") 1079 :: Value.str (Str.ofString "=BA") 1083 :: Value.str (Str.ofString "=BB") 1087 :: Value.str (Str.ofString "=BC") 1091 :: Value.str (Str.ofString "=BD") 1095 :: Value.str (Str.ofString "=BE") 1099 :: Value.str (Str.ofString "=BF") 1103 :: Value.str (Str.ofString "=C0") 1107 :: Value.str (Str.ofString "=C1") 1111 :: Value.str (Str.ofString "=C2") 1115 :: Value.str (Str.ofString "=C3") 1119 :: Value.str (Str.ofString "=C4") 1123 :: Value.str (Str.ofString "=C5") 1127 :: Value.str (Str.ofString "=C6") 1131 :: Value.str (Str.ofString "=C7") 1135 :: Value.str (Str.ofString "=C8") 1139 :: Value.str (Str.ofString "=C9") 1143 :: Value.str (Str.ofString "=CA") 1147 :: Value.str (Str.ofString "=CB") 1151 :: Value.str (Str.ofString "=CC") 1155 :: Value.str (Str.ofString "=CD") 1159 :: Value.str (Str.ofString "=CE") 1163 :: Value.str (Str.ofString "=CF") 1167 :: Value.str (Str.ofString "=D0") 1171 :: Value.str (Str.ofString "=D1") 1175 :: Value.str (Str.ofString "=D2") 1179 :: Value.str (Str.ofString "=D3") 1183 :: Value.str (Str.ofString "=D4") 1187 :: Value.str (Str.ofString "=D5") 1191 :: Value.str (Str.ofString "=D6") 1195 :: Value.str (Str.ofString "=D7") 1199 :: Value.str (Str.ofString "=D8") 1203 :: Value.str (Str.ofString "=D9") 1207 :: Value.str (Str.ofString "=DA") 1211 :: Value.str (Str.ofString "=DB") 1215 :: Value.str (Str.ofString "=DC") 1219 :: Value.str (Str.ofString "=DD") 1223 :: Value.str (Str.ofString "=DE") 1227 :: Value.str (Str.ofString "=DF") 1231 :: Value.str (Str.ofString "=E0") 1235 :: Value.str (Str.ofString "=E1") 1239 :: Value.str (Str.ofString "=E2") 1243 :: Value.str (Str.ofString "=E3") 1247 :: Value.str (Str.ofString "=E4") 1251 :: Value.str (Str.ofString "=E5") 1255 :: Value.str (Str.ofString "=E6") 1259 :: Value.str (Str.ofString "=E7") 1263 :: Value.str (Str.ofString "=E8") 1267 :: Value.str (Str.ofString "=E9") 1271 :: Value.str (Str.ofString "=EA") 1275 :: Value.str (Str.ofString "=EB") 1279 :: Value.str (Str.ofString "=EC") 1283 :: Value.str (Str.ofString "=ED") 1287 :: Value.str (Str.ofString "=EE") 1291 :: Value.str (Str.ofString "=EF") 1295 :: Value.str (Str.ofString "=F0") 1299 :: Value.str (Str.ofString "=F1") 1303 :: Value.str (Str.ofString "=F2") 1307 :: Value.str (Str.ofString "=F3") 1311 :: Value.str (Str.ofString "=F4") 1315 :: Value.str (Str.ofString "=F5") 1319 :: Value.str (Str.ofString "=F6") 1323 :: Value.str (Str.ofString "=F7") 1327 :: Value.str (Str.ofString "=F8") 1331 :: Value.str (Str.ofString "=F9") 1335 :: Value.str (Str.ofString "=FA") 1339 :: Value.str (Str.ofString "=FB") 1343 :: Value.str (Str.ofString "=FC") 1347 :: Value.str (Str.ofString "=FD") 1351 :: Value.str (Str.ofString "=FE") 1355 :: Value.str (Str.ofString "=FF") 1359 :: []))) #[]
noncomputable def ob68 (_ : Params) : Obj := Obj.mk (Value.type "bytes_iterator") none (Data.fields #[Value.none, Value.int 67 0]) #[]
noncomputable def ob69 (_ : Params) : Obj := Obj.mk (Value.type "StopIteration") none (Data.fields #[Value.ref 55, Value.none, Value.none, Value.none, Value.bool false, Value.none]) #[]
noncomputable def ob70 (P : Params) : Obj := Obj.mk (Value.type "list") none (Data.seq (List.toArray (Value.str (Str.ofString "=00") 339 :: Value.str (Str.ofString "=01") 343 :: Value.str (Str.ofString "=02") 347 :: Value.str (Str.ofString "=03") 351 :: Value.str (Str.ofString "=04") 355 :: Value.str (Str.ofString "=05") 359 :: Value.str (Str.ofString "=06") 363 :: Value.str (Str.ofString "=07") 367 :: Value.str (Str.ofString "=08") 371 :: Value.str (Str.ofString "=09") 375 :: Value.str (Str.ofString "=0A") 379 :: Value.str (Str.ofString "=0B") 383 :: Value.str (Str.ofString "=0C") 387 :: Value.str (Str.ofString "=0D") 391 :: Value.str (Str.ofString "=0E") 395 :: Value.str (Str.ofString "=0F") 399 :: Value.str (Str.ofString "=10") 403 :: Value.str (Str.ofString "=11") 407 :: Value.str (Str.ofString "=12") 411 :: Value.str (Str.ofString "=13") 415 :: Value.str (Str.ofString "=14") 419 :: Value.str (Str.ofString "=15") 423 :: Value.str (Str.ofString "=16") 427 :: Value.str (Str.ofString "=17") 431 :: Value.str (Str.ofString "=18") 435 :: Value.str (Str.ofString "=19") 439 :: Value.str (Str.ofString "=1A") 443 :: Value.str (Str.ofString "=1B") 447 :: Value.str (Str.ofString "=1C") 451 :: Value.str (Str.ofString "=1D") 455 :: Value.str (Str.ofString "=1E") 459 :: Value.str (Str.ofString "=1F") 463 :: Value.str (Str.ofString "_") 1586 :: Value.str (Str.ofString "!") 1390 :: Value.str (Str.ofString "=22") 475 :: Value.str (Str.ofString "=23") 479 :: Value.str (Str.ofString "=24") 483 :: Value.str (Str.ofString "=25") 487 :: Value.str (Str.ofString "=26") 491 :: Value.str (Str.ofString "=27") 495 :: Value.str (Str.ofString "=28") 499 :: Value.str (Str.ofString "=29") 503 :: Value.str (Str.ofString "*") 1393 :: Value.str (Str.ofString "+") 1396 :: Value.str (Str.ofString "=2C") 515 :: Value.str (Str.ofString "-") 1387 :: Value.str (Str.ofString "=2E") 523 :: Value.str (Str.ofString "/") 1399 :: Value.str (Str.ofString "0") 1558 :: Value.str (Str.ofString "1") 1561 :: Value.str (Str.ofString "2") 1564 :: Value.str (Str.ofString "3") 1567 :: Value.str (Str.ofString "4") 1570 :: Value.str (Str.ofString "5") 1573 :: Value.str (Str.ofString "6") 1576 :: Value.str (Str.ofString "7") 1579 :: Value.str (Str.ofString "8") 1582 :: Value.str (Str.ofString "9") 1585 :: Value.str (Str.ofString "=3A") 571 :: Value.str (Str.ofString "=3B") 575 :: Value.str (Str.ofString "=3C") 579 :: Value.str (Str.ofString "=3D") 583 :: Value.str (Str.ofString "=3E") 587 :: Value.str (Str.ofString "=3F") 591 :: Value.str (Str.ofString "=40") 595 :: Value.str (Str.ofString "A") 1480 :: Value.str (Str.ofString "B") 1483 :: Value.str (Str.ofString "C") 1486 :: Value.str (Str.ofString "D") 1489 :: Value.str (Str.ofString "E") 1492 :: Value.str (Str.ofString "F") 1495 :: Value.str (Str.ofString "G") 1498 :: Value.str (Str.ofString "H") 1501 :: Value.str (Str.ofString "I") 1504 :: Value.str (Str.ofString "J") 1507 :: Value.str (Str.ofString "K") 1510 :: Value.str (Str.ofString "L") 1513 :: Value.str (Str.ofString "M") 1516 :: Value.str (Str.ofString "N") 1519 :: Value.str (Str.ofString "O") 1522 :: Value.str (Str.ofString "P") 1525 :: Value.str (Str.ofString "Q") 1528 :: Value.str (Str.ofString "R") 1531 :: Value.str (Str.ofString "S") 1534 :: Value.str (Str.ofString "T") 1537 :: Value.str (Str.ofString "U") 1540 :: Value.str (Str.ofString "V") 1543 :: Value.str (Str.ofString "W") 1546 :: Value.str (Str.ofString "X") 1549 :: Value.str (Str.ofString "Y") 1552 :: Value.str (Str.ofString "Z") 1555 :: Value.str (Str.ofString "=5B") 703 :: Value.str (Str.ofString "=5C") 707 :: Value.str (Str.ofString "=5D") 711 :: Value.str (Str.ofString "=5E") 715 :: Value.str (Str.ofString "=5F") 719 :: Value.str (Str.ofString "=60") 723 :: Value.str (Str.ofString "a") 1402 :: Value.str (Str.ofString "b") 1405 :: Value.str (Str.ofString "c") 1408 :: Value.str (Str.ofString "d") 1411 :: Value.str (Str.ofString "e") 1414 :: Value.str (Str.ofString "f") 1417 :: Value.str (Str.ofString "g") 1420 :: Value.str (Str.ofString "h") 1423 :: Value.str (Str.ofString "i") 1426 :: Value.str (Str.ofString "j") 1429 :: Value.str (Str.ofString "k") 1432 :: Value.str (Str.ofString "l") 1435 :: Value.str (Str.ofString "m") 1438 :: Value.str (Str.ofString "n") 1441 :: Value.str (Str.ofString "o") 1444 :: Value.str (Str.ofString "p") 1447 :: Value.str (Str.ofString "q") 1450 :: Value.str (Str.ofString "r") 1453 :: Value.str (Str.ofString "s") 1456 :: Value.str (Str.ofString "t") 1459 :: Value.str (Str.ofString "u") 1462 :: Value.str (Str.ofString "v") 1465 :: Value.str (Str.ofString "w") 1468 :: Value.str (Str.ofString "x") 1471 :: Value.str (Str.ofString "y") 1474 :: Value.str (Str.ofString "z") 1477 :: Value.str (Str.ofString "=7B") 831 :: Value.str (Str.ofString "=7C") 835 :: Value.str (Str.ofString "=7D") 839 :: Value.str (Str.ofString "=7E") 843 :: Value.str (Str.ofString "=7F") 847 :: Value.str (Str.ofString "=80") 851 :: Value.str (Str.ofString "=81") 855 :: Value.str (Str.ofString "=82") 859 :: Value.str (Str.ofString "=83") 863 :: Value.str (Str.ofString "=84") 867 :: Value.str (Str.ofString "=85") 871 :: Value.str (Str.ofString "=86") 875 :: Value.str (Str.ofString "=87") 879 :: Value.str (Str.ofString "=88") 883 :: Value.str (Str.ofString "=89") 887 :: Value.str (Str.ofString "=8A") 891 :: Value.str (Str.ofString "=8B") 895 :: Value.str (Str.ofString "=8C") 899 :: Value.str (Str.ofString "=8D") 903 :: Value.str (Str.ofString "=8E") 907 :: Value.str (Str.ofString "=8F") 911 :: Value.str (Str.ofString "=90") 915 :: Value.str (Str.ofString "=91") 919 :: Value.str (Str.ofString "=92") 923 :: Value.str (Str.ofString "=93") 927 :: Value.str (Str.ofString "=94") 931 :: Value.str (Str.ofString "=95") 935 :: Value.str (Str.ofString "=96") 939 :: Value.str (Str.ofString "=97") 943 :: Value.str (Str.ofString "=98") 947 :: Value.str (Str.ofString "=99") 951 :: Value.str (Str.ofString "=9A") 955 :: Value.str (Str.ofString "=9B") 959 :: Value.str (Str.ofString "=9C") 963 :: Value.str (Str.ofString "=9D") 967 :: Value.str (Str.ofString "=9E") 971 :: Value.str (Str.ofString "=9F") 975 :: Value.str (Str.ofString "=A0") 979 :: Value.str (Str.ofString "=A1") 983 :: Value.str (Str.ofString "=A2") 987 :: Value.str (Str.ofString "=A3") 991 :: Value.str (Str.ofString "=A4") 995 :: Value.str (Str.ofString "=A5") 999 :: Value.str (Str.ofString "=A6") 1003 :: Value.str (Str.ofString "=A7") 1007 :: Value.str (Str.ofString "=A8") 1011 :: Value.str (Str.ofString "=A9") 1015 :: Value.str (Str.ofString "=AA") 1019 :: Value.str (Str.ofString "=AB") 1023 :: Value.str (Str.ofString "=AC") 1027 :: Value.str (Str.ofString "=AD") 1031 :: Value.str (Str.ofString "=AE") 1035 :: Value.str (Str.ofString "=AF") 1039 :: Value.str (Str.ofString "=B0") 1043 :: Value.str (Str.ofString "=B1") 1047 :: Value.str (Str.ofString "=B2") 1051 :: Value.str (Str.ofString "=B3") 1055 :: Value.str (Str.ofString "=B4") 1059 :: Value.str (Str.ofString "=B5") 1063 :: Value.str (Str.ofString "=B6") 1067 :: Value.str (Str.ofString "=B7") 1071 :: Value.str (Str.ofString "=B8") 1075 :: Value.str (Str.ofString "=B9") 1079 :: Value.str (Str.ofString "=BA") 1083 :: Value.str (Str.ofString "=BB") 1087 :: Value.str (Str.ofString "=BC") 1091 :: Value.str (Str.ofString "=BD") 1095 :: Value.str (Str.ofString "=BE") 1099 :: Value.str (Str.ofString "=BF") 1103 :: Value.str (Str.ofString "=C0") 1107 :: Value.str (Str.ofString "=C1") 1111 :: Value.str (Str.ofString "=C2") 1115 :: Value.str (Str.ofString "=C3") 1119 :: Value.str (Str.ofString "=C4") 1123 :: Value.str (Str.ofString "=C5") 1127 :: Value.str (Str.ofString "=C6") 1131 :: Value.str (Str.ofString "=C7") 1135 :: Value.str (Str.ofString "=C8") 1139 :: Value.str (Str.ofString "=C9") 1143 :: Value.str (Str.ofString "=CA") 1147 :: Value.str (Str.ofString "=CB") 1151 :: Value.str (Str.ofString "=CC") 1155 :: Value.str (Str.ofString "=CD") 1159 :: Value.str (Str.ofString "=CE") 1163 :: Value.str (Str.ofString "=CF") 1167 :: Value.str (Str.ofString "=D0") 1171 :: Value.str (Str.ofString "=D1") 1175 :: Value.str (Str.ofString "=D2") 1179 :: Value.str (Str.ofString "=D3") 1183 :: Value.str (Str.ofString "=D4") 1187 :: Value.str (Str.ofString "=D5") 1191 :: Value.str (Str.ofString "=D6") 1195 :: Value.str (Str.ofString "=D7") 1199 :: Value.str (Str.ofString "=D8") 1203 :: Value.str (Str.ofString "=D9") 1207 :: Value.str (Str.ofString "=DA") 1211 :: Value.str (Str.ofString "=DB") 1215 :: Value.str (Str.ofString "=DC") 1219 :: Value.str (Str.ofString "=DD") 1223 :: Value.str (Str.ofString "=DE") 1227 :: Value.str (Str.ofString "=DF") 1231 :: Value.str (Str.ofString "=E0") 1235 :: Value.str (Str.ofString "=E1") 1239 :: Value.str (Str.ofString "=E2") 1243 :: Value.str (Str.ofString "=E3") 1247 :: Value.str (Str.ofString "=E4") 1251 :: Value.str (Str.ofString "=E5") 1255 :: Value.str (Str.ofString "=E6") 1259 :: Value.str (Str.ofString "=E7") 1263 :: Value.str (Str.ofString "=E8") 1267 :: Value.str (Str.ofString "=E9") 1271 :: Value.str (Str.ofString "=EA") 1275 :: Value.str (Str.ofString "=EB") 1279 :: Value.str (Str.ofString "=EC") 1283 :: Value.str (Str.ofString "=ED") 1287 :: Value.str (Str.ofString "=EE") 1291 :: Value.str (Str.ofString "=EF") 1295 :: Value.str (Str.ofString "=F0") 1299 :: Value.str (Str.ofString "=F1") 1303 :: Value.str (Str.ofString "=F2") 1307 :: Value.str (Str.ofString "=F3") 1311 :: Value.str (Str.ofString "=F4") 1315 :: Value.str (Str.ofString "=F5") 1319 :: Value.str (Str.ofString "=F6") 1323 :: Value.str (Str.ofString "=F7") 1327 :: Value.str (Str.ofString "=F8") 1331 :: Value.str (Str.ofString "=F9") 1335 :: Value.str (Str.ofString "=FA") 1339 :: Value.str (Str.ofString "=FB") 1343 :: Value.str (Str.ofString "=FC") 1347 :: Value.str (Str.ofString "=FD") 1351 :: Value.str (Str.ofString "=FE") 1355 :: Value.str (Str.ofString "=FF") 1359 :: []))) #[]
noncomputable def ob71 (P : Params) : Obj := Obj.mk (Value.type "dict") none (Data.dict #[DictEntry.mk (PyData.keyHash P (Str.ofString "__name__")) (Value.str (Str.ofString "__name__") 165) (Value.str (Str.ofString "cpy313.email.quoprimime") 1376), DictEntry.mk (PyData.keyHash P (Str.ofString "__doc__")) (Value.str (Str.ofString "__doc__") 166) Value.none, DictEntry.mk (PyData.keyHash P (Str.ofString "__package__")) (Value.str (Str.ofString "__package__") 167) Value.none, DictEntry.mk (PyData.keyHash P (Str.ofString "__loader__")) (Value.str (Str.ofString "__loader__") 168) (Value.builtin "__main__.__loader__#opaque"), DictEntry.mk (PyData.keyHash P (Str.ofString "__spec__")) (Value.str (Str.ofString "__spec__") 169) Value.none, DictEntry.mk (PyData.keyHash P (Str.ofString "__annotations__")) (Value.str (Str.ofString "__annotations__") 170) (Value.ref 6), DictEntry.mk (PyData.keyHash P (Str.ofString "__builtins__")) (Value.str (Str.ofString "__builtins__") 171) (Value.ref 4), DictEntry.mk (PyData.keyHash P (Str.ofString "__file__")) (Value.str (Str.ofString "__file__") 173) (Value.str (Str.ofString "/claim/cut.py") 172), DictEntry.mk (PyData.keyHash P (Str.ofString "__cached__")) (Value.str (Str.ofString "__cached__") 174) Value.none, DictEntry.mk (PyData.keyHash P (Str.ofString "_sre")) (Value.str (Str.ofString "_sre") 275) (Value.ref 12), DictEntry.mk (PyData.keyHash P (Str.ofString "_strip_padding")) (Value.str (Str.ofString "_strip_padding") 293) (Value.ref 38), DictEntry.mk (PyData.keyHash P (Str.ofString "_twin_re_1")) (Value.str (Str.ofString "_twin_re_1") 328) (Value.ref 43), DictEntry.mk (PyData.keyHash P (Str.ofString "CRLF")) (Value.str (Str.ofString "CRLF") 330) (Value.str (Str.ofString "\x0d\n") 329), DictEntry.mk (PyData.keyHash P (Str.ofString "NL")) (Value.str (Str.ofString "NL") 332) (Value.str (Str.ofString "\n") 331), DictEntry.mk (PyData.keyHash P (Str.ofString "_QUOPRI_MAP")) (Value.str (Str.ofString "_QUOPRI_MAP") 1360) (Value.ref 46), DictEntry.mk (PyData.keyHash P (Str.ofString "_QUOPRI_HEADER_MAP")) (Value.str (Str.ofString "_QUOPRI_HEADER_MAP") 1361) (Value.ref 51), DictEntry.mk (PyData.keyHash P (Str.ofString "_QUOPRI_BODY_MAP")) (Value.str (Str.ofString "_QUOPRI_BODY_MAP") 1362) (Value.ref 53), DictEntry.mk (PyData.keyHash P (Str.ofString "ascii_lowercase")) (Value.str (Str.ofString "ascii_lowercase") 1364) (Value.str (Str.ofString "abcdefghijklmnopqrstuvwxyz") 1363), DictEntry.mk (PyData.keyHash P (Str.ofString "ascii_uppercase")) (Value.str (Str.ofString "ascii_uppercase") 1366) (Value.str (Str.ofString "ABCDEFGHIJKLMNOPQRSTUVWXYZ") 1365), DictEntry.mk (PyData.keyHash P (Str.ofString "ascii_letters")) (Value.str (Str.ofString "ascii_letters") 1368) (Value.str (Str.ofString "abcdefghijklmnopqrstuvwxyzABCDEFGHIJKLMNOPQRSTUVWXYZ") 1367), DictEntry.mk (PyData.keyHash P (Str.ofString "digits")) (Value.str (Str.ofString "digits") 1370) (Value.str (Str.ofString "0123456789") 1369), DictEntry.mk (PyData.keyHash P (Str.ofString "hexdigits")) (Value.str (Str.ofString "hexdigits") 1375) (Value.str (Str.ofString "0123456789abcdefABCDEF") 1374), DictEntry.mk (PyData.keyHash P (Str.ofString "c")) (Value.str (Str.ofString "c") 1386) (Value.int 32 1590)] 23) #[]
noncomputable def ob72 (_ : Params) : Obj := Obj.mk (Value.type "list") none (Data.seq (List.toArray (Value.str (Str.ofString "=00") 339 :: Value.str (Str.ofString "=01") 343 :: Value.str (Str.ofString "=02") 347 :: Value.str (Str.ofString "=03") 351 :: Value.str (Str.ofString "=04") 355 :: Value.str (Str.ofString "=05") 359 :: Value.str (Str.ofString "=06") 363 :: Value.str (Str.ofString "=07") 367 :: Value.str (Str.ofString "=08") 371 :: Value.str (Str.ofString "=09") 375 :: Value.str (Str.ofString "=0A") 379 :: Value.str (Str.ofString "=0B") 383 :: Value.str (Str.ofString "=0C") 387 :: Value.str (Str.ofString "=0D") 391 :: Value.str (Str.ofString "=0E") 395 :: Value.str (Str.ofString "=0F") 399 :: Value.str (Str.ofString "=10") 403 :: Value.str (Str.ofString "=11") 407 :: Value.str (Str.ofString "=12") 411 :: Value.str (Str.ofString "=13") 415 :: Value.str (Str.ofString "=14") 419 :: Value.str (Str.ofString "=15") 423 :: Value.str (Str.ofString "=16") 427 :: Value.str (Str.ofString "=17") 431 :: Value.str (Str.ofString "=18") 435 :: Value.str (Str.ofString "=19") 439 :: Value.str (Str.ofString "=1A") 443 :: Value.str (Str.ofString "=1B") 447 :: Value.str (Str.ofString "=1C") 451 :: Value.str (Str.ofString "=1D") 455 :: Value.str (Str.ofString "=1E") 459 :: Value.str (Str.ofString "=1F") 463 :: Value.str (Str.ofString " ") 1592 :: Value.str (Str.ofString "=21") 471 :: Value.str (Str.ofString "=22") 475 :: Value.str (Str.ofString "=23") 479 :: Value.str (Str.ofString "=24") 483 :: Value.str (Str.ofString "=25") 487 :: Value.str (Str.ofString "=26") 491 :: Value.str (Str.ofString "=27") 495 :: Value.str (Str.ofString "=28") 499 :: Value.str (Str.ofString "=29") 503 :: Value.str (Str.ofString "=2A") 507 :: Value.str (Str.ofString "=2B") 511 :: Value.str (Str.ofString "=2C") 515 :: Value.str (Str.ofString "=2D") 519 :: Value.str (Str.ofString "=2E") 523 :: Value.str (Str.ofString "=2F") 527 :: Value.str (Str.ofString "=30") 531 :: Value.str (Str.ofString "=31") 535 :: Value.str (Str.ofString "=32") 539 :: Value.str (Str.ofString "=33") 543 :: Value.str (Str.ofString "=34") 547 :: Value.str (Str.ofString "=35") 551 :: Value.str (Str.ofString "=36") 555 :: Value.str (Str.ofString "=37") 559 :: Value.str (Str.ofString "=38") 563 :: Value.str (Str.ofString "=39") 567 :: Value.str (Str.ofString "=3A") 571 :: Value.str (Str.ofString "=3B") 575 :: Value.str (Str.ofString "=3C") 579 :: Value.str (Str.ofString "=3D") 583 :: Value.str (Str.ofString "=3E") 587 :: Value.str (Str.ofString "=3F") 591 :: Value.str (Str.ofString "=40") 595 :: Value.str (Str.ofString "=41") 599 :: Value.str (Str.ofString "=42") 603 :: Value.str (Str.ofString "=43") 607 :: Value.str (Str.ofString "=44") 611 :: Value.str (Str.ofString "=45") 615 :: Value.str (Str.ofString "=46") 619 :: Value.str (Str.ofString "=47") 623 :: Value.str (Str.ofString "=48") 627 :: Value.str (Str.ofString "=49") 631 :: Value.str (Str.ofString "=4A") 635 :: Value.str (Str.ofString "=4B") 639 :: Value.str (Str.ofString "=4C") 643 :: Value.str (Str.ofString "=4D") 647 :: Value.str (Str.ofString "=4E") 651 :: Value.str (Str.ofString "=4F") 655 :: Value.str (Str.ofString "=50") 659 :: Value.str (Str.ofString "=51") 663 :: Value.str (Str.ofString "=52") 667 :: Value.str (Str.ofString "=53") 671 :: Value.str (Str.ofString "=54") 675 :: Value.str (Str.ofString "=55") 679 :: Value.str (Str.ofString "=56") 683 :: Value.str (Str.ofString "=57") 687 :: Value.str (Str.ofString "=58") 691 :: Value.str (Str.ofString "=59") 695 :: Value.str (Str.ofString "=5A") 699 :: Value.str (Str.ofString "=5B") 703 :: Value.str (Str.ofString "=5C") 707 :: Value.str (Str.ofString "=5D") 711 :: Value.str (Str.ofString "=5E") 715 :: Value.str (Str.ofString "=5F") 719 :: Value.str (Str.ofString "=60") 723 :: Value.str (Str.ofString "=61") 727 :: Value.str (Str.ofString "=62") 731 :: Value.str (Str.ofString "=63") 735 :: Value.str (Str.ofString "=64") 739 :: Value.str (Str.ofString "=65") 743 :: Value.str (Str.ofString "=66") 747 :: Value.str (Str.ofString "=67") 751 :: Value.str (Str.ofString "=68") 755 :: Value.str (Str.ofString "=69") 759 :: Value.str (Str.ofString "=6A") 763 :: Value.str (Str.ofString "=6B") 767 :: Value.str (Str.ofString "=6C") 771 :: Value.str (Str.ofString "=6D") 775 :: Value.str (Str.ofString "=6E") 779 :: Value.str (Str.ofString "=6F") 783 :: Value.str (Str.ofString "=70") 787 :: Value.str (Str.ofString "=71") 791 :: Value.str (Str.ofString "=72") 795 :: Value.str (Str.ofString "=73") 799 :: Value.str (Str.ofString "=74") 803 :: Value.str (Str.ofString "=75") 807 :: Value.str (Str.ofString "=76") 811 :: Value.str (Str.ofString "=77") 815 :: Value.str (Str.ofString "=78") 819 :: Value.str (Str.ofString "=79") 823 :: Value.str (Str.ofString "=7A") 827 :: Value.str (Str.ofString "=7B") 831 :: Value.str (Str.ofString "=7C") 835 :: Value.str (Str.ofString "=7D") 839 :: Value.str (Str.ofString "=7E") 843 :: Value.str (Str.ofString "=7F") 847 :: Value.str (Str.ofString "=80") 851 :: Value.str (Str.ofString "=81") 855 :: Value.str (Str.ofString "=82") 859 :: Value.str (Str.ofString "=83") 863 :: Value.str (Str.ofString "=84") 867 :: Value.str (Str.ofString "=85") 871 :: Value.str (Str.ofString "=86") 875 :: Value.str (Str.ofString "=87") 879 :: Value.str (Str.ofString "=88") 883 :: Value.str (Str.ofString "=89") 887 :: Value.str (Str.ofString "=8A") 891 :: Value.str (Str.ofString "=8B") 895 :: Value.str (Str.ofString "=8C") 899 :: Value.str (Str.ofString "=8D") 903 :: Value.str (Str.ofString "=8E") 907 :: Value.str (Str.ofString "=8F") 911 :: Value.str (Str.ofString "=90") 915 :: Value.str (Str.ofString "=91") 919 :: Value.str (Str.ofString "=92") 923 :: Value.str (Str.ofString "=93") 927 :: Value.str (Str.ofString "=94") 931 :: Value.str (Str.ofString "=95") 935 :: Value.str (Str.ofString "=96") 939 :: Value.str (Str.ofString "=97") 943 :: Value.str (Str.ofString "=98") 947 :: Value.str (Str.ofString "=99") 951 :: Value.str (Str.ofString "=9A") 955 :: Value.str (Str.ofString "=9B") 959 :: Value.str (Str.ofString "=9C") 963 :: Value.str (Str.ofString "=9D") 967 :: Value.str (Str.ofString "=9E") 971 :: Value.str (Str.ofString "=9F") 975 :: Value.str (Str.ofString "=A0") 979 :: Value.str (Str.ofString "=A1") 983 :: Value.str (Str.ofString "=A2") 987 :: Value.str (Str.ofString "=A3") 991 :: Value.str (Str.ofString "=A4") 995 :: Value.str (Str.ofString "=A5") 999 :: Value.str (Str.ofString "=A6") 1003 :: Value.str (Str.ofString "=A7") 1007 :: Value.str (Str.ofString "=A8") 1011 :: Value.str (Str.ofString "=A9") 1015 :: Value.str (Str.ofString "=AA") 1019 :: Value.str (Str.ofString "=AB") 1023 :: Value.str (Str.ofString "=AC") 1027 :: Value.str (Str.ofString "=AD") 1031 :: Value.str (Str.ofString "=AE") 1035 :: Value.str (Str.ofString "=AF") 1039 :: Value.str (Str.ofString "=B0") 1043 :: Value.str (Str.ofString "=B1") 1047 :: Value.str (Str.ofString "=B2") 1051 :: Value.str (Str.ofString "=B3") 1055 :: Value.str (Str.ofString "=B4") 1059 :: Value.str (Str.ofString "=B5") 1063 :: Value.str (Str.ofString "=B6") 1067 :: Value.str (Str.ofString "=B7") 1071 :: Value.str (Str.ofString "=B8") 1075 :: Value.str (Str.ofString "=B9") 1079 :: Value.str (Str.ofString "=BA") 1083 :: Value.str (Str.ofString "=BB") 1087 :: Value.str (Str.ofString "=BC") 1091 :: Value.str (Str.ofString "=BD") 1095 :: Value.str (Str.ofString "=BE") 1099 :: Value.str (Str.ofString "=BF") 1103 :: Value.str (Str.ofString "=C0") 1107 :: Value.str (Str.ofString "=C1") 1111 :: Value.str (Str.ofString "=C2") 1115 :: Value.str (Str.ofString "=C3") 1119 :: Value.str (Str.ofString "=C4") 1123 :: Value.str (Str.ofString "=C5") 1127 :: Value.str (Str.ofString "=C6") 1131 :: Value.str (Str.ofString "=C7") 1135 :: Value.str (Str.ofString "=C8") 1139 :: Value.str (Str.ofString "=C9") 1143 :: Value.str (Str.ofString "=CA") 1147 :: Value.str (Str.ofString "=CB") 1151 :: Value.str (Str.ofString "=CC") 1155 :: Value.str (Str.ofString "=CD") 1159 :: Value.str (Str.ofString "=CE") 1163 :: Value.str (Str.ofString "=CF") 1167 :: Value.str (Str.ofString "=D0") 1171 :: Value.str (Str.ofString "=D1") 1175 :: Value.str (Str.ofString "=D2") 1179 :: Value.str (Str.ofString "=D3") 1183 :: Value.str (Str.ofString "=D4") 1187 :: Value.str (Str.ofString "=D5") 1191 :: Value.str (Str.ofString "=D6") 1195 :: Value.str (Str.ofString "=D7") 1199 :: Value.str (Str.ofString "=D8") 1203 :: Value.str (Str.ofString "=D9") 1207 :: Value.str (Str.ofString "=DA") 1211 :: Value.str (Str.ofString "=DB") 1215 :: Value.str (Str.ofString "=DC") 1219 :: Value.str (Str.ofString "=DD") 1223 :: Value.str (Str.ofString "=DE") 1227 :: Value.str (Str.ofString "=DF") 1231 :: Value.str (Str.ofString "=E0") 1235 :: Value.str (Str.ofString "=E1") 1239 :: Value.str (Str.ofString "=E2") 1243 :: Value.str (Str.ofString "=E3") 1247 :: Value.str (Str.ofString "=E4") 1251 :: Value.str (Str.ofString "=E5") 1255 :: Value.str (Str.ofString "=E6") 1259 :: Value.str (Str.ofString "=E7") 1263 :: Value.str (Str.ofString "=E8") 1267 :: Value.str (Str.ofString "=E9") 1271 :: Value.str (Str.ofString "=EA") 1275 :: Value.str (Str.ofString "=EB") 1279 :: Value.str (Str.ofString "=EC") 1283 :: Value.str (Str.ofString "=ED") 1287 :: Value.str (Str.ofString "=EE") 1291 :: Value.str (Str.ofString "=EF") 1295 :: Value.str (Str.ofString "=F0") 1299 :: Value.str (Str.ofString "=F1") 1303 :: Value.str (Str.ofString "=F2") 1307 :: Value.str (Str.ofString "=F3") 1311 :: Value.str (Str.ofString "=F4") 1315 :: Value.str (Str.ofString "=F5") 1319 :: Value.str (Str.ofString "=F6") 1323 :: Value.str (Str.ofString "=F7") 1327 :: Value.str (Str.ofString "=F8") 1331 :: Value.str (Str.ofString "=F9") 1335 :: Value.str (Str.ofString "=FA") 1339 :: Value.str (Str.ofString "=FB") 1343 :: Value.str (Str.ofString "=FC") 1347 :: Value.str (Str.ofString "=FD") 1351 :: Value.str (Str.ofString "=FE") 1355 :: Value.str (Str.ofString "=FF") 1359 :: []))) #[]
noncomputable def ob73 (_ : Params) : Obj := Obj.mk (Value.type "bytes_iterator") none (Data.fields #[Value.bytes (List.toArray (32 :: 33 :: 34 :: 35 :: 36 :: 37 :: 38 :: 39 :: 40 :: 41 :: 42 :: 43 :: 44 :: 45 :: 46 :: 47 :: 48 :: 49 :: 50 :: 51 :: 52 :: 53 :: 54 :: 55 :: 56 :: 57 :: 58 :: 59 :: 60 :: 62 :: 63 :: 64 :: 65 :: 66 :: 67 :: 68 :: 69 :: 70 :: 71 :: 72 :: 73 :: 74 :: 75 :: 76 :: 77 :: 78 :: 79 :: 80 :: 81 :: 82 :: 83 :: 84 :: 85 :: 86 :: 87 :: 88 :: 89 :: 90 :: 91 :: 92 :: 93 :: 94 :: 95 :: 96 :: 97 :: 98 :: 99 :: 100 :: 101 :: 102 :: 103 :: 104 :: 105 :: 106 :: 107 :: 108 :: 109 :: 110 :: 111 :: 112 :: 113 :: 114 :: 115 :: 116 :: 117 :: 118 :: 119 :: 120 :: 121 :: 122 :: 123 :: 124 :: 125 :: 126 :: 9 :: [])) 1589, Value.int 1 0]) #[]
noncomputable def ob74 (P : Params) : Obj := Obj.mk (Value.type "dict") none (Data.dict #[DictEntry.mk (PyData.keyHash P (Str.ofString "__name__")) (Value.str (Str.ofString "__name__") 165) (Value.str (Str.ofString "cpy313.email.quoprimime") 1376), DictEntry.mk (PyData.keyHash P (Str.ofString "__doc__")) (Value.str (Str.ofString "__doc__") 166) Value.none, DictEntry.mk (PyData.keyHash P (Str.ofString "__package__")) (Value.str (Str.ofString "__package__") 167) Value.none, DictEntry.mk (PyData.keyHash P (Str.ofString "__loader__")) (Value.str (Str.ofString "__loader__") 168) (Value.builtin "__main__.__loader__#opaque"), DictEntry.mk (PyData.keyHash P (Str.ofString "__spec__")) (Value.str (Str.ofString "__spec__") 169) Value.none, DictEntry.mk (PyData.keyHash P (Str.ofString "__annotations__")) (Value.str (Str.ofString "__annotations__") 170) (Value.ref 6), DictEntry.mk (PyData.keyHash P (Str.ofString "__builtins__")) (Value.str (Str.ofString "__builtins__") 171) (Value.ref 4), DictEntry.mk (PyData.keyHash P (Str.ofString "__file__")) (Value.str (Str.ofString "__file__") 173) (Value.str (Str.ofString "/claim/cut.py") 172), DictEntry.mk (PyData.keyHash P (Str.ofString "__cached__")) (Value.str (Str.ofString "__cached__") 174) Value.none, DictEntry.mk (PyData.keyHash P (Str.ofString "_sre")) (Value.str (Str.ofString "_sre") 275) (Value.ref 12), DictEntry.mk (PyData.keyHash P (Str.ofString "_strip_padding")) (Value.str (Str.ofString "_strip_padding") 293) (Value.ref 38), DictEntry.mk (PyData.keyHash P (Str.ofString "_twin_re_1")) (Value.str (Str.ofString "_twin_re_1") 328) (Value.ref 43), DictEntry.mk (PyData.keyHash P (Str.ofString "CRLF")) (Value.str (Str.ofString "CRLF") 330) (Value.str (Str.ofString "\x0d\n") 329), DictEntry.mk (PyData.keyHash P (Str.ofString "NL")) (Value.str (Str.ofString "NL") 332) (Value.str (Str.ofString "\n") 331), DictEntry.mk (PyData.keyHash P (Str.ofString "_QUOPRI_MAP")) (Value.str (Str.ofString "_QUOPRI_MAP") 1360) (Value.ref 46), DictEntry.mk (PyData.keyHash P (Str.ofString "_QUOPRI_HEADER_MAP")) (Value.str (Str.ofString "_QUOPRI_HEADER_MAP") 1361) (Value.ref 51), DictEntry.mk (PyData.keyHash P (Str.ofString "_QUOPRI_BODY_MAP")) (Value.str (Str.ofString "_QUOPRI_BODY_MAP") 1362) (Value.ref 53), DictEntry.mk (PyData.keyHash P (Str.ofString "ascii_lowercase")) (Value.str (Str.ofString "ascii_lowercase") 1364) (Value.str (Str.ofString "abcdefghijklmnopqrstuvwxyz") 1363), DictEntry.mk (PyData.keyHash P (Str.ofString "ascii_uppercase")) (Value.str (Str.ofString "ascii_uppercase") 1366) (Value.str (Str.ofString "ABCDEFGHIJKLMNOPQRSTUVWXYZ") 1365), DictEntry.mk (PyData.keyHash P (Str.ofString "ascii_letters")) (Value.str (Str.ofString "ascii_letters") 1368) (Value.str (Str.ofString "abcdefghijklmnopqrstuvwxyzABCDEFGHIJKLMNOPQRSTUVWXYZ") 1367), DictEntry.mk (PyData.keyHash P (Str.ofString "digits")) (Value.str (Str.ofString "digits") 1370) (Value.str (Str.ofString "0123456789") 1369), DictEntry.mk (PyData.keyHash P (Str.ofString "hexdigits")) (Value.str (Str.ofString "hexdigits") 1375) (Value.str (Str.ofString "0123456789abcdefABCDEF") 1374), DictEntry.mk (PyData.keyHash P (Str.ofString "c")) (Value.str (Str.ofString "c") 1386) (Value.int 65 1686)] 23) #[]
noncomputable def ob75 (_ : Params) : Obj := Obj.mk (Value.type "list") none (Data.seq (List.toArray (Value.str (Str.ofString "=00") 339 :: Value.str (Str.ofString "=01") 343 :: Value.str (Str.ofString "=02") 347 :: Value.str (Str.ofString "=03") 351 :: Value.str (Str.ofString "=04") 355 :: Value.str (Str.ofString "=05") 359 :: Value.str (Str.ofString "=06") 363 :: Value.str (Str.ofString "=07") 367 :: Value.str (Str.ofString "=08") 371 :: Value.str (Str.ofString "=09") 375 :: Value.str (Str.ofString "=0A") 379 :: Value.str (Str.ofString "=0B") 383 :: Value.str (Str.ofString "=0C") 387 :: Value.str (Str.ofString "=0D") 391 :: Value.str (Str.ofString "=0E") 395 :: Value.str (Str.ofString "=0F") 399 :: Value.str (Str.ofString "=10") 403 :: Value.str (Str.ofString "=11") 407 :: Value.str (Str.ofString "=12") 411 :: Value.str (Str.ofString "=13") 415 :: Value.str (Str.ofString "=14") 419 :: Value.str (Str.ofString "=15") 423 :: Value.str (Str.ofString "=16") 427 :: Value.str (Str.ofString "=17") 431 :: Value.str (Str.ofString "=18") 435 :: Value.str (Str.ofString "=19") 439 :: Value.str (Str.ofString "=1A") 443 :: Value.str (Str.ofString "=1B") 447 :: Value.str (Str.ofString "=1C") 451 :: Value.str (Str.ofString "=1D") 455 :: Value.str (Str.ofString "=1E") 459 :: Value.str (Str.ofString "=1F") 463 :: Value.str (Str.ofString " ") 1592 :: Value.str (Str.ofString "!") 1595 :: Value.str (Str.ofString "\"") 1598 :: Value.str (Str.ofString "#") 1601 :: Value.str (Str.ofString "$") 1604 :: Value.str (Str.ofString "%") 1607 :: Value.str (Str.ofString "&") 1610 :: Value.str (Str.ofString "'") 1613 :: Value.str (Str.ofString "(") 1616 :: Value.str (Str.ofString ")") 1619 :: Value.str (Str.ofString "*") 1622 :: Value.str (Str.ofString "+") 1625 :: Value.str (Str.ofString ",") 1628 :: Value.str (Str.ofString "-") 1631 :: Value.str (Str.ofString ".") 1634 :: Value.str (Str.ofString "/") 1637 :: Value.str (Str.ofString "0") 1640 :: Value.str (Str.ofString "1") 1643 :: Value.str (Str.ofString "2") 1646 :: Value.str (Str.ofString "3") 1649 :: Value.str (Str.ofString "4") 1652 :: Value.str (Str.ofString "5") 1655 :: Value.str (Str.ofString "6") 1658 :: Value.str (Str.ofString "7") 1661 :: Value.str (Str.ofString "8") 1664 :: Value.str (Str.ofString "9") 1667 :: Value.str (Str.ofString ":") 1670 :: Value.str (Str.ofString ";") 1673 :: Value.str (Str.ofString "<") 1676 :: Value.str (Str.ofString "=3D") 583 :: Value.str (Str.ofString ">") 1679 :: Value.str (Str.ofString "?") 1682 :: Value.str (Str.ofString "@") 1685 :: Value.str (Str.ofString "A") 1688 :: Value.str (Str.ofString "=42") 603 :: Value.str (Str.ofString "=43") 607 :: Value.str (Str.ofString "=44") 611 :: Value.str (Str.ofString "=45") 615 :: Value.str (Str.ofString "=46") 619 :: Value.str (Str.ofString "=47") 623 :: Value.str (Str.ofString "=48") 627 :: Value.str (Str.ofString "=49") 631 :: Value.str (Str.ofString "=4A") 635 :: Value.str (Str.ofString "=4B") 639 :: Value.str (Str.ofString "=4C") 643 :: Value.str (Str.ofString "=4D") 647 :: Value.str (Str.ofString "=4E") 651 :: Value.str (Str.ofString "=4F") 655 :: Value.str (Str.ofString "=50") 659 :: Value.str (Str.ofString "=51") 663 :: Value.str (Str.ofString "=52") 667 :: Value.str (Str.ofString "=53") 671 :: Value.str (Str.ofString "=54") 675 :: Value.str (Str.ofString "=55") 679 :: Value.str (Str.ofString "=56") 683 :: Value.str (Str.ofString "=57") 687 :: Value.str (Str.ofString "=58") 691 :: Value.str (Str.ofString "=59") 695 :: Value.str (Str.ofString "=5A") 699 :: Value.str (Str.ofString "=5B") 703 :: Value.str (Str.ofString "=5C") 707 :: Value.str (Str.ofString "=5D") 711 :: Value.str (Str.ofString "=5E") 715 :: Value.str (Str.ofString "=5F") 719 :: Value.str (Str.ofString "=60") 723 :: Value.str (Str.ofString "=61") 727 :: Value.str (Str.ofString "=62") 731 :: Value.str (Str.ofString "=63") 735 :: Value.str (Str.ofString "=64") 739 :: Value.str (Str.ofString "=65") 743 :: Value.str (Str.ofString "=66") 747 :: Value.str (Str.ofString "=67") 751 :: Value.str (Str.ofString "=68") 755 :: Value.str (Str.ofString "=69") 759 :: Value.str (Str.ofString "=6A") 763 :: Value.str (Str.ofString "=6B") 767 :: Value.str (Str.ofString "=6C") 771 :: Value.str (Str.ofString "=6D") 775 :: Value.str (Str.ofString "=6E") 779 :: Value.str (Str.ofString "=6F") 783 :: Value.str (Str.ofString "=70") 787 :: Value.str (Str.ofString "=71") 791 :: Value.str (Str.ofString "=72") 795 :: Value.str (Str.ofString "=73") 799 :: Value.str (Str.ofString "=74") 803 :: Value.str (Str.ofString "=75") 807 :: Value.str (Str.ofString "=76") 811 :: Value.str (Str.ofString "=77") 815 :: Value.str (Str.ofString "=78") 819 :: Value.str (Str.ofString "=79") 823 :: Value.str (Str.ofString "=7A") 827 :: Value.str (Str.ofString "=7B") 831 :: Value.str (Str.ofString "=7C") 835 :: Value.str (Str.ofString "=7D") 839 :: Value.str (Str.ofString "=7E") 843 :: Value.str (Str.ofString "=7F") 847 :: Value.str (Str.ofString "=80") 851 :: Value.str (Str.ofString "=81") 855 :: Value.str (Str.ofString "=82") 859 :: Value.str (Str.ofString "=83") 863 :: Value.str (Str.ofString "=84") 867 :: Value.str (Str.ofString "=85") 871 :: Value.str (Str.ofString "=86") 875 :: Value.str (Str.ofString "=87") 879 :: Value.str (Str.ofString "=88") 883 :: Value.str (Str.ofString "=89") 887 :: Value.str (Str.ofString "=8A") 891 :: Value.str (Str.ofString "=8B") 895 :: Value.str (Str.ofString "=8C") 899 :: Value.str (Str.ofString "=8D") 903 :: Value.str (Str.ofString "=8E") 907 :: Value.str (Str.ofString "=8F") 911 :: Value.str (Str.ofString "=90") 915 :: Value.str (Str.ofString "=91") 919 :: Value.str (Str.ofString "=92") 923 :: Value.str (Str.ofString "=93") 927 :: Value.str (Str.ofString "=94") 931 :: Value.str (Str.ofString "=95") 935 :: Value.str (Str.ofString "=96") 939 :: Value.str (Str.ofString "=97") 943 :: Value.str (Str.ofString "=98") 947 :: Value.str (Str.ofString "=99") 951 :: Value.str (Str.ofString "=9A") 955 :: Value.str (Str.ofString "=9B") 959 :: Value.str (Str.ofString "=9C") 963 :: Value.str (Str.ofString "=9D") 967 :: Value.str (Str.ofString "=9E") 971 :: Value.str (Str.ofString "=9F") 975 :: Value.str (Str.ofString "=A0") 979 :: Value.str (Str.ofString "=A1") 983 :: Value.str (Str.ofString "=A2") 987 :: Value.str (Str.ofString "=A3") 991 :: Value.str (Str.ofString "=A4") 995 :: Value.str (Str.ofString "=A5") 999 :: Value.str (Str.ofString "=A6") 1003 :: Value.str (Str.ofString "=A7") 1007 :: Value.str (Str.ofString "=A8") 1011 :: Value.str (Str.ofString "=A9") 1015 :: Value.str (Str.ofString "=AA") 1019 :: Value.str (Str.ofString "=AB") 1023 :: Value.str (Str.ofString "=AC") 1027 :: Value.str (Str.ofString "=AD") 1031 :: Value.str (Str.ofString "=AE") 1035 :: Value.str (Str.ofString "=AF") 1039 :: Value.str (Str.ofString "=B0") 1043 :: Value.str (Str.ofString "=B1") 1047 :: Value.str (Str.ofString "=B2") 1051 :: Value.str (Str.ofString "=B3") 1055 :: Value.str (Str.ofString "=B4") 1059 :: Value.str (Str.ofString "=B5") 1063 :: Value.str (Str.ofString "=B6") 1067 :: Value.str (Str.ofString "=B7") 1071 :: Value.str (Str.ofString "=B8") 1075 :: Value.str (Str.ofString "=B9") 1079 :: Value.str (Str.ofString "=BA") 1083 :: Value.str (Str.ofString "=BB") 1087 :: Value.str (Str.ofString "=BC") 1091 :: Value.str (Str.ofString "=BD") 1095 :: Value.str (Str.ofString "=BE") 1099 :: Value.str (Str.ofString "=BF") 1103 :: Value.str (Str.ofString "=C0") 1107 :: Value.str (Str.ofString "=C1") 1111 :: Value.str (Str.ofString "=C2") 1115 :: Value.str (Str.ofString "=C3") 1119 :: Value.str (Str.ofString "=C4") 1123 :: Value.str (Str.ofString "=C5") 1127 :: Value.str (Str.ofString "=C6") 1131 :: Value.str (Str.ofString "=C7") 1135 :: Value.str (Str.ofString "=C8") 1139 :: Value.str (Str.ofString "=C9") 1143 :: Value.str (Str.ofString "=CA") 1147 :: Value.str (Str.ofString "=CB") 1151 :: Value.str (Str.ofString "=CC") 1155 :: Value.str (Str.ofString "=CD") 1159 :: Value.str (Str.ofString "=CE") 1163 :: Value.str (Str.ofString "=CF") 1167 :: Value.str (Str.ofString "=D0") 1171 :: Value.str (Str.ofString "=D1") 1175 :: Value.str (Str.ofString "=D2") 1179 :: Value.str (Str.ofString "=D3") 1183 :: Value.str (Str.ofString "=D4") 1187 :: Value.str (Str.ofString "=D5") 1191 :: Value.str (Str.ofString "=D6") 1195 :: Value.str (Str.ofString "=D7") 1199 :: Value.str (Str.ofString "=D8") 1203 :: Value.str (Str.ofString "=D9") 1207 :: Value.str (Str.ofString "=DA") 1211 :: Value.str (Str.ofString "=DB") 1215 :: Value.str (Str.ofString "=DC") 1219 :: Value.str (Str.ofString "=DD") 1223 :: Value.str (Str.ofString "=DE") 1227 :: Value.str (Str.ofString "=DF") 1231 :: Value.str (Str.ofString "=E0") 1235 :: Value.str (Str.ofString "=E1") 1239 :: Value.str (Str.ofString "=E2") 1243 :: Value.str (Str.ofString "=E3") 1247 :: Value.str (Str.ofString "=E4") 1251 :: Value.str (Str.ofString "=E5") 1255 :: Value.str (Str.ofString "=E6") 1259 :: Value.str (Str.ofString "=E7") 1263 :: Value.str (Str.ofString "=E8") 1267 :: Value.str (Str.ofString "=E9") 1271 :: Value.str (Str.ofString "=EA") 1275 :: Value.str (Str.ofString "=EB") 1279 :: Value.str (Str.ofString "=EC") 1283 :: Value.str (Str.ofString "=ED") 1287 :: Value.str (Str.ofString "=EE") 1291 :: Value.str (Str.ofString "=EF") 1295 :: Value.str (Str.ofString "=F0") 1299 :: Value.str (Str.ofString "=F1") 1303 :: Value.str (Str.ofString "=F2") 1307 :: Value.str (Str.ofString "=F3") 1311 :: Value.str (Str.ofString "=F4") 1315 :: Value.str (Str.ofString "=F5") 1319 :: Value.str (Str.ofString "=F6") 1323 :: Value.str (Str.ofString "=F7") 1327 :: Value.str (Str.ofString "=F8") 1331 :: Value.str (Str.ofString "=F9") 1335 :: Value.str (Str.ofString "=FA") 1339 :: Value.str (Str.ofString "=FB") 1343 :: Value.str (Str.ofString "=FC") 1347 :: Value.str (Str.ofString "=FD") 1351 :: Value.str (Str.ofString "=FE") 1355 :: Value.str (Str.ofString "=FF") 1359 :: []))) #[]
noncomputable def ob76 (_ : Params) : Obj := Obj.mk (Value.type "bytes_iterator") none (Data.fields #[Value.bytes (List.toArray (32 :: 33 :: 34 :: 35 :: 36 :: 37 :: 38 :: 39 :: 40 :: 41 :: 42 :: 43 :: 44 :: 45 :: 46 :: 47 :: 48 :: 49 :: 50 :: 51 :: 52 :: 53 :: 54 :: 55 :: 56 :: 57 :: 58 :: 59 :: 60 :: 62 :: 63 :: 64 :: 65 :: 66 :: 67 :: 68 :: 69 :: 70 :: 71 :: 72 :: 73 :: 74 :: 75 :: 76 :: 77 :: 78 :: 79 :: 80 :: 81 :: 82 :: 83 :: 84 :: 85 :: 86 :: 87 :: 88 :: 89 :: 90 :: 91 :: 92 :: 93 :: 94 :: 95 :: 96 :: 97 :: 98 :: 99 :: 100 :: 101 :: 102 :: 103 :: 104 :: 105 :: 106 :: 107 :: 108 :: 109 :: 110 :: 111 :: 112 :: 113 :: 114 :: 115 :: 116 :: 117 :: 118 :: 119 :: 120 :: 121 :: 122 :: 123 :: 124 :: 125 :: 126 :: 9 :: [])) 1589, Value.int 33 0]) #[]
noncomputable def ob77 (P : Params) : Obj := Obj.mk (Value.type "dict") none (Data.dict #[DictEntry.mk (PyData.keyHash P (Str.ofString "__name__")) (Value.str (Str.ofString "__name__") 165) (Value.str (Str.ofString "cpy313.email.quoprimime") 1376), DictEntry.mk (PyData.keyHash P (Str.ofString "__doc__")) (Value.str (Str.ofString "__doc__") 166) Value.none, DictEntry.mk (PyData.keyHash P (Str.ofString "__package__")) (Value.str (Str.ofString "__package__") 167) Value.none, DictEntry.mk (PyData.keyHash P (Str.ofString "__loader__")) (Value.str (Str.ofString "__loader__") 168) (Value.builtin "__main__.__loader__#opaque"), DictEntry.mk (PyData.keyHash P (Str.ofString "__spec__")) (Value.str (Str.ofString "__spec__") 169) Value.none, DictEntry.mk (PyData.keyHash P (Str.ofString "__annotations__")) (Value.str (Str.ofString "__annotations__") 170) (Value.ref 6), DictEntry.mk (PyData.keyHash P (Str.ofString "__builtins__")) (Value.str (Str.ofString "__builtins__") 171) (Value.ref 4), DictEntry.mk (PyData.keyHash P (Str.ofString "__file__")) (Value.str (Str.ofString "__file__") 173) (Value.str (Str.ofString "/claim/cut.py") 172), DictEntry.mk (PyData.keyHash P (Str.ofString "__cached__")) (Value.str (Str.ofString "__cached__") 174) Value.none, DictEntry.mk (PyData.keyHash P (Str.ofString "_sre")) (Value.str (Str.ofString "_sre") 275) (Value.ref 12), DictEntry.mk (PyData.keyHash P (Str.ofString "_strip_padding")) (Value.str (Str.ofString "_strip_padding") 293) (Value.ref 38), DictEntry.mk (PyData.keyHash P (Str.ofString "_twin_re_1")) (Value.str (Str.ofString "_twin_re_1") 328) (Value.ref 43), DictEntry.mk (PyData.keyHash P (Str.ofString "CRLF")) (Value.str (Str.ofString "CRLF") 330) (Value.str (Str.ofString "\x0d\n") 329), DictEntry.mk (PyData.keyHash P (Str.ofString "NL")) (Value.str (Str.ofString "NL") 332) (Value.str (Str.ofString "\n") 331), DictEntry.mk (PyData.keyHash P (Str.ofString "_QUOPRI_MAP")) (Value.str (Str.ofString "_QUOPRI_MAP") 1360) (Value.ref 46), DictEntry.mk (PyData.keyHash P (Str.ofString "_QUOPRI_HEADER_MAP")) (Value.str (Str.ofString "_QUOPRI_HEADER_MAP") 1361) (Value.ref 51), DictEntry.mk (PyData.keyHash P (Str.ofString "_QUOPRI_BODY_MAP")) (Value.str (Str.ofString "_QUOPRI_BODY_MAP") 1362) (Value.ref 53), DictEntry.mk (PyData.keyHash P (Str.ofString "ascii_lowercase")) (Value.str (Str.ofString "ascii_lowercase") 1364) (Value.str (Str.ofString "abcdefghijklmnopqrstuvwxyz") 1363), DictEntry.mk (PyData.keyHash P (Str.ofString "ascii_uppercase")) (Value.str (Str.ofString "ascii_uppercase") 1366) (Value.str (Str.ofString "ABCDEFGHIJKLMNOPQRSTUVWXYZ") 1365), DictEntry.mk (PyData.keyHash P (Str.ofString "ascii_letters")) (Value.str (Str.ofString "ascii_letters") 1368) (Value.str (Str.ofString "abcdefghijklmnopqrstuvwxyzABCDEFGHIJKLMNOPQRSTUVWXYZ") 1367), DictEntry.mk (PyData.keyHash P (Str.ofString "digits")) (Value.str (Str.ofString "digits") 1370) (Value.str (Str.ofString "0123456789") 1369), DictEntry.mk (PyData.keyHash P (Str.ofString "hexdigits")) (Value.str (Str.ofString "hexdigits") 1375) (Value.str (Str.ofString "0123456789abcdefABCDEF") 1374), DictEntry.mk (PyData.keyHash P (Str.ofString "c")) (Value.str (Str.ofString "c") 1386) (Value.int 97 1782)] 23) #[]
noncomputable def ob78 (P : Params) : Obj := Obj.mk (Value.type "list") none (Data.seq (List.toArray (Value.str (Str.ofString "=00") 339 :: Value.str (Str.ofString "=01") 343 :: Value.str (Str.ofString "=02") 347 :: Value.str (Str.ofString "=03") 351 :: Value.str (Str.ofString "=04") 355 :: Value.str (Str.ofString "=05") 359 :: Value.str (Str.ofString "=06") 363 :: Value.str (Str.ofString "=07") 367 :: Value.str (Str.ofString "=08") 371 :: Value.str (Str.ofString "=09") 375 :: Value.str (Str.ofString "=0A") 379 :: Value.str (Str.ofString "=0B") 383 :: Value.str (Str.ofString "=0C") 387 :: Value.str (Str.ofString "=0D") 391 :: Value.str (Str.ofString "=0E") 395 :: Value.str (Str.ofString "=0F") 399 :: Value.str (Str.ofString "=10") 403 :: Value.str (Str.ofString "=11") 407 :: Value.str (Str.ofString "=12") 411 :: Value.str (Str.ofString "=13") 415 :: Value.str (Str.ofString "=14") 419 :: Value.str (Str.ofString "=15") 423 :: Value.str (Str.ofString "=16") 427 :: Value.str (Str.ofString "=17") 431 :: Value.str (Str.ofString "=18") 435 :: Value.str (Str.ofString "=19") 439 :: Value.str (Str.ofString "=1A") 443 :: Value.str (Str.ofString "=1B") 447 :: Value.str (Str.ofString "=1C") 451 :: Value.str (Str.ofString "=1D") 455 :: Value.str (Str.ofString "=1E") 459 :: Value.str (Str.ofString "=1F") 463 :: Value.str (Str.ofString " ") 1592 :: Value.str (Str.ofString "!") 1595 :: Value.str (Str.ofString "\"") 1598 :: Value.str (Str.ofString "#") 1601 :: Value.str (Str.ofString "$") 1604 :: Value.str (Str.ofString "%") 1607 :: Value.str (Str.ofString "&") 1610 :: Value.str (Str.ofString "'") 1613 :: Value.str (Str.ofString "(") 1616 :: Value.str (Str.ofString ")") 1619 :: Value.str (Str.ofString "*") 1622 :: Value.str (Str.ofString "+") 1625 :: Value.str (Str.ofString ",") 1628 :: Value.str (Str.ofString "-") 1631 :: Value.str (Str.ofString ".") 1634 :: Value.str (Str.ofString "/") 1637 :: Value.str (Str.ofString "0") 1640 :: Value.str (Str.ofString "1") 1643 :: Value.str (Str.ofString "2") 1646 :: Value.str (Str.ofString "3") 1649 :: Value.str (Str.ofString "4") 1652 :: Value.str (Str.ofString "5") 1655 :: Value.str (Str.ofString "6") 1658 :: Value.str (Str.ofString "7") 1661 :: Value.str (Str.ofString "8") 1664 :: Value.str (Str.ofString "9") 1667 :: Value.str (Str.ofString ":") 1670 :: Value.str (Str.ofString ";") 1673 :: Value.str (Str.ofString "<") 1676 :: Value.str (Str.ofString "=3D") 583 :: Value.str (Str.ofString ">") 1679 :: Value.str (Str.ofString "?") 1682 :: Value.str (Str.ofString "@") 1685 :: Value.str (Str.ofString "A") 1688 :: Value.str (Str.ofString "B") 1691 :: Value.str (Str.ofString "C") 1694 :: Value.str (Str.ofString "D") 1697 :: Value.str (Str.ofString "E") 1700 :: Value.str (Str.ofString "F") 1703 :: Value.str (Str.ofString "G") 1706 :: Value.str (Str.ofString "H") 1709 :: Value.str (Str.ofString "I") 1712 :: Value.str (Str.ofString "J") 1715 :: Value.str (Str.ofString "K") 1718 :: Value.str (Str.ofString "L") 1721 :: Value.str (Str.ofString "M") 1724 :: Value.str (Str.ofString "N") 1727 :: Value.str (Str.ofString "O") 1730 :: Value.str (Str.ofString "P") 1733 :: Value.str (Str.ofString "Q") 1736 :: Value.str (Str.ofString "R") 1739 :: Value.str (Str.ofString "S") 1742 :: Value.str (Str.ofString "T") 1745 :: Value.str (Str.ofString "U") 1748 :: Value.str (Str.ofString "V") 1751 :: Value.str (Str.ofString "W") 1754 :: Value.str (Str.ofString "X") 1757 :: Value.str (Str.ofString "Y") 1760 :: Value.str (Str.ofString "Z") 1763 :: Value.str (Str.ofString "[") 1766 :: Value.str (Str.ofString "\\") 1769 :: Value.str (Str.ofString "]") 1772 :: Value.str (Str.ofString "^") 1775 :: Value.str (Str.ofString "_") 1778 :: Value.str (Str.ofString "`") 1781 :: Value.str (Str.ofString "a") 1784 :: Value.str (Str.ofString "=62") 731 :: Value.str (Str.ofString "=63") 735 :: Value.str (Str.ofString "=64") 739 :: Value.str (Str.ofString "=65") 743 :: Value.str (Str.ofString "=66") 747 :: Value.str (Str.ofString "=67") 751 :: Value.str (Str.ofString "=68") 755 :: Value.str (Str.ofString "=69") 759 :: Value.str (Str.ofString "=6A") 763 :: Value.str (Str.ofString "=6B") 767 :: Value.str (Str.ofString "=6C") 771 :: Value.str (Str.ofString "=6D") 775 :: Value.str (Str.ofString "=6E") 779 :: Value.str (Str.ofString "=6F") 783 :: Value.str (Str.ofString "=70") 787 :: Value.str (Str.ofString "=71") 791 :: Value.str (Str.ofString "=72") 795 :: Value.str (Str.ofString "=73") 799 :: Value.str (Str.ofString "=74") 803 :: Value.str (Str.ofString "=75") 807 :: Value.str (Str.ofString "=76") 811 :: Value.str (Str.ofString "=77") 815 :: Value.str (Str.ofString "=78") 819 :: Value.str (Str.ofString "=79") 823 :: Value.str (Str.ofString "=7A") 827 :: Value.str (Str.ofString "=7B") 831 :: Value.str (Str.ofString "=7C") 835 :: Value.str (Str.ofString "=7D") 839 :: Value.str (Str.ofString "=7E") 843 :: Value.str (Str.ofString "=7F") 847 :: Value.str (Str.ofString "=80") 851 :: Value.str (Str.ofString "=81") 855 :: Value.str (Str.ofString "=82") 859 :: Value.str (Str.ofString "=83") 863 :: Value.str (Str.ofString "=84") 867 :: Value.str (Str.ofString "=85") 871 :: Value.str (Str.ofString "=86") 875 :: Value.str (Str.ofString "=87") 879 :: Value.str (Str.ofString "=88") 883 :: Value.str (Str.ofString "=89") 887 :: Value.str (Str.ofString "=8A") 891 :: Value.str (Str.ofString "=8B") 895 :: Value.str (Str.ofString "=8C") 899 :: Value.str (Str.ofString "=8D") 903 :: Value.str (Str.ofString "=8E") 907 :: Value.str (Str.ofString "=8F") 911 :: Value.str (Str.ofString "=90") 915 :: Value.str (Str.ofString "=91") 919 :: Value.str (Str.ofString "=92") 923 :: Value.str (Str.ofString "=93") 927 :: Value.str (Str.ofString "=94") 931 :: Value.str (Str.ofString "=95") 935 :: Value.str (Str.ofString "=96") 939 :: Value.str (Str.ofString "=97") 943 :: Value.str (Str.ofString "=98") 947 :: Value.str (Str.ofString "=99") 951 :: Value.str (Str.ofString "=9A") 955 :: Value.str (Str.ofString "=9B") 959 :: Value.str (Str.ofString "=9C") 963 :: Value.str (Str.ofString "=9D") 967 :: Value.str (Str.ofString "=9E") 971 :: Value.str (Str.ofString "=9F") 975 :: Value.str (Str.ofString "=A0") 979 :: Value.str (Str.ofString "=A1") 983 :: Value.str (Str.ofString "=A2") 987 :: Value.str (Str.ofString "=A3") 991 :: Value.str (Str.ofString "=A4") 995 :: Value.str (Str.ofString "=A5") 999 :: Value.str (Str.ofString "=A6") 1003 :: Value.str (Str.ofString "=A7") 1007 :: Value.str (Str.ofString "=A8") 1011 :: Value.str (Str.ofString "=A9") 1015 :: Value.str (Str.ofString "=AA") 1019 :: Value.str (Str.ofString "=AB") 1023 :: Value.str (Str.ofString "=AC") 1027 :: Value.str (Str.ofString "=AD") 1031 :: Value.str (Str.ofString "=AE") 1035 :: Value.str (Str.ofString "=AF") 1039 :: Value.str (Str.ofString "=B0") 1043 :: Value.str (Str.ofString "=B1") 1047 :: Value.str (Str.ofString "=B2") 1051 :: Value.str (Str.ofString "=B3") 1055 :: Value.str (Str.ofString "=B4") 1059 :: Value.str (Str.ofString "=B5") 1063 :: Value.str (Str.ofString "=B6") 1067 :: Value.str (Str.ofString "=B7") 1071 :: Value.str (Str.ofString "=B8") 1075 :: Value.str (Str.ofString "=B9") 1079 :: Value.str (Str.ofString "=BA") 1083 :: Value.str (Str.ofString "=BB") 1087 :: Value.str (Str.ofString "=BC") 1091 :: Value.str (Str.ofString "=BD") 1095 :: Value.str (Str.ofString "=BE") 1099 :: Value.str (Str.ofString "=BF") 1103 :: Value.str (Str.ofString "=C0") 1107 :: Value.str (Str.ofString "=C1") 1111 :: Value.str (Str.ofString "=C2") 1115 :: Value.str (Str.ofString "=C3") 1119 :: Value.str (Str.ofString "=C4") 1123 :: Value.str (Str.ofString "=C5") 1127 :: Value.str (Str.ofString "=C6") 1131 :: Value.str (Str.ofString "=C7") 1135 :: Value.str (Str.ofString "=C8") 1139 :: Value.str (Str.ofString "=C9") 1143 :: Value.str (Str.ofString "=CA") 1147 :: Value.str (Str.ofString "=CB") 1151 :: Value.str (Str.ofString "=CC") 1155 :: Value.str (Str.ofString "=CD") 1159 :: Value.str (Str.ofString "=CE") 1163 :: Value.str (Str.ofString "=CF") 1167 :: Value.str (Str.ofString "=D0") 1171 :: Value.str (Str.ofString "=D1") 1175 :: Value.str (Str.ofString "=D2") 1179 :: Value.str (Str.ofString "=D3") 1183 :: Value.str (Str.ofString "=D4") 1187 :: Value.str (Str.ofString "=D5") 1191 :: Value.str (Str.ofString "=D6") 1195 :: Value.str (Str.ofString "=D7") 1199 :: Value.str (Str.ofString "=D8") 1203 :: Value.str (Str.ofString "=D9") 1207 :: Value.str (Str.ofString "=DA") 1211 :: Value.str (Str.ofString "=DB") 1215 :: Value.str (Str.ofString "=DC") 1219 :: Value.str (Str.ofString "=DD") 1223 :: Value.str (Str.ofString "=DE") 1227 :: Value.str (Str.ofString "=DF") 1231 :: Value.str (Str.ofString "=E0") 1235 :: Value.str (Str.ofString "=E1") 1239 :: Value.str (Str.ofString "=E2") 1243 :: Value.str (Str.ofString "=E3") 1247 :: Value.str (Str.ofString "=E4") 1251 :: Value.str (Str.ofString "=E5") 1255 :: Value.str (Str.ofString "=E6") 1259 :: Value.str (Str.ofString "=E7") 1263 :: Value.str (Str.ofString "=E8") 1267 :: Value.str (Str.ofString "=E9") 1271 :: Value.str (Str.ofString "=EA") 1275 :: Value.str (Str.ofString "=EB") 1279 :: Value.str (Str.ofString "=EC") 1283 :: Value.str (Str.ofString "=ED") 1287 :: Value.str (Str.ofString "=EE") 1291 :: Value.str (Str.ofString "=EF") 1295 :: Value.str (Str.ofString "=F0") 1299 :: Value.str (Str.ofString "=F1") 1303 :: Value.str (Str.ofString "=F2") 1307 :: Value.str (Str.ofString "=F3") 1311 :: Value.str (Str.ofString "=F4") 1315 :: Value.str (Str.ofString "=F5") 1319 :: Value.str (Str.ofString "=F6") 1323 :: Value.str (Str.ofString "=F7") 1327 :: Value.str (Str.ofString "=F8") 1331 :: Value.str (Str.ofString "=F9") 1335 :: Value.str (Str.ofString "=FA") 1339 :: Value.str (Str.ofString "=FB") 1343 :: Value.str (Str.ofString "=FC") 1347 :: Value.str (Str.ofString "=FD") 1351 :: Value.str (Str.ofString "=FE") 1355 :: Value.str (Str.ofString "=FF") 1359 :: []))) #[]
noncomputable def ob79 (_ : Params) : Obj := Obj.mk (Value.type "bytes_iterator") none (Data.fields #[Value.bytes (List.toArray (32 :: 33 :: 34 :: 35 :: 36 :: 37 :: 38 :: 39 :: 40 :: 41 :: 42 :: 43 :: 44 :: 45 :: 46 :: 47 :: 48 :: 49 :: 50 :: 51 :: 52 :: 53 :: 54 :: 55 :: 56 :: 57 :: 58 :: 59 :: 60 :: 62 :: 63 :: 64 :: 65 :: 66 :: 67 :: 68 :: 69 :: 70 :: 71 :: 72 :: 73 :: 74 :: 75 :: 76 :: 77 :: 78 :: 79 :: 80 :: 81 :: 82 :: 83 :: 84 :: 85 :: 86 :: 87 :: 88 :: 89 :: 90 :: 91 :: 92 :: 93 :: 94 :: 95 :: 96 :: 97 :: 98 :: 99 :: 100 :: 101 :: 102 :: 103 :: 104 :: 105 :: 106 :: 107 :: 108 :: 109 :: 110 :: 111 :: 112 :: 113 :: 114 :: 115 :: 116 :: 117 :: 118 :: 119 :: 120 :: 121 :: 122 :: 123 :: 124 :: 125 :: 126 :: 9 :: [])) 1589, Value.int 65 0]) #[]
noncomputable def ob80 (P : Params) : Obj := Obj.mk (Value.type "dict") none (Data.dict #[DictEntry.mk (PyData.keyHash P (Str.ofString "__name__")) (Value.str (Str.ofString "__name__") 165) (Value.str (Str.ofString "cpy313.email.quoprimime") 1376), DictEntry.mk (PyData.keyHash P (Str.ofString "__doc__")) (Value.str (Str.ofString "__doc__") 166) Value.none, DictEntry.mk (PyData.keyHash P (Str.ofString "__package__")) (Value.str (Str.ofString "__package__") 167) Value.none, DictEntry.mk (PyData.keyHash P (Str.ofString "__loader__")) (Value.str (Str.ofString "__loader__") 168) (Value.builtin "__main__.__loader__#opaque"), DictEntry.mk (PyData.keyHash P (Str.ofString "__spec__")) (Value.str (Str.ofString "__spec__") 169) Value.none, DictEntry.mk (PyData.keyHash P (Str.ofString "__annotations__")) (Value.str (Str.ofString "__annotations__") 170) (Value.ref 6), DictEntry.mk (PyData.keyHash P (Str.ofString "__builtins__")) (Value.str (Str.ofString "__builtins__") 171) (Value.ref 4), DictEntry.mk (PyData.keyHash P (Str.ofString "__file__")) (Value.str (Str.ofString "__file__") 173) (Value.str (Str.ofString "/claim/cut.py") 172), DictEntry.mk (PyData.keyHash P (Str.ofString "__cached__")) (Value.str (Str.ofString "__cached__") 174) Value.none, DictEntry.mk (PyData.keyHash P (Str.ofString "_sre")) (Value.str (Str.ofString "_sre") 275) (Value.ref 12), DictEntry.mk (PyData.keyHash P (Str.ofString "_strip_padding")) (Value.str (Str.ofString "_strip_padding") 293) (Value.ref 38), DictEntry.mk (PyData.keyHash P (Str.ofString "_twin_re_1")) (Value.str (Str.ofString "_twin_re_1") 328) (Value.ref 43), DictEntry.mk (PyData.keyHash P (Str.ofString "CRLF")) (Value.str (Str.ofString "CRLF") 330) (Value.str (Str.ofString "\x0d\n") 329), DictEntry.mk (PyData.keyHash P (Str.ofString "NL")) (Value.str (Str.ofString "NL") 332) (Value.str (Str.ofString "\n") 331), DictEntry.mk (PyData.keyHash P (Str.ofString "_QUOPRI_MAP")) (Value.str (Str.ofString "_QUOPRI_MAP") 1360) (Value.ref 46), DictEntry.mk (PyData.keyHash P (Str.ofString "_QUOPRI_HEADER_MAP")) (Value.str (Str.ofString "_QUOPRI_HEADER_MAP") 1361) (Value.ref 51), DictEntry.mk (PyData.keyHash P (Str.ofString "_QUOPRI_BODY_MAP")) (Value.str (Str.ofString "_QUOPRI_BODY_MAP") 1362) (Value.ref 53), DictEntry.mk (PyData.keyHash P (Str.ofString "ascii_lowercase")) (Value.str (Str.ofString "ascii_lowercase") 1364) (Value.str (Str.ofString "abcdefghijklmnopqrstuvwxyz") 1363), DictEntry.mk (PyData.keyHash P (Str.ofString "ascii_uppercase")) (Value.str (Str.ofString "ascii_uppercase") 1366) (Value.str (Str.ofString "ABCDEFGHIJKLMNOPQRSTUVWXYZ") 1365), DictEntry.mk (PyData.keyHash P (Str.ofString "ascii_letters")) (Value.str (Str.ofString "ascii_letters") 1368) (Value.str (Str.ofString "abcdefghijklmnopqrstuvwxyzABCDEFGHIJKLMNOPQRSTUVWXYZ") 1367), DictEntry.mk (PyData.keyHash P (Str.ofString "digits")) (Value.str (Str.ofString "digits") 1370) (Value.str (Str.ofString "0123456789") 1369), DictEntry.mk (PyData.keyHash P (Str.ofString "hexdigits")) (Value.str (Str.ofString "hexdigits") 1375) (Value.str (Str.ofString "0123456789abcdefABCDEF") 1374), DictEntry.mk (PyData.keyHash P (Str.ofString "c")) (Value.str (Str.ofString "c") 1386) (Value.int 9 1872)] 23) #[]
noncomputable def ob81 (P : Params) : Obj := Obj.mk (Value.type "list") none (Data.seq (List.toArray (Value.str (Str.ofString "=00") 339 :: Value.str (Str.ofString "=01") 343 :: Value.str (Str.ofString "=02") 347 :: Value.str (Str.ofString "=03") 351 :: Value.str (Str.ofString "=04") 355 :: Value.str (Str.ofString "=05") 359 :: Value.str (Str.ofString "=06") 363 :: Value.str (Str.ofString "=07") 367 :: Value.str (Str.ofString "=08") 371 :: Value.str (Str.ofString "\t") 1874 :: Value.str (Str.ofString "=0A") 379 :: Value.str (Str.ofString "=0B") 383 :: Value.str (Str.ofString "=0C") 387 :: Value.str (Str.ofString "=0D") 391 :: Value.str (Str.ofString "=0E") 395 :: Value.str (Str.ofString "=0F") 399 :: Value.str (Str.ofString "=10") 403 :: Value.str (Str.ofString "=11") 407 :: Value.str (Str.ofString "=12") 411 :: Value.str (Str.ofString "=13") 415 :: Value.str (Str.ofString "=14") 419 :: Value.str (Str.ofString "=15") 423 :: Value.str (Str.ofString "=16") 427 :: Value.str (Str.ofString "=17") 431 :: Value.str (Str.ofString "=18") 435 :: Value.str (Str.ofString "=19") 439 :: Value.str (Str.ofString "=1A") 443 :: Value.str (Str.ofString "=1B") 447 :: Value.str (Str.ofString "=1C") 451 :: Value.str (Str.ofString "=1D") 455 :: Value.str (Str.ofString "=1E") 459 :: Value.str (Str.ofString "=1F") 463 :: Value.str (Str.ofString " ") 1592 :: Value.str (Str.ofString "!") 1595 :: Value.str (Str.ofString "\"") 1598 :: Value.str (Str.ofString "#") 1601 :: Value.str (Str.ofString "$") 1604 :: Value.str (Str.ofString "%") 1607 :: Value.str (Str.ofString "&") 1610 :: Value.str (Str.ofString "'") 1613 :: Value.str (Str.ofString "(") 1616 :: Value.str (Str.ofString ")") 1619 :: Value.str (Str.ofString "*") 1622 :: Value.str (Str.ofString "+") 1625 :: Value.str (Str.ofString ",") 1628 :: Value.str (Str.ofString "-") 1631 :: Value.str (Str.ofString ".") 1634 :: Value.str (Str.ofString "/") 1637 :: Value.str (Str.ofString "0") 1640 :: Value.str (Str.ofString "1") 1643 :: Value.str (Str.ofString "2") 1646 :: Value.str (Str.ofString "3") 1649 :: Value.str (Str.ofString "4") 1652 :: Value.str (Str.ofString "5") 1655 :: Value.str (Str.ofString "6") 1658 :: Value.str (Str.ofString "7") 1661 :: Value.str (Str.ofString "8") 1664 :: Value.str (Str.ofString "9") 1667 :: Value.str (Str.ofString ":") 1670 :: Value.str (Str.ofString ";") 1673 :: Value.str (Str.ofString "<") 1676 :: Value.str (Str.ofString "=3D") 583 :: Value.str (Str.ofString ">") 1679 :: Value.str (Str.ofString "?") 1682 :: Value.str (Str.ofString "@") 1685 :: Value.str (Str.ofString "A") 1688 :: Value.str (Str.ofString "B") 1691 :: Value.str (Str.ofString "C") 1694 :: Value.str (Str.ofString "D") 1697 :: Value.str (Str.ofString "E") 1700 :: Value.str (Str.ofString "F") 1703 :: Value.str (Str.ofString "G") 1706 :: Value.str (Str.ofString "H") 1709 :: Value.str (Str.ofString "I") 1712 :: Value.str (Str.ofString "J") 1715 :: Value.str (Str.ofString "K") 1718 :: Value.str (Str.ofString "L") 1721 :: Value.str (Str.ofString "M") 1724 :: Value.str (Str.ofString "N") 1727 :: Value.str (Str.ofString "O") 1730 :: Value.str (Str.ofString "P") 1733 :: Value.str (Str.ofString "Q") 1736 :: Value.str (Str.ofString "R") 1739 :: Value.str (Str.ofString "S") 1742 :: Value.str (Str.ofString "T") 1745 :: Value.str (Str.ofString "U") 1748 :: Value.str (Str.ofString "V") 1751 :: Value.str (Str.ofString "W") 1754 :: Value.str (Str.ofString "X") 1757 :: Value.str (Str.ofString "Y") 1760 :: Value.str (Str.ofString "Z") 1763 :: Value.str (Str.ofString "[") 1766 :: Value.str (Str.ofString "\\") 1769 :: Value.str (Str.ofString "]") 1772 :: Value.str (Str.ofString "^") 1775 :: Value.str (Str.ofString "_") 1778 :: Value.str (Str.ofString "`") 1781 :: Value.str (Str.ofString "a") 1784 :: Value.str (Str.ofString "b") 1787 :: Value.str (Str.ofString "c") 1790 :: Value.str (Str.ofString "d") 1793 :: Value.str (Str.ofString "e") 1796 :: Value.str (Str.ofString "f") 1799 :: Value.str (Str.ofString "g") 1802 :: Value.str (Str.ofString "h") 1805 :: Value.str (Str.ofString "i") 1808 :: Value.str (Str.ofString "j") 1811 :: Value.str (Str.ofString "k") 1814 :: Value.str (Str.ofString "l") 1817 :: Value.str (Str.ofString "m") 1820 :: Value.str (Str.ofString "n") 1823 :: Value.str (Str.ofString "o") 1826 :: Value.str (Str.ofString "p") 1829 :: Value.str (Str.ofString "q") 1832 :: Value.str (Str.ofString "r") 1835 :: Value.str (Str.ofString "s") 1838 :: Value.str (Str.ofString "t") 1841 :: Value.str (Str.ofString "u") 1844 :: Value.str (Str.ofString "v") 1847 :: Value.str (Str.ofString "w") 1850 :: Value.str (Str.ofString "x") 1853 :: Value.str (Str.ofString "y") 1856 :: Value.str (Str.ofString "z") 1859 :: Value.str (Str.ofString "{") 1862 :: Value.str (Str.ofString "|") 1865 :: Value.str (Str.ofString "}") 1868 :: Value.str (Str.ofString "~") 1871 :: Value.str (Str.ofString "=7F") 847 :: Value.str (Str.ofString "=80") 851 :: Value.str (Str.ofString "=81") 855 :: Value.str (Str.ofString "=82") 859 :: Value.str (Str.ofString "=83") 863 :: Value.str (Str.ofString "=84") 867 :: Value.str (Str.ofString "=85") 871 :: Value.str (Str.ofString "=86") 875 :: Value.str (Str.ofString "=87") 879 :: Value.str (Str.ofString "=88") 883 :: Value.str (Str.ofString "=89") 887 :: Value.str (Str.ofString "=8A") 891 :: Value.str (Str.ofString "=8B") 895 :: Value.str (Str.ofString "=8C") 899 :: Value.str (Str.ofString "=8D") 903 :: Value.str (Str.ofString "=8E") 907 :: Value.str (Str.ofString "=8F") 911 :: Value.str (Str.ofString "=90") 915 :: Value.str (Str.ofString "=91") 919 :: Value.str (Str.ofString "=92") 923 :: Value.str (Str.ofString "=93") 927 :: Value.str (Str.ofString "=94") 931 :: Value.str (Str.ofString "=95") 935 :: Value.str (Str.ofString "=96") 939 :: Value.str (Str.ofString "=97") 943 :: Value.str (Str.ofString "=98") 947 :: Value.str (Str.ofString "=99") 951 :: Value.str (Str.ofString "=9A") 955 :: Value.str (Str.ofString "=9B") 959 :: Value.str (Str.ofString "=9C") 963 :: Value.str (Str.ofString "=9D") 967 :: Value.str (Str.ofString "=9E") 971 :: Value.str (Str.ofString "=9F") 975 :: Value.str (Str.ofString "=A0") 979 :: Value.str (Str.ofString "=A1") 983 :: Value.str (Str.ofString "=A2") 987 :: Value.str (Str.ofString "=A3") 991 :: Value.str (Str.ofString "=A4") 995 :: Value.str (Str.ofString "=A5") 999 :: Value.str (Str.ofString "=A6") 1003 :: Value.str (Str.ofString "=A7") 1007 :: Value.str (Str.ofString "=A8") 1011 :: Value.str (Str.ofString "=A9") 1015 :: Value.str (Str.ofString "=AA") 1019 :: Value.str (Str.ofString "=AB") 1023 :: Value.str (Str.ofString "=AC") 1027 :: Value.str (Str.ofString "=AD") 1031 :: Value.str (Str.ofString "=AE") 1035 :: Value.str (Str.ofString "=AF") 1039 :: Value.str (Str.ofString "=B0") 1043 :: Value.str (Str.ofString "=B1") 1047 :: Value.str (Str.ofString "=B2") 1051 :: Value.str (Str.ofString "=B3") 1055 :: Value.str (Str.ofString "=B4") 1059 :: Value.str (Str.ofString "=B5") 1063 :: Value.str (Str.ofString "=B6") 1067 :: Value.str (Str.ofString "=B7") 1071 :: Value.str (Str.ofString "=B8") 1075 :: Value.str (Str.ofString "=B9") 1079 :: Value.str (Str.ofString "=BA") 1083 :: Value.str (Str.ofString "=BB") 1087 :: Value.str (Str.ofString "=BC") 1091 :: Value.str (Str.ofString "=BD") 1095 :: Value.str (Str.ofString "=BE") 1099 :: Value.str (Str.ofString "=BF") 1103 :: Value.str (Str.ofString "=C0") 1107 :: Value.str (Str.ofString "=C1") 1111 :: Value.str (Str.ofString "=C2") 1115 :: Value.str (Str.ofString "=C3") 1119 :: Value.str (Str.ofString "=C4") 1123 :: Value.str (Str.ofString "=C5") 1127 :: Value.str (Str.ofString "=C6") 1131 :: Value.str (Str.ofString "=C7") 1135 :: Value.str (Str.ofString "=C8") 1139 :: Value.str (Str.ofString "=C9") 1143 :: Value.str (Str.ofString "=CA") 1147 :: Value.str (Str.ofString "=CB") 1151 :: Value.str (Str.ofString "=CC") 1155 :: Value.str (Str.ofString "=CD") 1159 :: Value.str (Str.ofString "=CE") 1163 :: Value.str (Str.ofString "=CF") 1167 :: Value.str (Str.ofString "=D0") 1171 :: Value.str (Str.ofString "=D1") 1175 :: Value.str (Str.ofString "=D2") 1179 :: Value.str (Str.ofString "=D3") 1183 :: Value.str (Str.ofString "=D4") 1187 :: Value.str (Str.ofString "=D5") 1191 :: Value.str (Str.ofString "=D6") 1195 :: Value.str (Str.ofString "=D7") 1199 :: Value.str (Str.ofString "=D8") 1203 :: Value.str (Str.ofString "=D9") 1207 :: Value.str (Str.ofString "=DA") 1211 :: Value.str (Str.ofString "=DB") 1215 :: Value.str (Str.ofString "=DC") 1219 :: Value.str (Str.ofString "=DD") 1223 :: Value.str (Str.ofString "=DE") 1227 :: Value.str (Str.ofString "=DF") 1231 :: Value.str (Str.ofString "=E0") 1235 :: Value.str (Str.ofString "=E1") 1239 :: Value.str (Str.ofString "=E2") 1243 :: Value.str (Str.ofString "=E3") 1247 :: Value.str (Str.ofString "=E4") 1251 :: Value.str (Str.ofString "=E5") 1255 :: Value.str (Str.ofString "=E6") 1259 :: Value.str (Str.ofString "=E7") 1263 :: Value.str (Str.ofString "=E8") 1267 :: Value.str (Str.ofString "=E9") 1271 :: Value.str (Str.ofString "=EA") 1275 :: Value.str (Str.ofString "=EB") 1279 :: Value.str (Str.ofString "=EC") 1283 :: Value.str (Str.ofString "=ED") 1287 :: Value.str (Str.ofString "=EE") 1291 :: Value.str (Str.ofString "=EF") 1295 :: Value.str (Str.ofString "=F0") 1299 :: Value.str (Str.ofString "=F1") 1303 :: Value.str (Str.ofString "=F2") 1307 :: Value.str (Str.ofString "=F3") 1311 :: Value.str (Str.ofString "=F4") 1315 :: Value.str (Str.ofString "=F5") 1319 :: Value.str (Str.ofString "=F6") 1323 :: Value.str (Str.ofString "=F7") 1327 :: Value.str (Str.ofString "=F8") 1331 :: Value.str (Str.ofString "=F9") 1335 :: Value.str (Str.ofString "=FA") 1339 :: Value.str (Str.ofString "=FB") 1343 :: Value.str (Str.ofString "=FC") 1347 :: Value.str (Str.ofString "=FD") 1351 :: Value.str (Str.ofString "=FE") 1355 :: Value.str (Str.ofString "=FF") 1359 :: []))) #[]
noncomputable def ob82 (_ : Params) : Obj := Obj.mk (Value.type "bytes_iterator") none (Data.fields #[Value.none, Value.int 95 0]) #[]
noncomputable def ob83 (_ : Params) : Obj := Obj.mk (Value.type "StopIteration") none (Data.fields #[Value.ref 58, Value.none, Value.none, Value.none, Value.bool false, Value.none]) #[]
noncomputable def ob84 (P : Params) : Obj := Obj.mk (Value.type "dict") none (Data.dict #[DictEntry.mk (PyData.keyHash P (Str.ofString "__name__")) (Value.str (Str.ofString "__name__") 165) (Value.str (Str.ofString "law_nb0210_01") 1955), DictEntry.mk (PyData.keyHash P (Str.ofString "__doc__")) (Value.str (Str.ofString "__doc__") 166) Value.none, DictEntry.mk (PyData.keyHash P (Str.ofString "__package__")) (Value.str (Str.ofString "__package__") 167) Value.none, DictEntry.mk (PyData.keyHash P (Str.ofString "__loader__")) (Value.str (Str.ofString "__loader__") 168) (Value.builtin "__main__.__loader__#opaque"), DictEntry.mk (PyData.keyHash P (Str.ofString "__spec__")) (Value.str (Str.ofString "__spec__") 169) Value.none, DictEntry.mk (PyData.keyHash P (Str.ofString "__annotations__")) (Value.str (Str.ofString "__annotations__") 170) (Value.ref 6), DictEntry.mk (PyData.keyHash P (Str.ofString "__builtins__")) (Value.str (Str.ofString "__builtins__") 171) (Value.ref 4), DictEntry.mk (PyData.keyHash P (Str.ofString "__file__")) (Value.str (Str.ofString "__file__") 173) (Value.str (Str.ofString "/claim/cut.py") 172), DictEntry.mk (PyData.keyHash P (Str.ofString "__cached__")) (Value.str (Str.ofString "__cached__") 174) Value.none, DictEntry.mk (PyData.keyHash P (Str.ofString "_sre")) (Value.str (Str.ofString "_sre") 275) (Value.ref 12), DictEntry.mk (PyData.keyHash P (Str.ofString "_strip_padding")) (Value.str (Str.ofString "_strip_padding") 293) (Value.ref 38), DictEntry.mk (PyData.keyHash P (Str.ofString "_twin_re_1")) (Value.str (Str.ofString "_twin_re_1") 328) (Value.ref 43), DictEntry.mk (PyData.keyHash P (Str.ofString "CRLF")) (Value.str (Str.ofString "CRLF") 330) (Value.str (Str.ofString "\x0d\n") 329), DictEntry.mk (PyData.keyHash P (Str.ofString "NL")) (Value.str (Str.ofString "NL") 332) (Value.str (Str.ofString "\n") 331), DictEntry.mk (PyData.keyHash P (Str.ofString "_QUOPRI_MAP")) (Value.str (Str.ofString "_QUOPRI_MAP") 1360) (Value.ref 46), DictEntry.mk (PyData.keyHash P (Str.ofString "_QUOPRI_HEADER_MAP")) (Value.str (Str.ofString "_QUOPRI_HEADER_MAP") 1361) (Value.ref 51), DictEntry.mk (PyData.keyHash P (Str.ofString "_QUOPRI_BODY_MAP")) (Value.str (Str.ofString "_QUOPRI_BODY_MAP") 1362) (Value.ref 53), DictEntry.mk (PyData.keyHash P (Str.ofString "ascii_lowercase")) (Value.str (Str.ofString "ascii_lowercase") 1364) (Value.str (Str.ofString "abcdefghijklmnopqrstuvwxyz") 1363), DictEntry.mk (PyData.keyHash P (Str.ofString "ascii_uppercase")) (Value.str (Str.ofString "ascii_uppercase") 1366) (Value.str (Str.ofString "ABCDEFGHIJKLMNOPQRSTUVWXYZ") 1365), DictEntry.mk (PyData.keyHash P (Str.ofString "ascii_letters")) (Value.str (Str.ofString "ascii_letters") 1368) (Value.str (Str.ofString "abcdefghijklmnopqrstuvwxyzABCDEFGHIJKLMNOPQRSTUVWXYZ") 1367), DictEntry.mk (PyData.keyHash P (Str.ofString "digits")) (Value.str (Str.ofString "digits") 1370) (Value.str (Str.ofString "0123456789") 1369), DictEntry.mk (PyData.keyHash P (Str.ofString "hexdigits")) (Value.str (Str.ofString "hexdigits") 1375) (Value.str (Str.ofString "0123456789abcdefABCDEF") 1374), DictEntry.mk (PyData.keyHash P (Str.ofString "unquote")) (Value.str (Str.ofString "unquote") 1881) (Value.ref 66), DictEntry.mk (PyData.keyHash P (Str.ofString "quote")) (Value.str (Str.ofString "quote") 1888) (Value.ref 73), DictEntry.mk (PyData.keyHash P (Str.ofString "header_encode")) (Value.str (Str.ofString "header_encode") 1898) (Value.ref 81), DictEntry.mk (PyData.keyHash P (Str.ofString "_QUOPRI_BODY_ENCODE_MAP")) (Value.str (Str.ofString "_QUOPRI_BODY_ENCODE_MAP") 1899) (Value.ref 83), DictEntry.mk (PyData.keyHash P (Str.ofString "body_encode")) (Value.str (Str.ofString "body_encode") 1926) (Value.ref 94), DictEntry.mk (PyData.keyHash P (Str.ofString "decode")) (Value.str (Str.ofString "decode") 1939) (Value.ref 102), DictEntry.mk (PyData.keyHash P (Str.ofString "_unquote_match")) (Value.str (Str.ofString "_unquote_match") 1947) (Value.ref 109), DictEntry.mk (PyData.keyHash P (Str.ofString "header_decode")) (Value.str (Str.ofString "header_decode") 1954) (Value.ref 116), DictEntry.mk (PyData.keyHash P (Str.ofString "_law_field")) (Value.str (Str.ofString "_law_field") 1962) (Value.ref 121), DictEntry.mk (PyData.keyHash P (Str.ofString "_law_left")) (Value.str (Str.ofString "_law_left") 1974) (Value.ref 128), DictEntry.mk (PyData.keyHash P (Str.ofString "_law_header")) (Value.str (Str.ofString "_law_header") 1980) (Value.ref 133), DictEntry.mk (PyData.keyHash P (Str.ofString "_law_body")) (Value.str (Str.ofString "_law_body") 1987) (Value.ref 140), DictEntry.mk (PyData.keyHash P (Str.ofString "law")) (Value.str (Str.ofString "law") 2004) (Value.ref 147)] 37) #[]
noncomputable def ob85 (_ : Params) : Obj := Obj.mk Value.none none (Data.fields #[Value.int 3 0, Value.int 0 0, Value.ref 37, Value.int 30 0, Value.int 0 0, Value.ref 65, Value.int 32 0, Value.int 0 0, Value.ref 72, Value.int 34 0, Value.int 0 0, Value.ref 80, Value.int 43 0, Value.int 0 0, Value.ref 93, Value.int 81 0, Value.int 0 0, Value.ref 101, Value.int 111 0, Value.int 0 0, Value.ref 108, Value.int 114 0, Value.int 0 0, Value.ref 115, Value.int 118 0, Value.int 0 0, Value.ref 120, Value.int 122 0, Value.int 0 0, Value.ref 127, Value.int 126 0, Value.int 0 0, Value.ref 132, Value.int 129 0, Value.int 0 0, Value.ref 139, Value.int 131 0, Value.int 0 0, Value.ref 146]) #[]
noncomputable def ob86 (_ : Params) : Obj := Obj.mk (Value.type "tuple") none (Data.seq #[Value.str (Str.ofString "s") 1878]) #[]
noncomputable def ob87 (_ : Params) : Obj := Obj.mk Value.none none (Data.func (FuncData.mk (Str.ofString "unquote") (Str.ofString "unquote") (prm 18) (FuncBody.stmts (bdy 18)) (scp 18) 0 [] Value.none Value.none Value.none Value.none none Value.none Value.none 0)) #[]
noncomputable def ob88 (_ : Params) : Obj := Obj.mk (Value.type "code") none (Data.fields #[Value.str (Str.ofString "unquote") 1875, Value.str (Str.ofString "unquote") 1876, Value.str (Str.ofString "/claim/cut.py") 1877, Value.int 30 0, Value.int 1 0, Value.int 0 0, Value.int 0 0, Value.int 3 0, Value.ref 60, Value.bool true, Value.int 276 0, Value.ref 61, Value.none, Value.ref 62, Value.ref 63, Value.ref 64, Value.int 1879 0, Value.int 30 0, Value.str (Str.ofString "/claim/cut.py") 1880]) #[]
noncomputable def ob89 (_ : Params) : Obj := Obj.mk (Value.type "function") none (Data.func (FuncData.mk (Str.ofString "unquote") (Str.ofString "unquote") (prm 18) (FuncBody.stmts (bdy 18)) (scp 18) 3 [] Value.none Value.none Value.none (Value.str (Str.ofString "cpy313.email.quoprimime") 1376) none (Value.ref 65) Value.none 0)) #[]
noncomputable def ob90 (_ : Params) : Obj := Obj.mk (Value.type "tuple") none (Data.seq #[Value.str (Str.ofString "c") 1885]) #[]
noncomputable def ob91 (_ : Params) : Obj := Obj.mk Value.none none (Data.func (FuncData.mk (Str.ofString "quote") (Str.ofString "quote") (prm 19) (FuncBody.stmts (bdy 19)) (scp 19) 0 [] Value.none Value.none Value.none Value.none none Value.none Value.none 0)) #[]
noncomputable def ob92 (_ : Params) : Obj := Obj.mk (Value.type "code") none (Data.fields #[Value.str (Str.ofString "quote") 1882, Value.str (Str.ofString "quote") 1883, Value.str (Str.ofString "/claim/cut.py") 1884, Value.int 32 0, Value.int 1 0, Value.int 0 0, Value.int 0 0, Value.int 3 0, Value.ref 67, Value.bool true, Value.int 276 0, Value.ref 68, Value.none, Value.ref 69, Value.ref 70, Value.ref 71, Value.int 1886 0, Value.int 32 0, Value.str (Str.ofString "/claim/cut.py") 1887]) #[]
noncomputable def ob93 (_ : Params) : Obj := Obj.mk (Value.type "function") none (Data.func (FuncData.mk (Str.ofString "quote") (Str.ofString "quote") (prm 19) (FuncBody.stmts (bdy 19)) (scp 19) 3 [] Value.none Value.none Value.none (Value.str (Str.ofString "cpy313.email.quoprimime") 1376) none (Value.ref 72) Value.none 0)) #[]
noncomputable def ob94 (_ : Params) : Obj := Obj.mk (Value.type "tuple") none (Data.seq #[Value.str (Str.ofString "iso-8859-1") 1889]) #[]
noncomputable def ob95 (_ : Params) : Obj := Obj.mk (Value.type "tuple") none (Data.seq #[Value.str (Str.ofString "header_bytes") 1893, Value.str (Str.ofString "charset") 1894, Value.str (Str.ofString "encoded") 1895]) #[]
noncomputable def ob96 (_ : Params) : Obj := Obj.mk Value.none none (Data.func (FuncData.mk (Str.ofString "header_encode") (Str.ofString "header_encode") (prm 20) (FuncBody.stmts (bdy 20)) (scp 20) 0 [] Value.none Value.none Value.none Value.none none Value.none Value.none 0)) #[]
noncomputable def ob97 (_ : Params) : Obj := Obj.mk (Value.type "code") none (Data.fields #[Value.str (Str.ofString "header_encode") 1890, Value.str (Str.ofString "header_encode") 1891, Value.str (Str.ofString "/claim/cut.py") 1892, Value.int 34 0, Value.int 2 0, Value.int 0 0, Value.int 0 0, Value.int 3 0, Value.ref 75, Value.bool true, Value.int 276 0, Value.ref 76, Value.none, Value.ref 77, Value.ref 78, Value.ref 79, Value.int 1896 0, Value.int 34 0, Value.str (Str.ofString "/claim/cut.py") 1897]) #[]
noncomputable def ob98 (_ : Params) : Obj := Obj.mk (Value.type "function") none (Data.func (FuncData.mk (Str.ofString "header_encode") (Str.ofString "header_encode") (prm 20) (FuncBody.stmts (bdy 20)) (scp 20) 3 [] (Value.ref 74) Value.none Value.none (Value.str (Str.ofString "cpy313.email.quoprimime") 1376) none (Value.ref 80) Value.none 0)) #[]
noncomputable def ob99 (P : Params) : Obj := Obj.mk (Value.type "list") none (Data.seq (List.toArray (Value.str (Str.ofString "=00") 339 :: Value.str (Str.ofString "=01") 343 :: Value.str (Str.ofString "=02") 347 :: Value.str (Str.ofString "=03") 351 :: Value.str (Str.ofString "=04") 355 :: Value.str (Str.ofString "=05") 359 :: Value.str (Str.ofString "=06") 363 :: Value.str (Str.ofString "=07") 367 :: Value.str (Str.ofString "=08") 371 :: Value.str (Str.ofString "\t") 1874 :: Value.str (Str.ofString "\n") 1906 :: Value.str (Str.ofString "=0B") 383 :: Value.str (Str.ofString "=0C") 387 :: Value.str (Str.ofString "\x0d") 1903 :: Value.str (Str.ofString "=0E") 395 :: Value.str (Str.ofString "=0F") 399 :: Value.str (Str.ofString "=10") 403 :: Value.str (Str.ofString "=11") 407 :: Value.str (Str.ofString "=12") 411 :: Value.str (Str.ofString "=13") 415 :: Value.str (Str.ofString "=14") 419 :: Value.str (Str.ofString "=15") 423 :: Value.str (Str.ofString "=16") 427 :: Value.str (Str.ofString "=17") 431 :: Value.str (Str.ofString "=18") 435 :: Value.str (Str.ofString "=19") 439 :: Value.str (Str.ofString "=1A") 443 :: Value.str (Str.ofString "=1B") 447 :: Value.str (Str.ofString "=1C") 451 :: Value.str (Str.ofString "=1D") 455 :: Value.str (Str.ofString "=1E") 459 :: Value.str (Str.ofString "=1F") 463 :: Value.str (Str.ofString " ") 1592 :: Value.str (Str.ofString "!") 1595 :: Value.str (Str.ofString "\"") 1598 :: Value.str (Str.ofString "#") 1601 :: Value.str (Str.ofString "$") 1604 :: Value.str (Str.ofString "%") 1607 :: Value.str (Str.ofString "&") 1610 :: Value.str (Str.ofString "'") 1613 :: Value.str (Str.ofString "(") 1616 :: Value.str (Str.ofString ")") 1619 :: Value.str (Str.ofString "*") 1622 :: Value.str (Str.ofString "+") 1625 :: Value.str (Str.ofString ",") 1628 :: Value.str (Str.ofString "-") 1631 :: Value.str (Str.ofString ".") 1634 :: Value.str (Str.ofString "/") 1637 :: Value.str (Str.ofString "0") 1640 :: Value.str (Str.ofString "1") 1643 :: Value.str (Str.ofString "2") 1646 :: Value.str (Str.ofString "3") 1649 :: Value.str (Str.ofString "4") 1652 :: Value.str (Str.ofString "5") 1655 :: Value.str (Str.ofString "6") 1658 :: Value.str (Str.ofString "7") 1661 :: Value.str (Str.ofString "8") 1664 :: Value.str (Str.ofString "9") 1667 :: Value.str (Str.ofString ":") 1670 :: Value.str (Str.ofString ";") 1673 :: Value.str (Str.ofString "<") 1676 :: Value.str (Str.ofString "=3D") 583 :: Value.str (Str.ofString ">") 1679 :: Value.str (Str.ofString "?") 1682 :: Value.str (Str.ofString "@") 1685 :: Value.str (Str.ofString "A") 1688 :: Value.str (Str.ofString "B") 1691 :: Value.str (Str.ofString "C") 1694 :: Value.str (Str.ofString "D") 1697 :: Value.str (Str.ofString "E") 1700 :: Value.str (Str.ofString "F") 1703 :: Value.str (Str.ofString "G") 1706 :: Value.str (Str.ofString "H") 1709 :: Value.str (Str.ofString "I") 1712 :: Value.str (Str.ofString "J") 1715 :: Value.str (Str.ofString "K") 1718 :: Value.str (Str.ofString "L") 1721 :: Value.str (Str.ofString "M") 1724 :: Value.str (Str.ofString "N") 1727 :: Value.str (Str.ofString "O") 1730 :: Value.str (Str.ofString "P") 1733 :: Value.str (Str.ofString "Q") 1736 :: Value.str (Str.ofString "R") 1739 :: Value.str (Str.ofString "S") 1742 :: Value.str (Str.ofString "T") 1745 :: Value.str (Str.ofString "U") 1748 :: Value.str (Str.ofString "V") 1751 :: Value.str (Str.ofString "W") 1754 :: Value.str (Str.ofString "X") 1757 :: Value.str (Str.ofString "Y") 1760 :: Value.str (Str.ofString "Z") 1763 :: Value.str (Str.ofString "[") 1766 :: Value.str (Str.ofString "\\") 1769 :: Value.str (Str.ofString "]") 1772 :: Value.str (Str.ofString "^") 1775 :: Value.str (Str.ofString "_") 1778 :: Value.str (Str.ofString "`") 1781 :: Value.str (Str.ofString "a") 1784 :: Value.str (Str.ofString "b") 1787 :: Value.str (Str.ofString "c") 1790 :: Value.str (Str.ofString "d") 1793 :: Value.str (Str.ofString "e") 1796 :: Value.str (Str.ofString "f") 1799 :: Value.str (Str.ofString "g") 1802 :: Value.str (Str.ofString "h") 1805 :: Value.str (Str.ofString "i") 1808 :: Value.str (Str.ofString "j") 1811 :: Value.str (Str.ofString "k") 1814 :: Value.str (Str.ofString "l") 1817 :: Value.str (Str.ofString "m") 1820 :: Value.str (Str.ofString "n") 1823 :: Value.str (Str.ofString "o") 1826 :: Value.str (Str.ofString "p") 1829 :: Value.str (Str.ofString "q") 1832 :: Value.str (Str.ofString "r") 1835 :: Value.str (Str.ofString "s") 1838 :: Value.str (Str.ofString "t") 1841 :: Value.str (Str.ofString "u") 1844 :: Value.str (Str.ofString "v") 1847 :: Value.str (Str.ofString "w") 1850 :: Value.str (Str.ofString "x") 1853 :: Value.str (Str.ofString "y") 1856 :: Value.str (Str.ofString "z") 1859 :: Value.str (Str.ofString "{") 1862 :: Value.str (Str.ofString "|") 1865 :: Value.str (Str.ofString "}") 1868 :: Value.str (Str.ofString "~") 1871 :: Value.str (Str.ofString "=7F") 847 :: Value.str (Str.ofString "=80") 851 :: Value.str (Str.ofString "=81") 855 :: Value.str (Str.ofString "=82") 859 :: Value.str (Str.ofString "=83") 863 :: Value.str (Str.ofString "=84") 867 :: Value.str (Str.ofString "=85") 871 :: Value.str (Str.ofString "=86") 875 :: Value.str (Str.ofString "=87") 879 :: Value.str (Str.ofString "=88") 883 :: Value.str (Str.ofString "=89") 887 :: Value.str (Str.ofString "=8A") 891 :: Value.str (Str.ofString "=8B") 895 :: Value.str (Str.ofString "=8C") 899 :: Value.str (Str.ofString "=8D") 903 :: Value.str (Str.ofString "=8E") 907 :: Value.str (Str.ofString "=8F") 911 :: Value.str (Str.ofString "=90") 915 :: Value.str (Str.ofString "=91") 919 :: Value.str (Str.ofString "=92") 923 :: Value.str (Str.ofString "=93") 927 :: Value.str (Str.ofString "=94") 931 :: Value.str (Str.ofString "=95") 935 :: Value.str (Str.ofString "=96") 939 :: Value.str (Str.ofString "=97") 943 :: Value.str (Str.ofString "=98") 947 :: Value.str (Str.ofString "=99") 951 :: Value.str (Str.ofString "=9A") 955 :: Value.str (Str.ofString "=9B") 959 :: Value.str (Str.ofString "=9C") 963 :: Value.str (Str.ofString "=9D") 967 :: Value.str (Str.ofString "=9E") 971 :: Value.str (Str.ofString "=9F") 975 :: Value.str (Str.ofString "=A0") 979 :: Value.str (Str.ofString "=A1") 983 :: Value.str (Str.ofString "=A2") 987 :: Value.str (Str.ofString "=A3") 991 :: Value.str (Str.ofString "=A4") 995 :: Value.str (Str.ofString "=A5") 999 :: Value.str (Str.ofString "=A6") 1003 :: Value.str (Str.ofString "=A7") 1007 :: Value.str (Str.ofString "=A8") 1011 :: Value.str (Str.ofString "=A9") 1015 :: Value.str (Str.ofString "=AA") 1019 :: Value.str (Str.ofString "=AB") 1023 :: Value.str (Str.ofString "=AC") 1027 :: Value.str (Str.ofString "=AD") 1031 :: Value.str (Str.ofString "=AE") 1035 :: Value.str (Str.ofString "=AF") 1039 :: Value.str (Str.ofString "=B0") 1043 :: Value.str (Str.ofString "=B1") 1047 :: Value.str (Str.ofString "=B2") 1051 :: Value.str (Str.ofString "=B3") 1055 :: Value.str (Str.ofString "=B4") 1059 :: Value.str (Str.ofString "=B5") 1063 :: Value.str (Str.ofString "=B6") 1067 :: Value.str (Str.ofString "=B7") 1071 :: Value.str (Str.ofString "=B8") 1075 :: Value.str (Str.ofString "=B9") 1079 :: Value.str (Str.ofString "=BA") 1083 :: Value.str (Str.ofString "=BB") 1087 :: Value.str (Str.ofString "=BC") 1091 :: Value.str (Str.ofString "=BD") 1095 :: Value.str (Str.ofString "=BE") 1099 :: Value.str (Str.ofString "=BF") 1103 :: Value.str (Str.ofString "=C0") 1107 :: Value.str (Str.ofString "=C1") 1111 :: Value.str (Str.ofString "=C2") 1115 :: Value.str (Str.ofString "=C3") 1119 :: Value.str (Str.ofString "=C4") 1123 :: Value.str (Str.ofString "=C5") 1127 :: Value.str (Str.ofString "=C6") 1131 :: Value.str (Str.ofString "=C7") 1135 :: Value.str (Str.ofString "=C8") 1139 :: Value.str (Str.ofString "=C9") 1143 :: Value.str (Str.ofString "=CA") 1147 :: Value.str (Str.ofString "=CB") 1151 :: Value.str (Str.ofString "=CC") 1155 :: Value.str (Str.ofString "=CD") 1159 :: Value.str (Str.ofString "=CE") 1163 :: Value.str (Str.ofString "=CF") 1167 :: Value.str (Str.ofString "=D0") 1171 :: Value.str (Str.ofString "=D1") 1175 :: Value.str (Str.ofString "=D2") 1179 :: Value.str (Str.ofString "=D3") 1183 :: Value.str (Str.ofString "=D4") 1187 :: Value.str (Str.ofString "=D5") 1191 :: Value.str (Str.ofString "=D6") 1195 :: Value.str (Str.ofString "=D7") 1199 :: Value.str (Str.ofString "=D8") 1203 :: Value.str (Str.ofString "=D9") 1207 :: Value.str (Str.ofString "=DA") 1211 :: Value.str (Str.ofString "=DB") 1215 :: Value.str (Str.ofString "=DC") 1219 :: Value.str (Str.ofString "=DD") 1223 :: Value.str (Str.ofString "=DE") 1227 :: Value.str (Str.ofString "=DF") 1231 :: Value.str (Str.ofString "=E0") 1235 :: Value.str (Str.ofString "=E1") 1239 :: Value.str (Str.ofString "=E2") 1243 :: Value.str (Str.ofString "=E3") 1247 :: Value.str (Str.ofString "=E4") 1251 :: Value.str (Str.ofString "=E5") 1255 :: Value.str (Str.ofString "=E6") 1259 :: Value.str (Str.ofString "=E7") 1263 :: Value.str (Str.ofString "=E8") 1267 :: Value.str (Str.ofString "=E9") 1271 :: Value.str (Str.ofString "=EA") 1275 :: Value.str (Str.ofString "=EB") 1279 :: Value.str (Str.ofString "=EC") 1283 :: Value.str (Str.ofString "=ED") 1287 :: Value.str (Str.ofString "=EE") 1291 :: Value.str (Str.ofString "=EF") 1295 :: Value.str (Str.ofString "=F0") 1299 :: Value.str (Str.ofString "=F1") 1303 :: Value.str (Str.ofString "=F2") 1307 :: Value.str (Str.ofString "=F3") 1311 :: Value.str (Str.ofString "=F4") 1315 :: Value.str (Str.ofString "=F5") 1319 :: Value.str (Str.ofString "=F6") 1323 :: Value.str (Str.ofString "=F7") 1327 :: Value.str (Str.ofString "=F8") 1331 :: Value.str (Str.ofString "=F9") 1335 :: Value.str (Str.ofString "=FA") 1339 :: Value.str (Str.ofString "=FB") 1343 :: Value.str (Str.ofString "=FC") 1347 :: Value.str (Str.ofString "=FD") 1351 :: Value.str (Str.ofString "=FE") 1355 :: Value.str (Str.ofString "=FF") 1359 :: []))) #[]
noncomputable def ob100 (_ : Params) : Obj := Obj.mk (Value.type "bytes_iterator") none (Data.fields #[Value.none, Value.int 2 0]) #[]
noncomputable def ob101 (_ : Params) : Obj := Obj.mk (Value.type "StopIteration") none (Data.fields #[Value.ref 85, Value.none, Value.none, Value.none, Value.bool false, Value.none]) #[]
noncomputable def ob102 (_ : Params) : Obj := Obj.mk (Value.type "tuple") none (Data.seq #[Value.int 76 1907, Value.str (Str.ofString "\n") 331]) #[]
noncomputable def ob103 (_ : Params) : Obj := Obj.mk (Value.type "tuple") none (Data.seq #[Value.str (Str.ofString "body") 1911, Value.str (Str.ofString "maxlinelen") 1912, Value.str (Str.ofString "eol") 1913, Value.str (Str.ofString "soft_break") 1914, Value.str (Str.ofString "maxlinelen1") 1915, Value.str (Str.ofString "encoded_body") 1916, Value.str (Str.ofString "append") 1917, Value.str (Str.ofString "line") 1918, Value.str (Str.ofString "start") 1919, Value.str (Str.ofString "laststart") 1920, Value.str (Str.ofString "stop") 1921, Value.str (Str.ofString "room") 1922, Value.str (Str.ofString "q") 1923]) #[]
noncomputable def ob104 (_ : Params) : Obj := Obj.mk Value.none none (Data.func (FuncData.mk (Str.ofString "body_encode") (Str.ofString "body_encode") (prm 24) (FuncBody.stmts (bdy 24)) (scp 24) 0 [] Value.none Value.none Value.none Value.none none Value.none Value.none 0)) #[]
noncomputable def ob105 (_ : Params) : Obj := Obj.mk (Value.type "code") none (Data.fields #[Value.str (Str.ofString "body_encode") 1908, Value.str (Str.ofString "body_encode") 1909, Value.str (Str.ofString "/claim/cut.py") 1910, Value.int 43 0, Value.int 3 0, Value.int 0 0, Value.int 0 0, Value.int 3 0, Value.ref 88, Value.bool true, Value.int 276 0, Value.ref 89, Value.none, Value.ref 90, Value.ref 91, Value.ref 92, Value.int 1924 0, Value.int 43 0, Value.str (Str.ofString "/claim/cut.py") 1925]) #[]
noncomputable def ob106 (_ : Params) : Obj := Obj.mk (Value.type "function") none (Data.func (FuncData.mk (Str.ofString "body_encode") (Str.ofString "body_encode") (prm 24) (FuncBody.stmts (bdy 24)) (scp 24) 3 [] (Value.ref 87) Value.none Value.none (Value.str (Str.ofString "cpy313.email.quoprimime") 1376) none (Value.ref 93) Value.none 0)) #[]
noncomputable def ob107 (_ : Params) : Obj := Obj.mk (Value.type "tuple") none (Data.seq #[Value.str (Str.ofString "\n") 331]) #[]
noncomputable def ob108 (_ : Params) : Obj := Obj.mk (Value.type "tuple") none (Data.seq #[Value.str (Str.ofString "encoded") 1930, Value.str (Str.ofString "eol") 1931, Value.str (Str.ofString "decoded") 1932, Value.str (Str.ofString "line") 1933, Value.str (Str.ofString "i") 1934, Value.str (Str.ofString "n") 1935, Value.str (Str.ofString "c") 1936]) #[]
noncomputable def ob109 (_ : Params) : Obj := Obj.mk Value.none none (Data.func (FuncData.mk (Str.ofString "decode") (Str.ofString "decode") (prm 25) (FuncBody.stmts (bdy 25)) (scp 25) 0 [] Value.none Value.none Value.none Value.none none Value.none Value.none 0)) #[]
noncomputable def ob110 (_ : Params) : Obj := Obj.mk (Value.type "code") none (Data.fields #[Value.str (Str.ofString "decode") 1927, Value.str (Str.ofString "decode") 1928, Value.str (Str.ofString "/claim/cut.py") 1929, Value.int 81 0, Value.int 2 0, Value.int 0 0, Value.int 0 0, Value.int 3 0, Value.ref 96, Value.bool true, Value.int 276 0, Value.ref 97, Value.none, Value.ref 98, Value.ref 99, Value.ref 100, Value.int 1937 0, Value.int 81 0, Value.str (Str.ofString "/claim/cut.py") 1938]) #[]
noncomputable def ob111 (_ : Params) : Obj := Obj.mk (Value.type "function") none (Data.func (FuncData.mk (Str.ofString "decode") (Str.ofString "decode") (prm 25) (FuncBody.stmts (bdy 25)) (scp 25) 3 [] (Value.ref 95) Value.none Value.none (Value.str (Str.ofString "cpy313.email.quoprimime") 1376) none (Value.ref 101) Value.none 0)) #[]
noncomputable def ob112 (_ : Params) : Obj := Obj.mk (Value.type "tuple") none (Data.seq #[Value.str (Str.ofString "match") 1943, Value.str (Str.ofString "s") 1944]) #[]
noncomputable def ob113 (_ : Params) : Obj := Obj.mk Value.none none (Data.func (FuncData.mk (Str.ofString "_unquote_match") (Str.ofString "_unquote_match") (prm 26) (FuncBody.stmts (bdy 26)) (scp 26) 0 [] Value.none Value.none Value.none Value.none none Value.none Value.none 0)) #[]
noncomputable def ob114 (_ : Params) : Obj := Obj.mk (Value.type "code") none (Data.fields #[Value.str (Str.ofString "_unquote_match") 1940, Value.str (Str.ofString "_unquote_match") 1941, Value.str (Str.ofString "/claim/cut.py") 1942, Value.int 111 0, Value.int 1 0, Value.int 0 0, Value.int 0 0, Value.int 3 0, Value.ref 103, Value.bool true, Value.int 276 0, Value.ref 104, Value.none, Value.ref 105, Value.ref 106, Value.ref 107, Value.int 1945 0, Value.int 111 0, Value.str (Str.ofString "/claim/cut.py") 1946]) #[]
noncomputable def ob115 (_ : Params) : Obj := Obj.mk (Value.type "function") none (Data.func (FuncData.mk (Str.ofString "_unquote_match") (Str.ofString "_unquote_match") (prm 26) (FuncBody.stmts (bdy 26)) (scp 26) 3 [] Value.none Value.none Value.none (Value.str (Str.ofString "cpy313.email.quoprimime") 1376) none (Value.ref 108) Value.none 0)) #[]
noncomputable def ob116 (_ : Params) : Obj := Obj.mk (Value.type "tuple") none (Data.seq #[Value.str (Str.ofString "s") 1951]) #[]
noncomputable def ob117 (_ : Params) : Obj := Obj.mk Value.none none (Data.func (FuncData.mk (Str.ofString "header_decode") (Str.ofString "header_decode") (prm 27) (FuncBody.stmts (bdy 27)) (scp 27) 0 [] Value.none Value.none Value.none Value.none none Value.none Value.none 0)) #[]
noncomputable def ob118 (_ : Params) : Obj := Obj.mk (Value.type "code") none (Data.fields #[Value.str (Str.ofString "header_decode") 1948, Value.str (Str.ofString "header_decode") 1949, Value.str (Str.ofString "/claim/cut.py") 1950, Value.int 114 0, Value.int 1 0, Value.int 0 0, Value.int 0 0, Value.int 3 0, Value.ref 110, Value.bool true, Value.int 276 0, Value.ref 111, Value.none, Value.ref 112, Value.ref 113, Value.ref 114, Value.int 1952 0, Value.int 114 0, Value.str (Str.ofString "/claim/cut.py") 1953]) #[]
noncomputable def ob119 (_ : Params) : Obj := Obj.mk (Value.type "function") none (Data.func (FuncData.mk (Str.ofString "header_decode") (Str.ofString "header_decode") (prm 27) (FuncBody.stmts (bdy 27)) (scp 27) 3 [] Value.none Value.none Value.none (Value.str (Str.ofString "cpy313.email.quoprimime") 1376) none (Value.ref 115) Value.none 0)) #[]
noncomputable def ob120 (_ : Params) : Obj := Obj.mk Value.none none (Data.func (FuncData.mk (Str.ofString "_law_field") (Str.ofString "_law_field") (prm 29) (FuncBody.stmts (bdy 29)) (scp 29) 0 [] Value.none Value.none Value.none Value.none none Value.none Value.none 0)) #[]
noncomputable def ob121 (_ : Params) : Obj := Obj.mk (Value.type "code") none (Data.fields #[Value.str (Str.ofString "_law_field") 1957, Value.str (Str.ofString "_law_field") 1958, Value.str (Str.ofString "/claim/cut.py") 1959, Value.int 118 0, Value.int 1 0, Value.int 0 0, Value.int 0 0, Value.int 3 0, Value.ref 117, Value.bool true, Value.int 276 0, Value.ref 118, Value.none, Value.none, Value.none, Value.ref 119, Value.int 1960 0, Value.int 118 0, Value.str (Str.ofString "/claim/cut.py") 1961]) #[]
noncomputable def ob122 (_ : Params) : Obj := Obj.mk (Value.type "function") none (Data.func (FuncData.mk (Str.ofString "_law_field") (Str.ofString "_law_field") (prm 29) (FuncBody.stmts (bdy 29)) (scp 29) 3 [] Value.none Value.none Value.none (Value.str (Str.ofString "law_nb0210_01") 1955) none (Value.ref 120) Value.none 0)) #[]
noncomputable def ob123 (_ : Params) : Obj := Obj.mk (Value.type "tuple") none (Data.seq #[Value.str (Str.ofString "left") 1966, Value.str (Str.ofString "word") 1967, Value.str (Str.ofString "right") 1968, Value.str (Str.ofString "amount") 1969, Value.str (Str.ofString "front") 1970, Value.str (Str.ofString "behind") 1971]) #[]
noncomputable def ob124 (_ : Params) : Obj := Obj.mk Value.none none (Data.func (FuncData.mk (Str.ofString "_law_left") (Str.ofString "_law_left") (prm 30) (FuncBody.stmts (bdy 30)) (scp 30) 0 [] Value.none Value.none Value.none Value.none none Value.none Value.none 0)) #[]
noncomputable def ob125 (_ : Params) : Obj := Obj.mk (Value.type "code") none (Data.fields #[Value.str (Str.ofString "_law_left") 1963, Value.str (Str.ofString "_law_left") 1964, Value.str (Str.ofString "/claim/cut.py") 1965, Value.int 122 0, Value.int 4 0, Value.int 0 0, Value.int 0 0, Value.int 3 0, Value.ref 122, Value.bool true, Value.int 276 0, Value.ref 123, Value.none, Value.ref 124, Value.ref 125, Value.ref 126, Value.int 1972 0, Value.int 122 0, Value.str (Str.ofString "/claim/cut.py") 1973]) #[]
noncomputable def ob126 (_ : Params) : Obj := Obj.mk (Value.type "function") none (Data.func (FuncData.mk (Str.ofString "_law_left") (Str.ofString "_law_left") (prm 30) (FuncBody.stmts (bdy 30)) (scp 30) 3 [] Value.none Value.none Value.none (Value.str (Str.ofString "law_nb0210_01") 1955) none (Value.ref 127) Value.none 0)) #[]
noncomputable def ob127 (_ : Params) : Obj := Obj.mk Value.none none (Data.func (FuncData.mk (Str.ofString "_law_header") (Str.ofString "_law_header") (prm 31) (FuncBody.stmts (bdy 31)) (scp 31) 0 [] Value.none Value.none Value.none Value.none none Value.none Value.none 0)) #[]
noncomputable def ob128 (_ : Params) : Obj := Obj.mk (Value.type "code") none (Data.fields #[Value.str (Str.ofString "_law_header") 1975, Value.str (Str.ofString "_law_header") 1976, Value.str (Str.ofString "/claim/cut.py") 1977, Value.int 126 0, Value.int 1 0, Value.int 0 0, Value.int 0 0, Value.int 3 0, Value.ref 129, Value.bool true, Value.int 276 0, Value.ref 130, Value.none, Value.none, Value.none, Value.ref 131, Value.int 1978 0, Value.int 126 0, Value.str (Str.ofString "/claim/cut.py") 1979]) #[]
noncomputable def ob129 (_ : Params) : Obj := Obj.mk (Value.type "function") none (Data.func (FuncData.mk (Str.ofString "_law_header") (Str.ofString "_law_header") (prm 31) (FuncBody.stmts (bdy 31)) (scp 31) 3 [] Value.none Value.none Value.none (Value.str (Str.ofString "law_nb0210_01") 1955) none (Value.ref 132) Value.none 0)) #[]
noncomputable def ob130 (_ : Params) : Obj := Obj.mk (Value.type "tuple") none (Data.seq #[Value.str (Str.ofString "word") 1984]) #[]
noncomputable def ob131 (_ : Params) : Obj := Obj.mk Value.none none (Data.func (FuncData.mk (Str.ofString "_law_body") (Str.ofString "_law_body") (prm 32) (FuncBody.stmts (bdy 32)) (scp 32) 0 [] Value.none Value.none Value.none Value.none none Value.none Value.none 0)) #[]
noncomputable def ob132 (_ : Params) : Obj := Obj.mk (Value.type "code") none (Data.fields #[Value.str (Str.ofString "_law_body") 1981, Value.str (Str.ofString "_law_body") 1982, Value.str (Str.ofString "/claim/cut.py") 1983, Value.int 129 0, Value.int 1 0, Value.int 0 0, Value.int 0 0, Value.int 3 0, Value.ref 134, Value.bool true, Value.int 276 0, Value.ref 135, Value.none, Value.ref 136, Value.ref 137, Value.ref 138, Value.int 1985 0, Value.int 129 0, Value.str (Str.ofString "/claim/cut.py") 1986]) #[]
noncomputable def ob133 (_ : Params) : Obj := Obj.mk (Value.type "function") none (Data.func (FuncData.mk (Str.ofString "_law_body") (Str.ofString "_law_body") (prm 32) (FuncBody.stmts (bdy 32)) (scp 32) 3 [] Value.none Value.none Value.none (Value.str (Str.ofString "law_nb0210_01") 1955) none (Value.ref 139) Value.none 0)) #[]
noncomputable def ob134 (_ : Params) : Obj := Obj.mk (Value.type "tuple") none (Data.seq #[Value.str (Str.ofString "script") 1991, Value.str (Str.ofString "x") 1992, Value.str (Str.ofString "left") 1993, Value.str (Str.ofString "word") 1994, Value.str (Str.ofString "right") 1995, Value.str (Str.ofString "amount") 1996, Value.str (Str.ofString "text") 1997, Value.str (Str.ofString "due") 1998, Value.str (Str.ofString "inner") 1999, Value.str (Str.ofString "end") 2000, Value.str (Str.ofString "coded") 2001]) #[]
noncomputable def ob135 (_ : Params) : Obj := Obj.mk Value.none none (Data.func (FuncData.mk (Str.ofString "law") (Str.ofString "law") (prm 33) (FuncBody.stmts (bdy 33)) (scp 33) 0 [] Value.none Value.none Value.none Value.none none Value.none Value.none 0)) #[]
noncomputable def ob136 (_ : Params) : Obj := Obj.mk (Value.type "code") none (Data.fields #[Value.str (Str.ofString "law") 1988, Value.str (Str.ofString "law") 1989, Value.str (Str.ofString "/claim/cut.py") 1990, Value.int 131 0, Value.int 1 0, Value.int 0 0, Value.int 0 0, Value.int 3 0, Value.ref 141, Value.bool true, Value.int 276 0, Value.ref 142, Value.none, Value.ref 143, Value.ref 144, Value.ref 145, Value.int 2002 0, Value.int 131 0, Value.str (Str.ofString "/claim/cut.py") 2003]) #[]
noncomputable def ob137 (_ : Params) : Obj := Obj.mk (Value.type "function") none (Data.func (FuncData.mk (Str.ofString "law") (Str.ofString "law") (prm 33) (FuncBody.stmts (bdy 33)) (scp 33) 3 [] Value.none Value.none Value.none (Value.str (Str.ofString "law_nb0210_01") 1955) none (Value.ref 146) Value.none 0)) #[]
def lifeT : Life := (Life.mk [] [] [] 0 [] [] false #[] [] 0 false false false 0 [2000, 10, 10] false 0 true [] [] 0 false)
noncomputable def H0 (P : Params) : Heap := Heap.mk (Array.mk [ob0 P, ob1 P, ob2 P, ob3 P, ob4 P, ob5 P, ob6 P, ob7 P, ob8 P, ob9 P, ob10 P, ob11 P, ob12 P, ob13 P, ob14 P, ob7 P, ob15 P, ob16 P, ob17 P, ob18 P, ob19 P, ob20 P, ob21 P, ob22 P, ob23 P, ob24 P, ob25 P, ob26 P]) lifeT
noncomputable def Ha (P : Params) : Heap := Heap.mk (Array.mk [ob0 P, ob1 P, ob2 P, ob3 P, ob4 P, ob5 P, ob6 P, ob7 P, ob8 P, ob9 P, ob10 P, ob11 P, ob12 P, ob13 P, ob14 P, ob7 P, ob15 P, ob16 P, ob17 P, ob18 P, ob19 P, ob20 P, ob21 P, ob22 P, ob23 P, ob24 P, ob25 P, ob26 P, ob7 P, ob8 P, ob27 P, ob28 P]) lifeT
noncomputable def trB (P : Params) : BT := (.node (ob0 P) (.node (ob1 P) (.node (ob3 P) (.node (ob7 P) (.node (ob7 P) (.node (ob28 P) .nil .nil) .nil) (.node (ob22 P) .nil .nil)) (.node (ob11 P) (.node (ob18 P) .nil .nil) (.node (ob26 P) .nil .nil))) (.node (ob5 P) (.node (ob9 P) (.node (ob16 P) .nil .nil) (.node (ob24 P) .nil .nil)) (.node (ob13 P) (.node (ob20 P) .nil .nil) (.node (ob8 P) .nil .nil)))) (.node (ob2 P) (.node (ob4 P) (.node (ob8 P) (.node (ob15 P) .nil .nil) (.node (ob23 P) .nil .nil)) (.node (ob12 P) (.node (ob19 P) .nil .nil) (.node (ob7 P) .nil .nil))) (.node (ob6 P) (.node (ob10 P) (.node (ob17 P) .nil .nil) (.node (ob25 P) .nil .nil)) (.node (ob14 P) (.node (ob21 P) .nil .nil) (.node (ob27 P) .nil .nil)))))
noncomputable def trA (P : Params) : BT := (.node (ob0 P) (.node (ob1 P) (.node (ob29 P) (.node (ob7 P) (.node (ob7 P) (.node (ob28 P) .nil .nil) .nil) (.node (ob22 P) (.node (ob35 P) .nil .nil) .nil)) (.node (ob11 P) (.node (ob18 P) (.node (ob7 P) .nil .nil) .nil) (.node (ob26 P) (.node (ob38 P) .nil .nil) .nil))) (.node (ob5 P) (.node (ob9 P) (.node (ob16 P) (.node (ob8 P) .nil .nil) .nil) (.node (ob24 P) (.node (ob36 P) .nil .nil) .nil)) (.node (ob13 P) (.node (ob20 P) (.node (ob33 P) .nil .nil) .nil) (.node (ob30 P) .nil .nil)))) (.node (ob2 P) (.node (ob4 P) (.node (ob8 P) (.node (ob15 P) (.node (ob7 P) .nil .nil) .nil) (.node (ob23 P) (.node (ob6 P) .nil .nil) .nil)) (.node (ob12 P) (.node (ob19 P) (.node (ob32 P) .nil .nil) .nil) (.node (ob7 P) .nil .nil))) (.node (ob6 P) (.node (ob10 P) (.node (ob17 P) (.node (ob31 P) .nil .nil) .nil) (.node (ob25 P) (.node (ob37 P) .nil .nil) .nil)) (.node (ob14 P) (.node (ob21 P) (.node (ob34 P) .nil .nil) .nil) (.node (ob27 P) .nil .nil)))))
noncomputable def trC1 (P : Params) : BT := (.node (ob0 P) (.node (ob1 P) (.node (ob29 P) (.node (ob7 P) (.node (ob7 P) (.node (ob28 P) .nil .nil) (.node (ob42 P) .nil .nil)) (.node (ob22 P) (.node (ob35 P) .nil .nil) .nil)) (.node (ob11 P) (.node (ob18 P) (.node (ob7 P) .nil .nil) .nil) (.node (ob26 P) (.node (ob38 P) .nil .nil) .nil))) (.node (ob5 P) (.node (ob9 P) (.node (ob16 P) (.node (ob8 P) .nil .nil) .nil) (.node (ob24 P) (.node (ob36 P) .nil .nil) .nil)) (.node (ob13 P) (.node (ob20 P) (.node (ob33 P) .nil .nil) .nil) (.node (ob30 P) (.node (ob40 P) .nil .nil) .nil)))) (.node (ob2 P) (.node (ob4 P) (.node (ob8 P) (.node (ob15 P) (.node (ob7 P) .nil .nil) .nil) (.node (ob23 P) (.node (ob6 P) .nil .nil) .nil)) (.node (ob12 P) (.node (ob19 P) (.node (ob32 P) .nil .nil) .nil) (.node (ob7 P) (.node (ob39 P) .nil .nil) .nil))) (.node (ob6 P) (.node (ob10 P) (.node (ob17 P) (.node (ob31 P) .nil .nil) .nil) (.node (ob25 P) (.node (ob37 P) .nil .nil) .nil)) (.node (ob14 P) (.node (ob21 P) (.node (ob34 P) .nil .nil) .nil) (.node (ob27 P) (.node (ob41 P) .nil .nil) .nil)))))
noncomputable def trC2 (P : Params) : BT := (.node (ob0 P) (.node (ob1 P) (.node (ob29 P) (.node (ob7 P) (.node (ob7 P) (.node (ob28 P) .nil .nil) (.node (ob45 P) .nil .nil)) (.node (ob22 P) (.node (ob35 P) .nil .nil) .nil)) (.node (ob11 P) (.node (ob18 P) (.node (ob7 P) .nil .nil) .nil) (.node (ob26 P) (.node (ob38 P) .nil .nil) .nil))) (.node (ob5 P) (.node (ob9 P) (.node (ob16 P) (.node (ob8 P) .nil .nil) .nil) (.node (ob24 P) (.node (ob36 P) .nil .nil) .nil)) (.node (ob13 P) (.node (ob20 P) (.node (ob33 P) .nil .nil) .nil) (.node (ob30 P) (.node (ob43 P) .nil .nil) .nil)))) (.node (ob2 P) (.node (ob4 P) (.node (ob8 P) (.node (ob15 P) (.node (ob7 P) .nil .nil) .nil) (.node (ob23 P) (.node (ob6 P) .nil .nil) .nil)) (.node (ob12 P) (.node (ob19 P) (.node (ob32 P) .nil .nil) .nil) (.node (ob7 P) (.node (ob39 P) .nil .nil) .nil))) (.node (ob6 P) (.node (ob10 P) (.node (ob17 P) (.node (ob31 P) .nil .nil) .nil) (.node (ob25 P) (.node (ob37 P) .nil .nil) .nil)) (.node (ob14 P) (.node (ob21 P) (.node (ob34 P) .nil .nil) .nil) (.node (ob27 P) (.node (ob44 P) .nil .nil) .nil)))))
noncomputable def trC3 (P : Params) : BT := (.node (ob0 P) (.node (ob1 P) (.node (ob29 P) (.node (ob7 P) (.node (ob7 P) (.node (ob28 P) .nil .nil) (.node (ob48 P) .nil .nil)) (.node (ob22 P) (.node (ob35 P) .nil .nil) .nil)) (.node (ob11 P) (.node (ob18 P) (.node (ob7 P) .nil .nil) .nil) (.node (ob26 P) (.node (ob38 P) .nil .nil) .nil))) (.node (ob5 P) (.node (ob9 P) (.node (ob16 P) (.node (ob8 P) .nil .nil) .nil) (.node (ob24 P) (.node (ob36 P) .nil .nil) .nil)) (.node (ob13 P) (.node (ob20 P) (.node (ob33 P) .nil .nil) .nil) (.node (ob30 P) (.node (ob46 P) .nil .nil) .nil)))) (.node (ob2 P) (.node (ob4 P) (.node (ob8 P) (.node (ob15 P) (.node (ob7 P) .nil .nil) .nil) (.node (ob23 P) (.node (ob6 P) .nil .nil) .nil)) (.node (ob12 P) (.node (ob19 P) (.node (ob32 P) .nil .nil) .nil) (.node (ob7 P) (.node (ob39 P) .nil .nil) .nil))) (.node (ob6 P) (.node (ob10 P) (.node (ob17 P) (.node (ob31 P) .nil .nil) .nil) (.node (ob25 P) (.node (ob37 P) .nil .nil) .nil)) (.node (ob14 P) (.node (ob21 P) (.node (ob34 P) .nil .nil) .nil) (.node (ob27 P) (.node (ob47 P) .nil .nil) .nil)))))
noncomputable def trC4 (P : Params) : BT := (.node (ob0 P) (.node (ob1 P) (.node (ob29 P) (.node (ob7 P) (.node (ob7 P) (.node (ob28 P) .nil .nil) (.node (ob51 P) .nil .nil)) (.node (ob22 P) (.node (ob35 P) .nil .nil) .nil)) (.node (ob11 P) (.node (ob18 P) (.node (ob7 P) .nil .nil) .nil) (.node (ob26 P) (.node (ob38 P) .nil .nil) .nil))) (.node (ob5 P) (.node (ob9 P) (.node (ob16 P) (.node (ob8 P) .nil .nil) .nil) (.node (ob24 P) (.node (ob36 P) .nil .nil) .nil)) (.node (ob13 P) (.node (ob20 P) (.node (ob33 P) .nil .nil) .nil) (.node (ob30 P) (.node (ob49 P) .nil .nil) .nil)))) (.node (ob2 P) (.node (ob4 P) (.node (ob8 P) (.node (ob15 P) (.node (ob7 P) .nil .nil) .nil) (.node (ob23 P) (.node (ob6 P) .nil .nil) .nil)) (.node (ob12 P) (.node (ob19 P) (.node (ob32 P) .nil .nil) .nil) (.node (ob7 P) (.node (ob39 P) .nil .nil) .nil))) (.node (ob6 P) (.node (ob10 P) (.node (ob17 P) (.node (ob31 P) .nil .nil) .nil) (.node (ob25 P) (.node (ob37 P) .nil .nil) .nil)) (.node (ob14 P) (.node (ob21 P) (.node (ob34 P) .nil .nil) .nil) (.node (ob27 P) (.node (ob50 P) .nil .nil) .nil)))))
noncomputable def trD (P : Params) : BT := (.node (ob0 P) (.node (ob1 P) (.node (ob52 P) (.node (ob7 P) (.node (ob7 P) (.node (ob28 P) .nil .nil) (.node (ob55 P) .nil .nil)) (.node (ob22 P) (.node (ob35 P) .nil .nil) .nil)) (.node (ob11 P) (.node (ob18 P) (.node (ob7 P) .nil .nil) .nil) (.node (ob26 P) (.node (ob38 P) .nil .nil) .nil))) (.node (ob5 P) (.node (ob9 P) (.node (ob16 P) (.node (ob8 P) .nil .nil) (.node (ob56 P) .nil .nil)) (.node (ob24 P) (.node (ob36 P) .nil .nil) .nil)) (.node (ob13 P) (.node (ob20 P) (.node (ob33 P) .nil .nil) .nil) (.node (ob30 P) (.node (ob53 P) .nil .nil) .nil)))) (.node (ob2 P) (.node (ob4 P) (.node (ob8 P) (.node (ob15 P) (.node (ob7 P) .nil .nil) (.node (ob7 P) .nil .nil)) (.node (ob23 P) (.node (ob6 P) .nil .nil) .nil)) (.node (ob12 P) (.node (ob19 P) (.node (ob32 P) .nil .nil) .nil) (.node (ob7 P) (.node (ob39 P) .nil .nil) .nil))) (.node (ob6 P) (.node (ob10 P) (.node (ob17 P) (.node (ob31 P) .nil .nil) .nil) (.node (ob25 P) (.node (ob37 P) .nil .nil) .nil)) (.node (ob14 P) (.node (ob21 P) (.node (ob34 P) .nil .nil) .nil) (.node (ob27 P) (.node (ob54 P) .nil .nil) .nil)))))
noncomputable def trE (P : Params) : BT := (.node (ob0 P) (.node (ob1 P) (.node (ob57 P) (.node (ob7 P) (.node (ob7 P) (.node (ob28 P) .nil .nil) (.node (ob55 P) .nil .nil)) (.node (ob22 P) (.node (ob35 P) .nil .nil) .nil)) (.node (ob11 P) (.node (ob18 P) (.node (ob7 P) .nil .nil) (.node (ob59 P) .nil .nil)) (.node (ob26 P) (.node (ob38 P) .nil .nil) .nil))) (.node (ob5 P) (.node (ob9 P) (.node (ob16 P) (.node (ob8 P) .nil .nil) (.node (ob56 P) .nil .nil)) (.node (ob24 P) (.node (ob36 P) .nil .nil) .nil)) (.node (ob13 P) (.node (ob20 P) (.node (ob33 P) .nil .nil) (.node (ob59 P) .nil .nil)) (.node (ob30 P) (.node (ob53 P) .nil .nil) .nil)))) (.node (ob2 P) (.node (ob4 P) (.node (ob8 P) (.node (ob15 P) (.node (ob7 P) .nil .nil) (.node (ob7 P) .nil .nil)) (.node (ob23 P) (.node (ob6 P) .nil .nil) .nil)) (.node (ob12 P) (.node (ob19 P) (.node (ob32 P) .nil .nil) (.node (ob58 P) .nil .nil)) (.node (ob7 P) (.node (ob39 P) .nil .nil) .nil))) (.node (ob6 P) (.node (ob10 P) (.node (ob17 P) (.node (ob31 P) .nil .nil) (.node (ob58 P) .nil .nil)) (.node (ob25 P) (.node (ob37 P) .nil .nil) .nil)) (.node (ob14 P) (.node (ob21 P) (.node (ob34 P) .nil .nil) .nil) (.node (ob27 P) (.node (ob54 P) .nil .nil) .nil)))))
noncomputable def trE1 (P : Params) : BT := (.node (ob0 P) (.node (ob1 P) (.node (ob60 P) (.node (ob7 P) (.node (ob7 P) (.node (ob28 P) .nil .nil) (.node (ob55 P) .nil .nil)) (.node (ob22 P) (.node (ob35 P) .nil .nil) .nil)) (.node (ob11 P) (.node (ob18 P) (.node (ob7 P) .nil .nil) (.node (ob61 P) .nil .nil)) (.node (ob26 P) (.node (ob38 P) .nil .nil) .nil))) (.node (ob5 P) (.node (ob9 P) (.node (ob16 P) (.node (ob8 P) .nil .nil) (.node (ob56 P) .nil .nil)) (.node (ob24 P) (.node (ob36 P) .nil .nil) .nil)) (.node (ob13 P) (.node (ob20 P) (.node (ob33 P) .nil .nil) (.node (ob59 P) .nil .nil)) (.node (ob30 P) (.node (ob53 P) .nil .nil) .nil)))) (.node (ob2 P) (.node (ob4 P) (.node (ob8 P) (.node (ob15 P) (.node (ob7 P) .nil .nil) (.node (ob7 P) .nil .nil)) (.node (ob23 P) (.node (ob6 P) .nil .nil) .nil)) (.node (ob12 P) (.node (ob19 P) (.node (ob32 P) .nil .nil) (.node (ob58 P) .nil .nil)) (.node (ob7 P) (.node (ob39 P) .nil .nil) .nil))) (.node (ob6 P) (.node (ob10 P) (.node (ob17 P) (.node (ob31 P) .nil .nil) (.node (ob58 P) .nil .nil)) (.node (ob25 P) (.node (ob37 P) .nil .nil) .nil)) (.node (ob14 P) (.node (ob21 P) (.node (ob34 P) .nil .nil) (.node (ob62 P) .nil .nil)) (.node (ob27 P) (.node (ob54 P) .nil .nil) .nil)))))
noncomputable def trE2 (P : Params) : BT := (.node (ob0 P) (.node (ob1 P) (.node (ob63 P) (.node (ob7 P) (.node (ob7 P) (.node (ob28 P) .nil .nil) (.node (ob55 P) .nil .nil)) (.node (ob22 P) (.node (ob35 P) .nil .nil) .nil)) (.node (ob11 P) (.node (ob18 P) (.node (ob7 P) .nil .nil) (.node (ob64 P) .nil .nil)) (.node (ob26 P) (.node (ob38 P) .nil .nil) .nil))) (.node (ob5 P) (.node (ob9 P) (.node (ob16 P) (.node (ob8 P) .nil .nil) (.node (ob56 P) .nil .nil)) (.node (ob24 P) (.node (ob36 P) .nil .nil) .nil)) (.node (ob13 P) (.node (ob20 P) (.node (ob33 P) .nil .nil) (.node (ob59 P) .nil .nil)) (.node (ob30 P) (.node (ob53 P) .nil .nil) .nil)))) (.node (ob2 P) (.node (ob4 P) (.node (ob8 P) (.node (ob15 P) (.node (ob7 P) .nil .nil) (.node (ob7 P) .nil .nil)) (.node (ob23 P) (.node (ob6 P) .nil .nil) .nil)) (.node (ob12 P) (.node (ob19 P) (.node (ob32 P) .nil .nil) (.node (ob58 P) .nil .nil)) (.node (ob7 P) (.node (ob39 P) .nil .nil) .nil))) (.node (ob6 P) (.node (ob10 P) (.node (ob17 P) (.node (ob31 P) .nil .nil) (.node (ob58 P) .nil .nil)) (.node (ob25 P) (.node (ob37 P) .nil .nil) .nil)) (.node (ob14 P) (.node (ob21 P) (.node (ob34 P) .nil .nil) (.node (ob65 P) .nil .nil)) (.node (ob27 P) (.node (ob54 P) .nil .nil) .nil)))))
noncomputable def trF (P : Params) : BT := (.node (ob0 P) (.node (ob1 P) (.node (ob66 P) (.node (ob7 P) (.node (ob7 P) (.node (ob28 P) .nil .nil) (.node (ob55 P) .nil .nil)) (.node (ob22 P) (.node (ob35 P) .nil .nil) (.node (ob7 P) .nil .nil))) (.node (ob11 P) (.node (ob18 P) (.node (ob7 P) .nil .nil) (.node (ob67 P) .nil .nil)) (.node (ob26 P) (.node (ob38 P) .nil .nil) .nil))) (.node (ob5 P) (.node (ob9 P) (.node (ob16 P) (.node (ob8 P) .nil .nil) (.node (ob56 P) .nil .nil)) (.node (ob24 P) (.node (ob36 P) .nil .nil) .nil)) (.node (ob13 P) (.node (ob20 P) (.node (ob33 P) .nil .nil) (.node (ob59 P) .nil .nil)) (.node (ob30 P) (.node (ob53 P) .nil .nil) .nil)))) (.node (ob2 P) (.node (ob4 P) (.node (ob8 P) (.node (ob15 P) (.node (ob7 P) .nil .nil) (.node (ob7 P) .nil .nil)) (.node (ob23 P) (.node (ob6 P) .nil .nil) (.node (ob69 P) .nil .nil))) (.node (ob12 P) (.node (ob19 P) (.node (ob32 P) .nil .nil) (.node (ob58 P) .nil .nil)) (.node (ob7 P) (.node (ob39 P) .nil .nil) .nil))) (.node (ob6 P) (.node (ob10 P) (.node (ob17 P) (.node (ob31 P) .nil .nil) (.node (ob58 P) .nil .nil)) (.node (ob25 P) (.node (ob37 P) .nil .nil) .nil)) (.node (ob14 P) (.node (ob21 P) (.node (ob34 P) .nil .nil) (.node (ob68 P) .nil .nil)) (.node (ob27 P) (.node (ob54 P) .nil .nil) .nil)))))
noncomputable def trG (P : Params) : BT := (.node (ob0 P) (.node (ob1 P) (.node (ob66 P) (.node (ob7 P) (.node (ob7 P) (.node (ob28 P) .nil .nil) (.node (ob55 P) .nil .nil)) (.node (ob22 P) (.node (ob35 P) .nil .nil) (.node (ob7 P) .nil .nil))) (.node (ob11 P) (.node (ob18 P) (.node (ob7 P) .nil .nil) (.node (ob70 P) .nil .nil)) (.node (ob26 P) (.node (ob38 P) .nil .nil) .nil))) (.node (ob5 P) (.node (ob9 P) (.node (ob16 P) (.node (ob8 P) .nil .nil) (.node (ob56 P) .nil .nil)) (.node (ob24 P) (.node (ob36 P) .nil .nil) .nil)) (.node (ob13 P) (.node (ob20 P) (.node (ob33 P) .nil .nil) (.node (ob59 P) .nil .nil)) (.node (ob30 P) (.node (ob53 P) .nil .nil) .nil)))) (.node (ob2 P) (.node (ob4 P) (.node (ob8 P) (.node (ob15 P) (.node (ob7 P) .nil .nil) (.node (ob7 P) .nil .nil)) (.node (ob23 P) (.node (ob6 P) .nil .nil) (.node (ob69 P) .nil .nil))) (.node (ob12 P) (.node (ob19 P) (.node (ob32 P) .nil .nil) (.node (ob58 P) .nil .nil)) (.node (ob7 P) (.node (ob39 P) .nil .nil) .nil))) (.node (ob6 P) (.node (ob10 P) (.node (ob17 P) (.node (ob31 P) .nil .nil) (.node (ob58 P) .nil .nil)) (.node (ob25 P) (.node (ob37 P) .nil .nil) .nil)) (.node (ob14 P) (.node (ob21 P) (.node (ob34 P) .nil .nil) (.node (ob68 P) .nil .nil)) (.node (ob27 P) (.node (ob54 P) .nil .nil) .nil)))))
noncomputable def trG1 (P : Params) : BT := (.node (ob0 P) (.node (ob1 P) (.node (ob71 P) (.node (ob7 P) (.node (ob7 P) (.node (ob28 P) .nil .nil) (.node (ob55 P) .nil .nil)) (.node (ob22 P) (.node (ob35 P) .nil .nil) (.node (ob7 P) .nil .nil))) (.node (ob11 P) (.node (ob18 P) (.node (ob7 P) .nil .nil) (.node (ob70 P) .nil .nil)) (.node (ob26 P) (.node (ob38 P) .nil .nil) .nil))) (.node (ob5 P) (.node (ob9 P) (.node (ob16 P) (.node (ob8 P) .nil .nil) (.node (ob56 P) .nil .nil)) (.node (ob24 P) (.node (ob36 P) .nil .nil) (.node (ob73 P) .nil .nil))) (.node (ob13 P) (.node (ob20 P) (.node (ob33 P) .nil .nil) (.node (ob72 P) .nil .nil)) (.node (ob30 P) (.node (ob53 P) .nil .nil) .nil)))) (.node (ob2 P) (.node (ob4 P) (.node (ob8 P) (.node (ob15 P) (.node (ob7 P) .nil .nil) (.node (ob7 P) .nil .nil)) (.node (ob23 P) (.node (ob6 P) .nil .nil) (.node (ob69 P) .nil .nil))) (.node (ob12 P) (.node (ob19 P) (.node (ob32 P) .nil .nil) (.node (ob58 P) .nil .nil)) (.node (ob7 P) (.node (ob39 P) .nil .nil) .nil))) (.node (ob6 P) (.node (ob10 P) (.node (ob17 P) (.node (ob31 P) .nil .nil) (.node (ob58 P) .nil .nil)) (.node (ob25 P) (.node (ob37 P) .nil .nil) .nil)) (.node (ob14 P) (.node (ob21 P) (.node (ob34 P) .nil .nil) (.node (ob68 P) .nil .nil)) (.node (ob27 P) (.node (ob54 P) .nil .nil) .nil)))))
noncomputable def trG2 (P : Params) : BT := (.node (ob0 P) (.node (ob1 P) (.node (ob74 P) (.node (ob7 P) (.node (ob7 P) (.node (ob28 P) .nil .nil) (.node (ob55 P) .nil .nil)) (.node (ob22 P) (.node (ob35 P) .nil .nil) (.node (ob7 P) .nil .nil))) (.node (ob11 P) (.node (ob18 P) (.node (ob7 P) .nil .nil) (.node (ob70 P) .nil .nil)) (.node (ob26 P) (.node (ob38 P) .nil .nil) .nil))) (.node (ob5 P) (.node (ob9 P) (.node (ob16 P) (.node (ob8 P) .nil .nil) (.node (ob56 P) .nil .nil)) (.node (ob24 P) (.node (ob36 P) .nil .nil) (.node (ob76 P) .nil .nil))) (.node (ob13 P) (.node (ob20 P) (.node (ob33 P) .nil .nil) (.node (ob75 P) .nil .nil)) (.node (ob30 P) (.node (ob53 P) .nil .nil) .nil)))) (.node (ob2 P) (.node (ob4 P) (.node (ob8 P) (.node (ob15 P) (.node (ob7 P) .nil .nil) (.node (ob7 P) .nil .nil)) (.node (ob23 P) (.node (ob6 P) .nil .nil) (.node (ob69 P) .nil .nil))) (.node (ob12 P) (.node (ob19 P) (.node (ob32 P) .nil .nil) (.node (ob58 P) .nil .nil)) (.node (ob7 P) (.node (ob39 P) .nil .nil) .nil))) (.node (ob6 P) (.node (ob10 P) (.node (ob17 P) (.node (ob31 P) .nil .nil) (.node (ob58 P) .nil .nil)) (.node (ob25 P) (.node (ob37 P) .nil .nil) .nil)) (.node (ob14 P) (.node (ob21 P) (.node (ob34 P) .nil .nil) (.node (ob68 P) .nil .nil)) (.node (ob27 P) (.node (ob54 P) .nil .nil) .nil)))))
noncomputable def trG3 (P : Params) : BT := (.node (ob0 P) (.node (ob1 P) (.node (ob77 P) (.node (ob7 P) (.node (ob7 P) (.node (ob28 P) .nil .nil) (.node (ob55 P) .nil .nil)) (.node (ob22 P) (.node (ob35 P) .nil .nil) (.node (ob7 P) .nil .nil))) (.node (ob11 P) (.node (ob18 P) (.node (ob7 P) .nil .nil) (.node (ob70 P) .nil .nil)) (.node (ob26 P) (.node (ob38 P) .nil .nil) .nil))) (.node (ob5 P) (.node (ob9 P) (.node (ob16 P) (.node (ob8 P) .nil .nil) (.node (ob56 P) .nil .nil)) (.node (ob24 P) (.node (ob36 P) .nil .nil) (.node (ob79 P) .nil .nil))) (.node (ob13 P) (.node (ob20 P) (.node (ob33 P) .nil .nil) (.node (ob78 P) .nil .nil)) (.node (ob30 P) (.node (ob53 P) .nil .nil) .nil)))) (.node (ob2 P) (.node (ob4 P) (.node (ob8 P) (.node (ob15 P) (.node (ob7 P) .nil .nil) (.node (ob7 P) .nil .nil)) (.node (ob23 P) (.node (ob6 P) .nil .nil) (.node (ob69 P) .nil .nil))) (.node (ob12 P) (.node (ob19 P) (.node (ob32 P) .nil .nil) (.node (ob58 P) .nil .nil)) (.node (ob7 P) (.node (ob39 P) .nil .nil) .nil))) (.node (ob6 P) (.node (ob10 P) (.node (ob17 P) (.node (ob31 P) .nil .nil) (.node (ob58 P) .nil .nil)) (.node (ob25 P) (.node (ob37 P) .nil .nil) .nil)) (.node (ob14 P) (.node (ob21 P) (.node (ob34 P) .nil .nil) (.node (ob68 P) .nil .nil)) (.node (ob27 P) (.node (ob54 P) .nil .nil) .nil)))))
noncomputable def trI (P : Params) : BT := (.node (ob0 P) (.node (ob1 P) (.node (ob80 P) (.node (ob7 P) (.node (ob7 P) (.node (ob28 P) .nil .nil) (.node (ob55 P) .nil .nil)) (.node (ob22 P) (.node (ob35 P) .nil .nil) (.node (ob7 P) .nil .nil))) (.node (ob11 P) (.node (ob18 P) (.node (ob7 P) .nil .nil) (.node (ob70 P) .nil .nil)) (.node (ob26 P) (.node (ob38 P) .nil .nil) (.node (ob83 P) .nil .nil)))) (.node (ob5 P) (.node (ob9 P) (.node (ob16 P) (.node (ob8 P) .nil .nil) (.node (ob56 P) .nil .nil)) (.node (ob24 P) (.node (ob36 P) .nil .nil) (.node (ob82 P) .nil .nil))) (.node (ob13 P) (.node (ob20 P) (.node (ob33 P) .nil .nil) (.node (ob81 P) .nil .nil)) (.node (ob30 P) (.node (ob53 P) .nil .nil) .nil)))) (.node (ob2 P) (.node (ob4 P) (.node (ob8 P) (.node (ob15 P) (.node (ob7 P) .nil .nil) (.node (ob7 P) .nil .nil)) (.node (ob23 P) (.node (ob6 P) .nil .nil) (.node (ob69 P) .nil .nil))) (.node (ob12 P) (.node (ob19 P) (.node (ob32 P) .nil .nil) (.node (ob58 P) .nil .nil)) (.node (ob7 P) (.node (ob39 P) .nil .nil) .nil))) (.node (ob6 P) (.node (ob10 P) (.node (ob17 P) (.node (ob31 P) .nil .nil) (.node (ob58 P) .nil .nil)) (.node (ob25 P) (.node (ob37 P) .nil .nil) (.node (ob7 P) .nil .nil))) (.node (ob14 P) (.node (ob21 P) (.node (ob34 P) .nil .nil) (.node (ob68 P) .nil .nil)) (.node (ob27 P) (.node (ob54 P) .nil .nil) .nil)))))
noncomputable def tr3 (P : Params) : BT := (.node (ob0 P) (.node (ob1 P) (.node (ob84 P) (.node (ob7 P) (.node (ob7 P) (.node (ob28 P) (.node (ob7 P) (.node (ob125 P) .nil .nil) .nil) (.node (ob107 P) .nil .nil)) (.node (ob55 P) (.node (ob96 P) (.node (ob134 P) .nil .nil) .nil) (.node (ob8 P) .nil .nil))) (.node (ob22 P) (.node (ob35 P) (.node (ob91 P) (.node (ob8 P) .nil .nil) .nil) (.node (ob7 P) .nil .nil)) (.node (ob7 P) (.node (ob102 P) .nil .nil) (.node (ob120 P) .nil .nil)))) (.node (ob11 P) (.node (ob18 P) (.node (ob7 P) (.node (ob7 P) (.node (ob127 P) .nil .nil) .nil) (.node (ob7 P) .nil .nil)) (.node (ob70 P) (.node (ob99 P) (.node (ob137 P) .nil .nil) .nil) (.node (ob118 P) .nil .nil))) (.node (ob26 P) (.node (ob38 P) (.node (ob7 P) (.node (ob132 P) .nil .nil) .nil) (.node (ob113 P) .nil .nil)) (.node (ob83 P) (.node (ob7 P) .nil .nil) (.node (ob8 P) .nil .nil))))) (.node (ob5 P) (.node (ob9 P) (.node (ob16 P) (.node (ob8 P) (.node (ob88 P) (.node (ob7 P) .nil .nil) .nil) (.node (ob8 P) .nil .nil)) (.node (ob56 P) (.node (ob98 P) (.node (ob135 P) .nil .nil) .nil) (.node (ob7 P) .nil .nil))) (.node (ob24 P) (.node (ob36 P) (.node (ob93 P) (.node (ob7 P) .nil .nil) .nil) (.node (ob112 P) .nil .nil)) (.node (ob82 P) (.node (ob8 P) .nil .nil) (.node (ob122 P) .nil .nil)))) (.node (ob13 P) (.node (ob20 P) (.node (ob33 P) (.node (ob90 P) (.node (ob129 P) .nil .nil) .nil) (.node (ob110 P) .nil .nil)) (.node (ob81 P) (.node (ob7 P) .nil .nil) (.node (ob7 P) .nil .nil))) (.node (ob85 P) (.node (ob53 P) (.node (ob95 P) (.node (ob7 P) .nil .nil) .nil) (.node (ob115 P) .nil .nil)) (.node (ob8 P) (.node (ob105 P) .nil .nil) (.node (ob7 P) .nil .nil)))))) (.node (ob2 P) (.node (ob4 P) (.node (ob8 P) (.node (ob15 P) (.node (ob7 P) (.node (ob87 P) (.node (ob126 P) .nil .nil) .nil) (.node (ob7 P) .nil .nil)) (.node (ob7 P) (.node (ob97 P) (.node (ob7 P) .nil .nil) .nil) (.node (ob116 P) .nil .nil))) (.node (ob23 P) (.node (ob6 P) (.node (ob92 P) (.node (ob130 P) .nil .nil) .nil) (.node (ob8 P) .nil .nil)) (.node (ob69 P) (.node (ob7 P) .nil .nil) (.node (ob121 P) .nil .nil)))) (.node (ob12 P) (.node (ob19 P) (.node (ob32 P) (.node (ob8 P) (.node (ob128 P) .nil .nil) .nil) (.node (ob109 P) .nil .nil)) (.node (ob58 P) (.node (ob100 P) .nil .nil) (.node (ob119 P) .nil .nil))) (.node (ob7 P) (.node (ob39 P) (.node (ob8 P) (.node (ob133 P) .nil .nil) .nil) (.node (ob114 P) .nil .nil)) (.node (ob7 P) (.node (ob104 P) .nil .nil) (.node (ob123 P) .nil .nil))))) (.node (ob6 P) (.node (ob10 P) (.node (ob17 P) (.node (ob31 P) (.node (ob89 P) (.node (ob8 P) .nil .nil) .nil) (.node (ob108 P) .nil .nil)) (.node (ob58 P) (.node (ob58 P) (.node (ob136 P) .nil .nil) .nil) (.node (ob117 P) .nil .nil))) (.node (ob25 P) (.node (ob37 P) (.node (ob94 P) (.node (ob131 P) .nil .nil) .nil) (.node (ob7 P) .nil .nil)) (.node (ob7 P) (.node (ob103 P) .nil .nil) (.node (ob7 P) .nil .nil)))) (.node (ob14 P) (.node (ob21 P) (.node (ob34 P) (.node (ob7 P) (.node (ob7 P) .nil .nil) .nil) (.node (ob111 P) .nil .nil)) (.node (ob68 P) (.node (ob101 P) .nil .nil) (.node (ob8 P) .nil .nil))) (.node (ob27 P) (.node (ob54 P) (.node (ob7 P) (.node (ob8 P) .nil .nil) .nil) (.node (ob7 P) .nil .nil)) (.node (ob86 P) (.node (ob106 P) .nil .nil) (.node (ob124 P) .nil .nil)))))))
noncomputable def envT : Env := { scope := PR.main.scope, locals := mainNs, globals := mainNs, cells := [], code := Value.ref 30, frame := some 31 }
noncomputable def cT : Code := Code.body (behindTheImports PR) envT
noncomputable def bT : List Stmt := behindTheImports PR
noncomputable def lsA : List Stmt := bT.take 5
noncomputable def lsC : List Stmt := (bT.drop 5).take 1
noncomputable def lsD : List Stmt := (bT.drop 6).take 8
noncomputable def lsE : List Stmt := (bT.drop 14).take 1
noncomputable def lsF : List Stmt := (bT.drop 15).take 1
noncomputable def lsG : List Stmt := (bT.drop 16).take 1
noncomputable def lsI : List Stmt := bT.drop 17
abbrev p0 : Pos := Pos.mk 0 0 0 0
abbrev pA : Pos := Pos.mk 15 0 15 2
abbrev pC : Pos := Pos.mk 16 0 16 11
abbrev pD : Pos := Pos.mk 24 0 24 8
abbrev pE : Pos := Pos.mk 25 9 25 74
abbrev pF : Pos := Pos.mk 27 0 27 28
abbrev pG : Pos := Pos.mk 28 9 28 110
abbrev p3 : Pos := Pos.mk 131 0 149 15
abbrev an : Option Value := some (Value.ref 6)
abbrev gs : Array GenState := Array.mk []
abbrev dr : Drawn := Drawn.mk 0 0 0 0
noncomputable abbrev SB (w : World) (os : OsState) : SharedT := SharedT.mk (trB w.params) 32 lifeT gs dr 282 os
noncomputable abbrev SA (w : World) (os : OsState) : SharedT := SharedT.mk (trA w.params) 44 lifeT gs dr 333 os
noncomputable abbrev SC1 (w : World) (os : OsState) : SharedT := SharedT.mk (trC1 w.params) 48 lifeT gs dr 340 os
noncomputable abbrev SC2 (w : World) (os : OsState) : SharedT := SharedT.mk (trC2 w.params) 48 lifeT gs dr 596 os
noncomputable abbrev SC3 (w : World) (os : OsState) : SharedT := SharedT.mk (trC3 w.params) 48 lifeT gs dr 852 os
noncomputable abbrev SC4 (w : World) (os : OsState) : SharedT := SharedT.mk (trC4 w.params) 48 lifeT gs dr 1108 os
noncomputable abbrev SD (w : World) (os : OsState) : SharedT := SharedT.mk (trD w.params) 50 lifeT gs dr 1361 os
noncomputable abbrev SE (w : World) (os : OsState) : SharedT := SharedT.mk (trE w.params) 54 lifeT gs dr 1378 os
noncomputable abbrev SE1 (w : World) (os : OsState) : SharedT := SharedT.mk (trE1 w.params) 55 lifeT gs dr 1388 os
noncomputable abbrev SE2 (w : World) (os : OsState) : SharedT := SharedT.mk (trE2 w.params) 55 lifeT gs dr 1487 os
noncomputable abbrev SF (w : World) (os : OsState) : SharedT := SharedT.mk (trF w.params) 57 lifeT gs dr 1586 os
noncomputable abbrev SG (w : World) (os : OsState) : SharedT := SharedT.mk (trG w.params) 57 lifeT gs dr 1589 os
noncomputable abbrev SG1 (w : World) (os : OsState) : SharedT := SharedT.mk (trG1 w.params) 58 lifeT gs dr 1593 os
noncomputable abbrev SG2 (w : World) (os : OsState) : SharedT := SharedT.mk (trG2 w.params) 58 lifeT gs dr 1689 os
noncomputable abbrev SG3 (w : World) (os : OsState) : SharedT := SharedT.mk (trG3 w.params) 58 lifeT gs dr 1785 os
noncomputable abbrev SI (w : World) (os : OsState) : SharedT := SharedT.mk (trI w.params) 60 lifeT gs dr 1875 os
noncomputable abbrev S3 (w : World) (os : OsState) : SharedT := SharedT.mk (tr3 w.params) 148 lifeT gs dr 2005 os
noncomputable abbrev H1 (P : Params) : Heap := absHeap (tr3 P) 148 lifeT
abbrev rI : String := "comprehension-iter-twice"
abbrev rG : String := "special-get-raises"
theorem by4 {P : World → Prop} (a : ∀ w : World, P ((w.withFollow rG false).withFollow rI false)) (b : ∀ w : World, P ((w.withFollow rG true).withFollow rI false))
    (c : ∀ w : World, P ((w.withFollow rG false).withFollow rI true)) (d : ∀ w : World, P ((w.withFollow rG true).withFollow rI true)) (w : World) : P w :=
  byRow2 rI (fun w => byRow2 rG (P := fun w => P (w.withFollow rI false)) a b w) (fun w => byRow2 rG (P := fun w => P (w.withFollow rI true)) c d w) w
noncomputable abbrev thQ (l : List Stmt) (p : Pos) : Thread := ⟨(PySem.W.Fast.tw12563942051412417395 l envT).wrap doneF deadEnd id id, cT, p, [topFrame p0]⟩
noncomputable abbrev goQ (w : World) (n : Nat) (s : SharedT) (t : Thread) := PySem.W.Fast.tw10295753902157049106 PySem.W.Fast.tw14364793385576792824 PR w 28 an 1 n s t
noncomputable abbrev runQ (w : World) (n : Nat) (s : SharedT) (t : Thread) := PySem.W.Fast.tw10110043849684766642 PySem.W.Fast.tw14364793385576792824 PR w 28 an 1 n s t
theorem thQ_eq (l : List Stmt) (p : Pos) : thQ l p = piecesOf l envT cT p [topFrame p0] := by
  unfold thQ piecesOf; rw [← PySem.W.Fast.te12563942051412417395]
theorem runQ_eq (w : World) (n : Nat) (s : SharedT) (t : Thread) : runQ w n s t = segRunT treeTable PR w 28 an 1 n s t := by
  unfold runQ; rw [← PySem.W.Fast.te10110043849684766642, ← PySem.W.Fast.te14364793385576792824]
theorem goQ_eq (w : World) (n : Nat) (s : SharedT) (t : Thread) : goQ w n s t = segGoT treeTable PR w 28 an 1 n s t := by
  unfold goQ; rw [← PySem.W.Fast.te10295753902157049106, ← PySem.W.Fast.te14364793385576792824]
noncomputable def thr : Option (SharedT × Thread) → Thread
  | some x => x.2
  | none => topStub PR
noncomputable def T1 (w : World) (os : OsState) : Thread := thr (goQ ((w.withFollow rG false).withFollow rI false) 88 (SA w os) (thQ lsC pA))
noncomputable def T2 (w : World) (os : OsState) : Thread := thr (goQ (w.withFollow rG false) 88 (SE w os) (thQ lsE pD))
noncomputable def T3 (w : World) (os : OsState) : Thread := thr (goQ (w.withFollow rG false) 54 (SG w os) (thQ lsG pF))
end Mine.Hd
end
section
open PySem PySem.W PyProof.Rows
set_option maxRecDepth 100000
namespace Mine.Hd
theorem open_q (w : World) : ((PySem.W.Fast.tw10274390034422433532 PySem.W.Fast.tw14364793385576792824 (opening PR) w 35662 (PySem.W.Fast.tw1435165496053646825 (opening PR)).1 (PySem.W.Fast.tw1435165496053646825 (opening PR)).2).bind (PySem.W.Fast.tw14289696077712309145 PR)).map (fun s => (s.heap, s.gens, s.drawn, s.toks)) = some (H0 w.params, gs, dr, 276) := by kernel_rfl
theorem open_ok : ∀ w : World, (fencedOpening treeTable PR w 35662).map (fun s => (s.heap, s.gens, s.drawn, s.toks)) = some (H0 w.params, gs, dr, 276) := by
  intro w
  have q := open_q w
  rw [← PySem.W.Fast.te10274390034422433532, ← PySem.W.Fast.te1435165496053646825, ← PySem.W.Fast.te14289696077712309145, ← PySem.W.Fast.te14364793385576792824] at q
  exact q
theorem size_q (w : World) : ((H0 w.params).isNs mainGlobals && gs.size == 0, (H0 w.params).objs.size, PySem.W.Fast.tw8920871248978507458 (H0 w.params) mainGlobals "__annotations__") = (true, 28, an) := by kernel_rfl
theorem size_ok (w : World) : ((H0 w.params).isNs mainGlobals && gs.size == 0, (H0 w.params).objs.size, (H0 w.params).nsMap mainGlobals "__annotations__") = (true, 28, an) := by
  have q := size_q w
  rw [← PySem.W.Fast.te8920871248978507458] at q
  exact q
theorem pre_q (w : World) : (fun os => PySem.W.Fast.tw15667345088766844465 PySem.W.Fast.tw14364793385576792824 PR w 28 an 12 ⟨H0 w.params, gs, dr, 276, os⟩ (topStub PR)) = fun os => some (⟨Ha w.params, gs, dr, 282, os⟩, ⟨PySem.W.Fast.tw11892475500146522536 PySem.W.Fast.tw14364793385576792824 cT, cT, p0, [topFrame p0]⟩) := by kernel_rfl
theorem block_q (w : World) : (fun os => PySem.W.Fast.tw14374325043358763698 PySem.W.Fast.tw14364793385576792824 PR w 28 an 1 1 ⟨Ha w.params, gs, dr, 282, os⟩ (blockOf (behindTheImports PR) envT cT p0 [topFrame p0])) = fun os => some (Flow.next, (SB w os).abs, cT, p0) := by kernel_rfl
theorem fin_q (w : World) : (fun os => PySem.W.Fast.tw14082659384304107361 PySem.W.Fast.tw14364793385576792824 PR w 28 an 2 (S3 w os).abs ⟨doneF .next, cT, p3, [topFrame p0]⟩) = fun os => some (S3 w os).abs := by kernel_rfl
end Mine.Hd
end
section
open PySem PySem.W PyProof.Rows
set_option maxRecDepth 100000
namespace Mine.Hd
noncomputable abbrev PA (w : World) : Prop := (fun os => runQ w 140 (SB w os) (thQ lsA p0)) = fun os => some (Flow.next, SA w os, cT, pA)
theorem qA (w : World) : PA w := by kernel_rfl
noncomputable abbrev PCf (w : World) : Prop := (fun os => goQ w 88 (SA w os) (thQ lsC pA)) = fun os => some (SC1 w os, T1 w os)
noncomputable abbrev PCt (w : World) : Prop := (fun os => goQ w 78 (SA w os) (thQ lsC pA)) = fun os => some (SC1 w os, T1 w os)
theorem qCff (w : World) : PCf ((w.withFollow rG false).withFollow rI false) := by kernel_rfl
theorem qCft (w : World) : PCf ((w.withFollow rG true).withFollow rI false) := by kernel_rfl
theorem qCtf (w : World) : PCt ((w.withFollow rG false).withFollow rI true) := by kernel_rfl
theorem qCtt (w : World) : PCt ((w.withFollow rG true).withFollow rI true) := by kernel_rfl
noncomputable abbrev PC1 (w : World) : Prop := (fun os => goQ w 2368 (SC1 w os) (T1 w os)) = fun os => some (SC2 w os, T1 w os)
theorem qC1 (w : World) : PC1 w := by kernel_rfl
noncomputable abbrev PC2 (w : World) : Prop := (fun os => goQ w 2368 (SC2 w os) (T1 w os)) = fun os => some (SC3 w os, T1 w os)
theorem qC2 (w : World) : PC2 w := by kernel_rfl
noncomputable abbrev PC3 (w : World) : Prop := (fun os => goQ w 2368 (SC3 w os) (T1 w os)) = fun os => some (SC4 w os, T1 w os)
theorem qC3 (w : World) : PC3 w := by kernel_rfl
noncomputable abbrev PC4 (w : World) : Prop := (fun os => runQ w 2370 (SC4 w os) (T1 w os)) = fun os => some (Flow.next, SD w os, cT, pC)
theorem qC4 (w : World) : PC4 w := by kernel_rfl
end Mine.Hd
end
section
open PySem PySem.W PyProof.Rows
set_option maxRecDepth 100000
namespace Mine.Hd
noncomputable abbrev PD (w : World) : Prop := (fun os => runQ w 140 (SD w os) (thQ lsD pC)) = fun os => some (Flow.next, SE w os, cT, pD)
theorem qD (w : World) : PD w := by kernel_rfl
noncomputable abbrev PE0 (w : World) : Prop := (fun os => goQ w 88 (SE w os) (thQ lsE pD)) = fun os => some (SE1 w os, T2 w os)
theorem qE0f (w : World) : PE0 (w.withFollow rG false) := by kernel_rfl
theorem qE0t (w : World) : PE0 (w.withFollow rG true) := by kernel_rfl
theorem qE0 : ∀ w, PE0 w := byRow2 rG (P := PE0) qE0f qE0t
noncomputable abbrev PE1 (w : World) : Prop := (fun os => goQ w 1485 (SE1 w os) (T2 w os)) = fun os => some (SE2 w os, T2 w os)
theorem qE1 (w : World) : PE1 w := by kernel_rfl
noncomputable abbrev PE2 (w : World) : Prop := (fun os => runQ w 1510 (SE2 w os) (T2 w os)) = fun os => some (Flow.next, SF w os, cT, pE)
theorem qE2 (w : World) : PE2 w := by kernel_rfl
noncomputable abbrev PF (w : World) : Prop := (fun os => runQ w 30 (SF w os) (thQ lsF pE)) = fun os => some (Flow.next, SG w os, cT, pF)
theorem qF (w : World) : PF w := by kernel_rfl
noncomputable abbrev PG0 (w : World) : Prop := (fun os => goQ w 54 (SG w os) (thQ lsG pF)) = fun os => some (SG1 w os, T3 w os)
theorem qG0f (w : World) : PG0 (w.withFollow rG false) := by kernel_rfl
theorem qG0t (w : World) : PG0 (w.withFollow rG true) := by kernel_rfl
theorem qG0 : ∀ w, PG0 w := byRow2 rG (P := PG0) qG0f qG0t
noncomputable abbrev PG1 (w : World) : Prop := (fun os => goQ w 1440 (SG1 w os) (T3 w os)) = fun os => some (SG2 w os, T3 w os)
theorem qG1 (w : World) : PG1 w := by kernel_rfl
noncomputable abbrev PG2 (w : World) : Prop := (fun os => goQ w 1440 (SG2 w os) (T3 w os)) = fun os => some (SG3 w os, T3 w os)
theorem qG2 (w : World) : PG2 w := by kernel_rfl
noncomputable abbrev PG3 (w : World) : Prop := (fun os => runQ w 1375 (SG3 w os) (T3 w os)) = fun os => some (Flow.next, SI w os, cT, pG)
theorem qG3 (w : World) : PG3 w := by kernel_rfl
noncomputable abbrev PI (w : World) : Prop := (fun os => runQ w 550 (SI w os) (thQ lsI pG)) = fun os => some (Flow.next, S3 w os, cT, p3)
theorem qIf (w : World) : PI (w.withFollow rG false) := by kernel_rfl
theorem qIt (w : World) : PI (w.withFollow rG true) := by kernel_rfl
theorem qI : ∀ w, PI w := byRow2 rG (P := PI) qIf qIt
end Mine.Hd
end
section
open PySem PySem.W PyProof.Rows
set_option maxRecDepth 100000
namespace Mine.Hd
theorem pre_ok (w : World) (os : OsState) : topGo treeTable PR w 28 an 12 ⟨H0 w.params, gs, dr, 276, os⟩ (topStub PR) = some (⟨Ha w.params, gs, dr, 282, os⟩, ⟨denote treeTable cT, cT, p0, [topFrame p0]⟩) := by
  have q := congrFun (pre_q w) os
  rw [← PySem.W.Fast.te15667345088766844465, ← PySem.W.Fast.te14364793385576792824, ← PySem.W.Fast.te11892475500146522536] at q
  exact q
theorem block_ok (w : World) (os : OsState) : segRun treeTable PR w 28 an 1 1 ⟨Ha w.params, gs, dr, 282, os⟩ (blockOf (behindTheImports PR) envT cT p0 [topFrame p0]) = some (Flow.next, (SB w os).abs, cT, p0) := by
  have q := congrFun (block_q w) os
  rw [← PySem.W.Fast.te14374325043358763698, ← PySem.W.Fast.te14364793385576792824] at q
  exact q
theorem fin_ok (w : World) (os : OsState) : topRun treeTable PR w 28 an 2 (S3 w os).abs ⟨doneF .next, cT, p3, [topFrame p0]⟩ = some (S3 w os).abs := by
  have q := congrFun (fin_q w) os
  rw [← PySem.W.Fast.te14082659384304107361, ← PySem.W.Fast.te14364793385576792824] at q
  exact q
section
variable {w : World} {s s' : SharedT} {t t' : Thread} {l : List Stmt} {pos q : Pos} {n : Nat}
theorem run_of (h : runQ w n s t = some (Flow.next, s', cT, q)) : segRun treeTable PR w 28 an 1 n s.abs t = some (Flow.next, s'.abs, cT, q) := by
  rw [runQ_eq] at h
  exact segRun_of h
theorem go_of (h : goQ w n s t = some (s', t')) : segGo treeTable PR w 28 an 1 n s.abs t = some (s'.abs, t') := by
  rw [goQ_eq] at h
  exact segGo_of h
end
theorem segRun_more {tb : String → Option Builtin} {p : Program} {w : World} {n₀ : Nat} {ann : Option Value} {b : Nat} (k : Nat) : ∀ {n : Nat} {s : Shared} {t : Thread} {r : Flow × Shared × Code × Pos}, segRun tb p w n₀ ann b n s t = some r → segRun tb p w n₀ ann b (n + k) s t = some r
  | 0, _, _, _, h => by simp [segRun] at h
  | n + 1, s, t, r, h => by
    rw [show n + 1 + k = n + k + 1 by omega]
    unfold segRun at h ⊢
    cases he : endAt b t with
    | some f => rw [he] at h; exact h
    | none =>
      rw [he] at h
      cases ho : stepOk n₀ ann t with
      | false => rw [ho] at h; cases h
      | true =>
        rw [ho] at h
        cases hs : step (denote tb) p w s t with
        | halt o s' => rw [hs] at h; cases h
        | go s₂ t₂ => rw [hs] at h; exact segRun_more k h
abbrev nC : Nat := 2368 + (2368 + (2368 + 2370))
noncomputable abbrev QC (w : World) : Prop := ∀ os, segRun treeTable PR w 28 an 1 (88 + nC) (SA w os).abs (thQ lsC pA) = some (Flow.next, (SD w os).abs, cT, pC)
theorem qC_rest (w : World) (os : OsState) : segRun treeTable PR w 28 an 1 nC (SC1 w os).abs (T1 w os) = some (Flow.next, (SD w os).abs, cT, pC) :=
  seg_go (go_of (congrFun (qC1 w) os)) (seg_go (go_of (congrFun (qC2 w) os)) (seg_go (go_of (congrFun (qC3 w) os)) (run_of (congrFun (qC4 w) os))))
theorem qC_f {w : World} (h : PCf w) : QC w := fun os => seg_go (go_of (congrFun h os)) (qC_rest w os)
theorem qC_t {w : World} (h : PCt w) : QC w := fun os => by
  have q := segRun_more 10 (seg_go (go_of (congrFun h os)) (qC_rest w os))
  exact q
theorem qC_all : ∀ w, QC w := by4 (P := QC) (fun w => qC_f (qCff w)) (fun w => qC_f (qCft w)) (fun w => qC_t (qCtf w)) (fun w => qC_t (qCtt w))
abbrev nE : Nat := 88 + (1485 + 1510)
abbrev nG : Nat := 54 + (1440 + (1440 + 1375))
theorem qE_all (w : World) (os : OsState) : segRun treeTable PR w 28 an 1 nE (SE w os).abs (thQ lsE pD) = some (Flow.next, (SF w os).abs, cT, pE) :=
  seg_go (go_of (congrFun (qE0 w) os)) (seg_go (go_of (congrFun (qE1 w) os)) (run_of (congrFun (qE2 w) os)))
theorem qG_all (w : World) (os : OsState) : segRun treeTable PR w 28 an 1 nG (SG w os).abs (thQ lsG pF) = some (Flow.next, (SI w os).abs, cT, pG) :=
  seg_go (go_of (congrFun (qG0 w) os)) (seg_go (go_of (congrFun (qG1 w) os)) (seg_go (go_of (congrFun (qG2 w) os)) (run_of (congrFun (qG3 w) os))))
theorem pcs {w : World} {n : Nat} {s s' : Shared} {l : List Stmt} {p q : Pos} (h : segRun treeTable PR w 28 an 1 n s (thQ l p) = some (Flow.next, s', cT, q)) : segRun treeTable PR w 28 an 1 n s (piecesOf l envT cT p [topFrame p0]) = some (Flow.next, s', cT, q) := by
  rw [thQ_eq] at h; exact h
theorem cutL (l : List Stmt) (k m : Nat) : l.drop k = (l.drop k).take m ++ l.drop (k + m) := by
  have q := List.take_append_drop m (l.drop k)
  rw [List.drop_drop] at q
  exact q.symm
theorem sts_eq : behindTheImports PR = lsA ++ (lsC ++ (lsD ++ (lsE ++ (lsF ++ (lsG ++ (lsI ++ [])))))) := by
  rw [List.append_nil]
  have e0 := (List.take_append_drop 5 bT).symm
  have e1 := cutL bT 5 1
  have e2 := cutL bT 6 8
  have e3 := cutL bT 14 1
  have e4 := cutL bT 15 1
  have e5 := cutL bT 16 1
  show bT = _
  unfold lsA lsC lsD lsE lsF lsG lsI
  rw [← e5, ← e4, ← e3, ← e2, ← e1, ← e0]
abbrev nAll : Nat := 140 + ((88 + nC) + (140 + (nE + (30 + (nG + (550 + 2))))))
theorem rest_ok (w : World) (os : OsState) : topRun treeTable PR w 28 an nAll (SB w os).abs (restOf (behindTheImports PR) envT cT p0 [topFrame p0]) = some (S3 w os).abs := by
  have q := piece_app (pcs (run_of (congrFun (qA w) os))) (piece_app (pcs (qC_all w os)) (piece_app (pcs (run_of (congrFun (qD w) os))) (piece_app (pcs (qE_all w os))
    (piece_app (pcs (run_of (congrFun (qF w) os))) (piece_app (pcs (qG_all w os)) (piece_app (pcs (run_of (congrFun (qI w) os))) (piece_nil (env := envT) (fin_ok w os))))))))
  rw [← sts_eq] at q
  exact q
theorem run_ok (w : World) (os : OsState) : topRun treeTable PR w 28 an (12 + (1 + nAll)) ⟨H0 w.params, gs, dr, 276, os⟩ (topStub PR) = some ⟨H1 w.params, gs, dr, 2005, os⟩ :=
  go_top (pre_ok w os) (piece_block (b := behindTheImports PR) (block_ok w os) (rest_ok w os))
end Mine.Hd
end
section
open PySem PySem.W PyProof.Rows
set_option maxRecDepth 100000
namespace Mine.Hd
noncomputable abbrev LV : List (Str × WData) := [(Str.ofString "ascii_letters", WData.str (Str.mk #[97, 98, 99, 100, 101, 102, 103, 104, 105, 106, 107, 108, 109, 110, 111, 112, 113, 114, 115, 116, 117, 118, 119, 120, 121, 122, 65, 66, 67, 68, 69, 70, 71, 72, 73, 74, 75, 76, 77, 78, 79, 80, 81, 82, 83, 84, 85, 86, 87, 88, 89, 90])), (Str.ofString "hexdigits", WData.str (Str.mk #[48, 49, 50, 51, 52, 53, 54, 55, 56, 57, 97, 98, 99, 100, 101, 102, 65, 66, 67, 68, 69, 70]))]
noncomputable abbrev XT (s : Shared) : Bool := xlAt hd.view_39 LV s && recOk (RowW.records PySem.Challenge.rw_nb0210_01.row.toRowW) s
noncomputable abbrev AS : List Addr := [nat_lit 2, nat_lit 3, nat_lit 6, nat_lit 11, nat_lit 12, nat_lit 32, nat_lit 34, nat_lit 35, nat_lit 37, nat_lit 38, nat_lit 42, nat_lit 43, nat_lit 46, nat_lit 51, nat_lit 53, nat_lit 60, nat_lit 62, nat_lit 63, nat_lit 65, nat_lit 66, nat_lit 67, nat_lit 69, nat_lit 70, nat_lit 72, nat_lit 73, nat_lit 74, nat_lit 75, nat_lit 77, nat_lit 78, nat_lit 80, nat_lit 81, nat_lit 83, nat_lit 87, nat_lit 88, nat_lit 90, nat_lit 91, nat_lit 93, nat_lit 94, nat_lit 95, nat_lit 96, nat_lit 98, nat_lit 99, nat_lit 101, nat_lit 102, nat_lit 103, nat_lit 105, nat_lit 106, nat_lit 108, nat_lit 109, nat_lit 110, nat_lit 112, nat_lit 113, nat_lit 115, nat_lit 116, nat_lit 117, nat_lit 120, nat_lit 121, nat_lit 122, nat_lit 124, nat_lit 125, nat_lit 127, nat_lit 128, nat_lit 129, nat_lit 132, nat_lit 133, nat_lit 134, nat_lit 136, nat_lit 137, nat_lit 139, nat_lit 140, nat_lit 141, nat_lit 143, nat_lit 144, nat_lit 146, nat_lit 147]
theorem asE : ∀ P, AS = (hd.heap_39 P).map (·.1) := fun _ => by kernel_rfl
noncomputable abbrev HK : Hook := kHook hd.heap_39 AS asE
noncomputable abbrev SZ (w : World) (os : OsState) : Shared := ⟨H1 w.params, gs, dr, 2005, os⟩
theorem look1 (w : World) : (fun os => (staticsOk (PySem.W.Fast.tw5923862056798008813 PR.main.body) (H0 w.params) (H1 w.params) && namesBound PR (H1 w.params) && gensDone (SZ w os) && laidKept (H0 w.params) (H1 w.params))) = fun _ => true := by kernel_rfl
theorem look2 (w : World) : (fun os => PySem.W.Fast.tw4187177175401517315 hd.view_39 LS (PySem.W.Fast.tw5923862056798008813 PR.main.body) XT true (SZ w os)) = fun _ => openGood hd.view_39 LS := by kernel_rfl
theorem look3 (w : World) : (fun os => Hook.obs HK (SZ w os)) = fun _ => Hook.val HK w := by kernel_rfl
theorem looks_ok (w : World) : (fun os => ((staticsOk (importedModules PR.main.body) (H0 w.params) (H1 w.params) && namesBound PR (H1 w.params) && gensDone (SZ w os) && laidKept (H0 w.params) (H1 w.params)),
        openSeen hd.view_39 LS (importedModules PR.main.body) XT true (SZ w os), Hook.obs HK (SZ w os))) = fun _ => (true, openGood hd.view_39 LS, Hook.val HK w) := by
  funext os
  have a := congrFun (look1 w) os
  have b := congrFun (look2 w) os
  have c := congrFun (look3 w) os
  rw [← PySem.W.Fast.te5923862056798008813] at a b
  rw [← PySem.W.Fast.te4187177175401517315] at b
  exact looks_pair a (looks_pair b c)
theorem left : LeftO PR hd.view_39 LS XT (Hook.obs HK) (Hook.val HK) 35662 :=
  LeftO.of_pieces (M := 12 + (1 + nAll)) open_ok size_ok run_ok (by decide) looks_ok
end Mine.Hd
end
section
open PySem PySem.W PyProof.Rows
namespace Mine
theorem item_at {s : Str} {l : Int} (h0 : 0 ≤ l) (h1 : l < (s.length : Int)) : Txt.item s l = ⟨#[(s.cps.toList[l.toNat]?).getD 0]⟩ := by
  unfold Txt.item Txt.charAt
  rw [PySem.seqIndex_of h0 h1]
  simp
theorem cps_some {s : Str} {k : Nat} (h : k < s.length) : ∃ c, s.cps.toList[k]? = some c := by
  have hk : k < s.cps.toList.length := by simpa [Str.length] using h
  exact ⟨s.cps.toList[k], List.getElem?_eq_getElem hk⟩
theorem one_eq {c : Nat} {a : Str} {d : Nat} (ha : a = ⟨#[d]⟩) : ((⟨#[c]⟩ : Str) == a) = decide (c = d) := by
  subst ha
  by_cases h : c = d
  · subst h; simp
  · have : (⟨#[c]⟩ : Str) ≠ ⟨#[d]⟩ := fun e => h (by simpa using e)
    simp [h, this]
theorem blank_is : Str.ofString " " = ⟨#[32]⟩ := by decide +kernel
theorem item_blank {s : Str} {l : Int} (h0 : 0 ≤ l) (h1 : l < (s.length : Int)) (h : (Txt.item s l == Str.ofString " ") = true) : s.cps.toList[l.toNat]? = some 32 := by
  obtain ⟨c, hc⟩ := cps_some (s := s) (k := l.toNat) (by omega)
  rw [item_at h0 h1, hc, one_eq blank_is, decide_eq_true_eq] at h
  rw [hc]; simpa using h
theorem item_noblank {s : Str} {l : Int} (h0 : 0 ≤ l) (h1 : l < (s.length : Int)) (h : (Txt.item s l == Str.ofString " ") = false) : s.cps.toList[l.toNat]? ≠ some 32 := by
  obtain ⟨c, hc⟩ := cps_some (s := s) (k := l.toNat) (by omega)
  rw [item_at h0 h1, hc, one_eq blank_is, decide_eq_false_iff_not] at h
  rw [hc]; simpa using h
end Mine
end
section
open PySem PySem.W PyProof.Rows
namespace Mine
def lpA (cs : List Nat) : Nat → Nat → Nat × Nat
  | 0, l => (l, 0)
  | a + 1, l => if cs[l]? = some 32 then lpA cs a (l + 1) else (l, a + 1)
def rpA (cs : List Nat) : Nat → Nat → Nat
  | 0, r => r
  | a + 1, r => if cs[r - 1]? = some 32 then rpA cs a (r - 1) else r
def stripF (s : Str) (n : Int) : Str :=
  Txt.slice s (some ((lpA s.cps.toList n.toNat 0).1 : Int)) (some (rpA s.cps.toList (lpA s.cps.toList n.toNat 0).2 s.length : Int))
def NB (s : Str) : Prop := ∃ k, k < s.length ∧ s.cps.toList[k]? ≠ some 32
def stripP (s : Str) (n : Int) : Prop := 0 ≤ n ∧ n < 1000 ∧ s.length ≤ 1000 ∧ NB s
def R1 (s : Str) (a₀ lpos amount : Int) : Prop := (∀ k, k < lpos.toNat → s.cps.toList[k]? = some 32) ∧ lpA s.cps.toList amount.toNat lpos.toNat = lpA s.cps.toList a₀.toNat 0
def R2 (s : Str) (a₁ rpos amount : Int) : Prop := (∀ k, rpos.toNat < k → k < s.length → s.cps.toList[k]? = some 32) ∧ rpA s.cps.toList amount.toNat (rpos.toNat + 1) = rpA s.cps.toList a₁.toNat s.length
theorem NB.pos {s : Str} (h : NB s) : 0 < s.length := by obtain ⟨k, hk, _⟩ := h; omega
abbrev P1 (s : Str) (a₀ lpos amount : Int) : Prop := 0 ≤ lpos ∧ 0 ≤ amount ∧ amount < 1000 ∧ lpos < (s.length : Int) ∧ R1 s a₀ lpos amount
abbrev P2 (s : Str) (a₀ rpos amount : Int) : Prop := 0 ≤ rpos ∧ 0 ≤ amount ∧ amount < 1000 ∧ rpos < (s.length : Int) ∧ R2 s a₀ rpos amount
theorem P1.start {s : Str} {n : Int} (h0 : 0 ≤ n) (h1 : n < 1000) (hnb : NB s) : P1 s n 0 n :=
  ⟨by omega, h0, h1, by have := hnb.pos; omega, fun k hk => absurd hk (by simp), rfl⟩
theorem P2.start {s : Str} {n : Int} (h0 : 0 ≤ n) (h1 : n < 1000) (hnb : NB s) : P2 s n ((s.length : Int) - 1) n := by
  have hp := hnb.pos
  refine ⟨by omega, h0, h1, by omega, fun k hk hk' => absurd hk (by omega), ?_⟩
  rw [show ((s.length : Int) - 1).toNat + 1 = s.length by omega]
theorem P1.turn {s : Str} {n l a : Int} (r : R1 s n l a) (h0 : 0 ≤ l) (ha : 0 ≤ a) (h1 : a < 1000) (hl : l < (s.length : Int)) (hne : a ≠ 0) (hit : (Txt.item s l == Str.ofString " ") = true) (hnb : NB s) : P1 s n (l + 1) (a - 1) := by
  have hb := item_blank h0 hl hit
  have e : (l + 1).toNat = l.toNat + 1 := by omega
  have e2 : a.toNat = (a - 1).toNat + 1 := by omega
  have hall : ∀ k, k < (l + 1).toNat → s.cps.toList[k]? = some 32 := by
    intro k hk
    by_cases q : k < l.toNat
    · exact r.1 k q
    · have : k = l.toNat := by omega
      rw [this]; exact hb
  refine ⟨by omega, by omega, by omega, ?_, hall, ?_⟩
  · obtain ⟨k, hk, hkb⟩ := hnb
    have : ¬ k < (l + 1).toNat := fun q => hkb (hall k q)
    omega
  · have h2 := r.2
    rw [e2, lpA, if_pos hb] at h2
    rw [e]; exact h2
theorem P2.turn {s : Str} {n l a : Int} (r : R2 s n l a) (h0 : 0 ≤ l) (ha : 0 ≤ a) (h1 : a < 1000) (hl : l < (s.length : Int)) (hne : a ≠ 0) (hit : (Txt.item s l == Str.ofString " ") = true) (hnb : NB s) : P2 s n (l - 1) (a - 1) := by
  have hb := item_blank h0 hl hit
  have e2 : a.toNat = (a - 1).toNat + 1 := by omega
  have hall : ∀ k, l.toNat ≤ k → k < s.length → s.cps.toList[k]? = some 32 := by
    intro k hk hk'
    by_cases q : k = l.toNat
    · rw [q]; exact hb
    · exact r.1 k (by omega) hk'
  have hl1 : 1 ≤ l := by
    obtain ⟨k, hk, hkb⟩ := hnb
    have : ¬ l.toNat ≤ k := fun q => hkb (hall k q hk)
    omega
  refine ⟨by omega, by omega, by omega, by omega, fun k hk hk' => hall k (by omega) hk', ?_⟩
  have h2 := r.2
  rw [e2, rpA, if_pos (by rw [Nat.add_sub_cancel]; exact hb), Nat.add_sub_cancel] at h2
  rw [show (l - 1).toNat + 1 = l.toNat by omega]; exact h2
theorem R1.fin {s : Str} {n l a : Int} (r : R1 s n l a) (h0 : 0 ≤ l) (ha : 0 ≤ a) (hl : l < (s.length : Int)) (h : a = 0 ∨ (Txt.item s l == Str.ofString " ") = false) : lpA s.cps.toList n.toNat 0 = (l.toNat, a.toNat) := by
  rw [← r.2]
  rcases h with h | h
  · subst h; rfl
  · by_cases q : a = 0
    · subst q; rfl
    · have e2 : a.toNat = (a - 1).toNat + 1 := by omega
      rw [e2, lpA, if_neg (item_noblank h0 hl h)]
theorem R2.fin {s : Str} {n l a : Int} (r : R2 s n l a) (h0 : 0 ≤ l) (ha : 0 ≤ a) (hl : l < (s.length : Int)) (h : a = 0 ∨ (Txt.item s l == Str.ofString " ") = false) : rpA s.cps.toList n.toNat s.length = l.toNat + 1 := by
  rw [← r.2]
  rcases h with h | h
  · subst h; rfl
  · by_cases q : a = 0
    · subst q; rfl
    · have e2 : a.toNat = (a - 1).toNat + 1 := by omega
      rw [e2, rpA, if_neg (by rw [Nat.add_sub_cancel]; exact item_noblank h0 hl h)]
theorem strip_end {s : Str} {n l a r b : Int} (r1 : R1 s n l a) (r2 : R2 s a r b) (h0 : 0 ≤ l) (ha : 0 ≤ a) (hl : l < (s.length : Int)) (g0 : 0 ≤ r) (gb : 0 ≤ b) (gl : r < (s.length : Int))
    (h : a = 0 ∨ (Txt.item s l == Str.ofString " ") = false) (g : b = 0 ∨ (Txt.item s r == Str.ofString " ") = false) : Txt.slice s (some l) (some (r + 1)) = stripF s n := by
  have e1 := r1.fin h0 ha hl h
  have e2 := r2.fin g0 gb gl g
  unfold stripF
  rw [e1]
  show _ = Txt.slice s (some (l.toNat : Int)) (some ((rpA s.cps.toList a.toNat s.length : Nat) : Int))
  rw [e2, show ((l.toNat : Nat) : Int) = l by omega, show ((r.toNat + 1 : Nat) : Int) = r + 1 by omega]
end Mine
end
section
open PySem PySem.W PyProof.Rows
namespace Mine
def SIGNS : List Nat := [97, 61, 95, 46, 233]
def WORDS : List (List Nat) := SIGNS.map (fun a => [a]) ++ SIGNS.flatMap fun a => SIGNS.map fun b => [a, b]
def bl (n : Nat) : List Nat := List.replicate n 32
def mkS (l : List Nat) : Str := ⟨l.toArray⟩
def textL (l r : Nat) (w : List Nat) : List Nat := bl l ++ w ++ bl r
def TEXTS : List (List Nat) := (List.range 4).flatMap fun l => (List.range 4).flatMap fun r => WORDS.map fun w => textL l r w
example : TEXTS.length = 480 := by decide +kernel
theorem mem_texts {l r : Nat} {w : List Nat} (hl : l < 4) (hr : r < 4) (hw : w ∈ WORDS) : textL l r w ∈ TEXTS := by
  unfold TEXTS
  simp only [List.mem_flatMap, List.mem_range, List.mem_map]
  exact ⟨l, hl, r, hr, w, hw, rfl⟩
section
variable {prog : Program} {w : World} {A : Around} {E : Value → Shared → Prop} {s : Shared} {x y z : Str} {t u v : Tok} {Q : Value → Shared → Prop}
open Builtin Builtin.Str in
/-- replace, and the tokens do not go back -/
theorem replaceT (hu : u ≠ 0) (hv : v ≠ 0) (huv : u ≠ v) (hyz : (y == z) = false) (hb : x.length + (x.length + 1) * z.length ≤ 16777216)
    (hq : ∀ t' k, s.toks ≤ k → Q (.str (Txt.replace x y z) t') { s with toks := k }) : wpAny (model prog w) A (call (.builtin "str.replace") [.str x t, .str y u, .str z v]) Q E s := by
  have hl : tooLong (x.length + (occurrences x y 0 x.length (x.length + 1)).length * z.length) = false := by
    have h1 := StrLaws.occ_length_le x y 0 x.length (x.length + 1)
    have h2 := Nat.mul_le_mul_right z.length h1
    unfold tooLong sizeLine
    exact decide_eq_false (by omega)
  refine call_gives F.slot_str_replace (typeIs_str _ _ _) F.entry_str_replace (F.args_str_replace_3 _ _ _)
    (gives_str_replace x y z t u v fun _ => ⟨by simp [hu, hv], by simp [huv], hyz, hl⟩) ?_
  by_cases hc : ((occurrences x y 0 x.length (x.length + 1)).isEmpty || (y.length == 0 && z.length == 0)) = true
  · rw [if_pos hc]
    have e : Txt.replace x y z = x := by unfold Txt.replace; rw [if_pos hc]
    rw [e] at hq
    exact hq t s.toks (Nat.le_refl _)
  · rw [if_neg hc]
    have e : Txt.replace x y z = glued z (partsBetween x (occurrences x y 0 x.length (x.length + 1)) y.length) := by unfold Txt.replace; rw [if_neg hc]
    rw [← e]
    exact ⟨by rw [e]; exact fits_replaced y hb, hq _ _ (Nat.le_succ _)⟩
theorem replaceS (hu : u ≠ 0) (hv : v ≠ 0) (huv : u ≠ v) (hyz : (y == z) = false) (hx : x.length ≤ 1000) (hz : z.length ≤ 10)
    (hq : ∀ t' k, s.toks ≤ k → Q (.str (Txt.replace x y z) t') { s with toks := k }) : wpAny (model prog w) A (call (.builtin "str.replace") [.str x t, .str y u, .str z v]) Q E s :=
  replaceT hu hv huv hyz (by
    have h1 : (x.length + 1) * z.length ≤ 1001 * 10 := Nat.mul_le_mul (by omega) hz
    omega) hq
end
def lawBodyF (x : Str) : Str := Txt.replace (Txt.replace x (Str.ofString "=") (Str.ofString "=3D")) (Str.ofString "é") (Str.ofString "=E9")
def isWord (x : Str) : Prop := ∃ c ∈ WORDS, x = mkS c
theorem word_len {x : Str} (h : isWord x) : x.length ≤ 1000 ∧ (Txt.replace x (Str.ofString "=") (Str.ofString "=3D")).length ≤ 1000 := by
  obtain ⟨c, hc, rfl⟩ := h
  have := (by decide +kernel : ∀ c ∈ WORDS, (mkS c).length ≤ 1000 ∧ (Txt.replace (mkS c) (Str.ofString "=") (Str.ofString "=3D")).length ≤ 1000)
  exact this c hc
end Mine
end
section
open PySem PySem.W PyProof.Rows
namespace Mine
theorem typeCall_int_2 (a b : Value) : checkTypeCall "int" ⟨[a, b], []⟩ = pure () := by kernel_rfl
theorem newCall_int_2 (a b : Value) : checkBuiltinCall "int.__new__" ⟨[.type "int", a, b], []⟩ = pure () := by kernel_rfl
def n16 (y : Str) : List Nat := if y.cps.all (· < 128) then y.cps.toList else Unicode.numberText y.cps.toList
theorem new_text16 (y : Str) (u v : Tok) : Builtin.«int.__new__» ⟨[.type "int", .str y u, .int 16 v], []⟩ = ((int_private% "intFromText") (.str y u) (n16 y) 16 >>= fun v => ret v) := by kernel_rfl
def CODES : List (Nat × Nat × Nat) := [(51, 68, 61), (69, 57, 233), (50, 48, 32), (53, 70, 95), (50, 69, 46)]
theorem text16 (u : Tok) : ∀ p ∈ CODES, (int_private% "intFromText") (.str ⟨#[p.1, p.2.1]⟩ u) (n16 ⟨#[p.1, p.2.1]⟩) 16 = mkInt (p.2.2 : Nat) := by
  intro p hp
  simp only [CODES, List.mem_cons, List.not_mem_nil, or_false] at hp
  rcases hp with rfl | rfl | rfl | rfl | rfl <;> kernel_rfl
section
variable {prog : Program} {w : World} {A : Around} {E : Value → Shared → Prop} {s : Shared} {Q : Value → Shared → Prop}
theorem call_int16 {p : Nat × Nat × Nat} {u v : Tok} (hp : p ∈ CODES) (h : Q (.int (p.2.2 : Nat) s.toks) { s with toks := s.toks + 1 }) :
    wpAny (model prog w) A (call (.type "int") [.str ⟨#[p.1, p.2.1]⟩ u, .int 16 v]) Q E s :=
  callType_new F.called_int F.newNe_int (typeCall_int_2 _ _) (newCall_int_2 _ _) (fun obj => F.args_object_init_3 obj _ _) F.entry_int_new
    (Gives.meets (m := .int (p.2.2 : Nat)) (.of_eq (by rw [new_text16, text16 u p hp]; rfl))) (show (Made.int (p.2.2 : Nat)).post _ s from ⟨rfl, h⟩)
end
end Mine
namespace Mine
def codeS (p : Nat × Nat × Nat) : Str := ⟨#[61, p.1, p.2.1]⟩
def isCodeS (x : Str) : Prop := ∃ p ∈ CODES, x = codeS p
def hexOf (y : Str) : Option Nat := (CODES.find? fun p => y.cps.toList == [p.1, p.2.1]).map (·.2.2)
def unqV (x : Str) : Nat := (hexOf (Txt.slice x (some 1) (some 3))).getD 0
def unqF (x : Str) : Str := ⟨#[unqV x]⟩
theorem hexOf_some {y : Str} {n : Nat} (h : hexOf y = some n) : ∃ p ∈ CODES, y = ⟨#[p.1, p.2.1]⟩ ∧ p.2.2 = n := by
  unfold hexOf at h
  obtain ⟨p, hp, hn⟩ := Option.map_eq_some_iff.mp h
  refine ⟨p, List.mem_of_find?_eq_some hp, ?_, hn⟩
  have e := List.find?_some hp
  have e' : y.cps.toList = [p.1, p.2.1] := by simpa using e
  exact Str.ext' (Array.toList_inj.mp (by rw [e']))
theorem codeS_facts {x : Str} (h : isCodeS x) : hexOf (Txt.slice x (some 1) (some 3)) = some (unqV x) ∧ x.length ≤ 1000 ∧ unqV x < 256 := by
  obtain ⟨p, hp, rfl⟩ := h
  exact (by decide +kernel : ∀ p ∈ CODES, hexOf (Txt.slice (codeS p) (some 1) (some 3)) = some (unqV (codeS p)) ∧ (codeS p).length ≤ 1000 ∧ unqV (codeS p) < 256) p hp
theorem call_hex {prog : Program} {w : World} {A : Around} {E : Value → Shared → Prop} {s : Shared} {Q : Value → Shared → Prop} {y : Str} {n : Nat} {u v : Tok} (hy : hexOf y = some n)
    (h : Q (.int (n : Int) s.toks) { s with toks := s.toks + 1 }) : wpAny (model prog w) A (call (.type "int") [.str y u, .int 16 v]) Q E s := by
  obtain ⟨p, hp, rfl, rfl⟩ := hexOf_some hy
  exact call_int16 hp h
end Mine
end
section
open PySem PySem.W PyProof.Rows
namespace Mine
def codeV (a b : Nat) : Option Nat := (CODES.find? fun p => p.1 == a && p.2.1 == b).map (·.2.2)
def decL : List Nat → List Nat
  | 61 :: a :: b :: t => (codeV a b).getD 0 :: decL t
  | c :: t => c :: decL t
  | [] => []
def goodL : List Nat → Bool
  | 61 :: a :: b :: t => (codeV a b).isSome && goodL t
  | 61 :: _ => false
  | _ :: t => goodL t
  | [] => true
def decF (x : Str) : Str := mkS (decL x.cps.toList)
def decOK (x : Str) : Bool := decide (x.length ≤ 1000) && decide (x.length ≠ 0) && (Txt.lines x == [x]) && (Txt.rstrip x == x) && goodL x.cps.toList && !(Txt.contains (Str.ofString "\r\n") (Txt.item x (-1)))
def D1 (line decoded : Str) (i : Int) : Prop :=
  goodL (line.cps.toList.drop i.toNat) = true ∧ (i < (line.length : Int) → decoded.cps.toList ++ decL (line.cps.toList.drop i.toNat) = decL line.cps.toList) ∧ (i = (line.length : Int) → decoded.cps.toList = decL line.cps.toList ++ [10]) ∧ (i < (line.length : Int) → (decoded.length : Int) ≤ i)
section
variable {prog : Program} {w : World} {A : Around} {E : Value → Shared → Prop} {s : Shared} {Q : Value → Shared → Prop} {h₀ : Heap} {L : Addr} {m : Str → Option Value} {news : List (Addr × Obj)} {x : Str} {t : Tok}
theorem splitlines1 (F : Fr h₀ L s.heap m) (N : News h₀ L s.heap news) (hx : Txt.lines x = [x]) (hl : x.length ≤ 1000)
    (h : ∀ l t' h' k, Fr h₀ L h' m → News h₀ L h' ((l, W.listOf #[.str x t'] 0) :: news) → (∀ p ∈ news, p.1 < l) → Q (.ref l) { s with heap := h', toks := k }) :
    wpAny (model prog w) A (call (.builtin "str.splitlines") [.str x t]) Q E s := by
  refine splitlinesNA F N (fun l h' k e _ _ _ F' N' => ?_) (by rw [sizeLine_eq]; omega)
  rw [hx] at e
  match l, e with
  | [(y, t')], e =>
    have : y = x := by simpa using e
    subst this
    exact h _ t' h' k F' N' fun p hp => Heap.lt_size (N p hp).1
theorem rstrip1 (hx : Txt.rstrip x = x) (hl : x.length ≤ 1000) (h : ∀ t' k, Q (.str x t') { s with toks := k }) : wpAny (model prog w) A (call (.builtin "str.rstrip") [.str x t]) Q E s :=
  SCL.rstrip (fun t' k _ => by rw [hx]; exact h t' k) (by rw [sizeLine_eq]; omega)
end
end Mine
end
section
open PySem PySem.W PyProof.Rows
namespace Mine
theorem decL_cons {c : Nat} (t : List Nat) (h : c ≠ 61) : decL (c :: t) = c :: decL t := by
  rw [decL]; intro a b t' e; exact absurd e h
theorem goodL_cons {c : Nat} (t : List Nat) (h : c ≠ 61) : goodL (c :: t) = goodL t := by
  rw [goodL]
  · intro a b t' e; exact absurd e h
  · intro e; exact h e
theorem goodL_code {t : List Nat} (h : goodL (61 :: t) = true) : ∃ a b t' v, t = a :: b :: t' ∧ codeV a b = some v ∧ goodL t' = true := by
  match t, h with
  | [], h => exact absurd h (by decide)
  | [_], h => simp [goodL] at h
  | a :: b :: t', h =>
    rw [goodL, Bool.and_eq_true] at h
    obtain ⟨v, hv⟩ := Option.isSome_iff_exists.mp h.1
    exact ⟨a, b, t', v, rfl, hv, h.2⟩
theorem suf {x : Str} {i : Int} (h0 : 0 ≤ i) (h1 : i < (x.length : Int)) : ∃ c, x.cps.toList.drop i.toNat = c :: x.cps.toList.drop (i + 1).toNat ∧ Txt.item x i = ⟨#[c]⟩ := by
  have hk : i.toNat < x.cps.toList.length := by simp [Str.length] at h1; simp; omega
  refine ⟨x.cps.toList[i.toNat], ?_, ?_⟩
  · rw [show (i + 1).toNat = i.toNat + 1 by omega]; exact List.drop_eq_getElem_cons hk
  · rw [item_at h0 h1, List.getElem?_eq_getElem hk]; rfl
theorem eq_is : Str.ofString "=" = ⟨#[61]⟩ := by decide +kernel
theorem nl_is : Str.ofString "\n" = ⟨#[10]⟩ := by decide +kernel
theorem nil_is : Str.ofString "" = ⟨#[]⟩ := by decide +kernel
theorem ne_code {c : Nat} (h : ((⟨#[c]⟩ : Str) != Str.ofString "=") = true) : c ≠ 61 := by
  rw [bne, one_eq eq_is] at h; simpa using h
theorem eq_code {c : Nat} (h : ((⟨#[c]⟩ : Str) != Str.ofString "=") = false) : c = 61 := by
  rw [bne, one_eq eq_is] at h; simpa using h
theorem len_toList (x : Str) : x.cps.toList.length = x.length := by simp [Str.length]
theorem toList_app (a b : Str) : (a ++ b).cps.toList = a.cps.toList ++ b.cps.toList := by rw [Str.cps_append, Array.toList_append]

abbrev W1 (x d : Str) (i : Int) : Prop := 0 ≤ i ∧ i ≤ (x.length : Int) ∧ (d.length : Int) ≤ i + 1 ∧ D1 x d i
theorem W1.start {x : Str} (hg : goodL x.cps.toList = true) (hne : x.length ≠ 0) : W1 x (Str.ofString "") 0 := by
  refine ⟨by omega, by omega, by rw [nil_is]; decide, ?_, ?_, ?_, ?_⟩
  · simpa using hg
  · intro _; rw [nil_is]; simp
  · intro e; omega
  · intro _; rw [nil_is]; decide
theorem D1.one {x d : Str} {i : Int} (r : D1 x d i) (h0 : 0 ≤ i) (h1 : i < (x.length : Int)) (hc : (Txt.item x i != Str.ofString "=") = true) :
    goodL (x.cps.toList.drop (i + 1).toNat) = true ∧ (d ++ Txt.item x i).cps.toList ++ decL (x.cps.toList.drop (i + 1).toNat) = decL x.cps.toList ∧ (d.length : Int) + 1 ≤ i + 1 ∧ (d ++ Txt.item x i).length = d.length + 1 := by
  obtain ⟨c, hs, hi⟩ := suf h0 h1
  rw [hi] at hc ⊢
  have hne := ne_code hc
  obtain ⟨g, e, _, l⟩ := r
  rw [hs, goodL_cons _ hne] at g
  have e := e h1
  rw [hs, decL_cons _ hne] at e
  have l := l h1
  refine ⟨g, ?_, by omega, by rw [Str.length_append]; rfl⟩
  rw [toList_app, List.append_assoc]; exact e
theorem drop_len {x : Str} {i : Int} (h : i = (x.length : Int)) : x.cps.toList.drop i.toNat = [] := by
  apply List.drop_of_length_le; rw [len_toList]; omega
theorem W1.oneEnd {x d : Str} {i : Int} (r : D1 x d i) (h0 : 0 ≤ i) (h1 : i < (x.length : Int)) (hc : (Txt.item x i != Str.ofString "=") = true) (he : i + 1 = (x.length : Int)) : W1 x (d ++ Txt.item x i ++ Str.ofString "\n") (i + 1) := by
  obtain ⟨g, e, l, l2⟩ := r.one h0 h1 hc
  have hl : (d ++ Txt.item x i ++ Str.ofString "\n").length = d.length + 2 := by rw [Str.length_append, l2, nl_is]; rfl
  rw [drop_len he] at e
  have e : (d ++ Txt.item x i).cps.toList = decL x.cps.toList := by simpa [decL] using e
  refine ⟨by omega, by omega, by omega, g, fun q => by omega, fun _ => ?_, fun q => by omega⟩
  rw [toList_app, e, nl_is]
theorem W1.oneOn {x d : Str} {i : Int} (r : D1 x d i) (h0 : 0 ≤ i) (h1 : i < (x.length : Int)) (hc : (Txt.item x i != Str.ofString "=") = true) (he : i + 1 ≠ (x.length : Int)) : W1 x (d ++ Txt.item x i) (i + 1) := by
  obtain ⟨g, e, l, l2⟩ := r.one h0 h1 hc
  exact ⟨by omega, by omega, by omega, g, fun _ => e, fun q => absurd q he, fun q => by omega⟩
theorem D1.code {x d : Str} {i : Int} (r : D1 x d i) (h0 : 0 ≤ i) (h1 : i < (x.length : Int)) (hc : (Txt.item x i != Str.ofString "=") = false) :
    i + 3 ≤ (x.length : Int) ∧ ∃ a b v, codeV a b = some v ∧ x.cps.toList.drop i.toNat = 61 :: a :: b :: x.cps.toList.drop (i + 3).toNat ∧ goodL (x.cps.toList.drop (i + 3).toNat) = true ∧
      d.cps.toList ++ v :: decL (x.cps.toList.drop (i + 3).toNat) = decL x.cps.toList ∧ (d.length : Int) ≤ i := by
  obtain ⟨c, hs, hi⟩ := suf h0 h1
  rw [hi] at hc
  have h61 := eq_code hc
  subst h61
  obtain ⟨g, e, _, l⟩ := r
  rw [hs] at g
  have e := e h1
  obtain ⟨a, b, t', v, ht, hv, hg⟩ := goodL_code g
  rw [hs, ht, decL, hv] at e
  have hd : x.cps.toList.drop (i + 3).toNat = t' := by
    have e3 : (i + 3).toNat = (i + 1).toNat + 2 := by omega
    rw [e3, ← List.drop_drop, ht]; rfl
  have hlen : i + 3 ≤ (x.length : Int) := by
    have q := congrArg List.length ht
    rw [List.length_drop, len_toList] at q
    simp only [List.length_cons] at q
    omega
  refine ⟨hlen, a, b, v, hv, ?_, ?_, ?_, l h1⟩
  · rw [hs, ht, hd]
  · rw [hd]; exact hg
  · rw [hd]; exact e
theorem code_mem {a b v : Nat} (h : codeV a b = some v) : (a, b, v) ∈ CODES := by
  unfold codeV at h
  obtain ⟨p, hp, hn⟩ := Option.map_eq_some_iff.mp h
  have e := List.find?_some hp
  simp only [Bool.and_eq_true, beq_iff_eq] at e
  have : p = (a, b, v) := by rw [← e.1, ← e.2, ← hn]
  rw [← this]; exact List.mem_of_find?_eq_some hp
theorem slice3 {x : Str} {i : Int} (h0 : 0 ≤ i) (h3 : i + 3 ≤ (x.length : Int)) : Txt.slice x (some i) (some (i + 3)) = ⟨((x.cps.toList.drop i.toNat).take 3).toArray⟩ := by
  have := eq_of_beq (slice_closes (x := x) (i := i) (j := i + 3) ⟨h0, by omega, by rw [len_toList]; exact h3⟩)
  rw [this, show (i + 3 - i).toNat = 3 by omega]
theorem D1.isCode {x d : Str} {i : Int} (r : D1 x d i) (h0 : 0 ≤ i) (h1 : i < (x.length : Int)) (hc : (Txt.item x i != Str.ofString "=") = false) : isCodeS (Txt.slice x (some i) (some (i + 3))) := by
  obtain ⟨h3, a, b, v, hv, hs, _⟩ := r.code h0 h1 hc
  refine ⟨(a, b, v), code_mem hv, ?_⟩
  rw [slice3 h0 h3, hs]; rfl
theorem unqV_code : ∀ p ∈ CODES, unqV (codeS p) = p.2.2 := by decide +kernel
theorem D1.codeV {x d : Str} {i : Int} (r : D1 x d i) (h0 : 0 ≤ i) (h1 : i < (x.length : Int)) (hc : (Txt.item x i != Str.ofString "=") = false) :
    i + 3 ≤ (x.length : Int) ∧ goodL (x.cps.toList.drop (i + 3).toNat) = true ∧ (d ++ (⟨#[unqV (Txt.slice x (some i) (some (i + 3)))]⟩ : Str)).cps.toList ++ decL (x.cps.toList.drop (i + 3).toNat) = decL x.cps.toList ∧ (d.length : Int) ≤ i := by
  obtain ⟨h3, a, b, v, hv, hs, hg, e, l⟩ := r.code h0 h1 hc
  have : unqV (Txt.slice x (some i) (some (i + 3))) = v := by
    have e3 : (⟨((61 :: a :: b :: x.cps.toList.drop (i + 3).toNat).take 3).toArray⟩ : Str) = Mine.codeS (a, b, v) := rfl
    rw [slice3 h0 h3, hs, e3]; exact unqV_code (a, b, v) (code_mem hv)
  refine ⟨h3, hg, ?_, l⟩
  rw [this, toList_app, List.append_assoc]; exact e
theorem len_one (d : Str) (v : Nat) : (d ++ (⟨#[v]⟩ : Str)).length = d.length + 1 := by rw [Str.length_append]; rfl
theorem W1.codeEnd {x d : Str} {i : Int} (r : D1 x d i) (h0 : 0 ≤ i) (h1 : i < (x.length : Int)) (hc : (Txt.item x i != Str.ofString "=") = false) (he : i + 3 = (x.length : Int)) :
    W1 x (d ++ (⟨#[unqV (Txt.slice x (some i) (some (i + 3)))]⟩ : Str) ++ Str.ofString "\n") (i + 3) := by
  obtain ⟨h3, g, e, l⟩ := r.codeV h0 h1 hc
  have hl : (d ++ (⟨#[unqV (Txt.slice x (some i) (some (i + 3)))]⟩ : Str) ++ Str.ofString "\n").length = d.length + 2 := by rw [Str.length_append, len_one, nl_is]; rfl
  rw [drop_len he] at e
  have e : (d ++ (⟨#[unqV (Txt.slice x (some i) (some (i + 3)))]⟩ : Str)).cps.toList = decL x.cps.toList := by simpa [decL] using e
  refine ⟨by omega, by omega, by omega, g, fun q => by omega, fun _ => ?_, fun q => by omega⟩
  rw [toList_app, e, nl_is]
theorem W1.codeOn {x d : Str} {i : Int} (r : D1 x d i) (h0 : 0 ≤ i) (h1 : i < (x.length : Int)) (hc : (Txt.item x i != Str.ofString "=") = false) (he : i + 3 ≠ (x.length : Int)) :
    W1 x (d ++ (⟨#[unqV (Txt.slice x (some i) (some (i + 3)))]⟩ : Str)) (i + 3) := by
  obtain ⟨h3, g, e, l⟩ := r.codeV h0 h1 hc
  have hl := len_one d (unqV (Txt.slice x (some i) (some (i + 3))))
  exact ⟨by omega, by omega, by omega, g, fun _ => e, fun q => absurd q he, fun q => by omega⟩
theorem D1.noEnd {x d : Str} {i : Int} (r : D1 x d i) (h0 : 0 ≤ i) (h1 : i < (x.length : Int)) (hc : (Txt.item x i != Str.ofString "=") = false) (he : i + 1 = (x.length : Int)) : False := by
  have := (r.code h0 h1 hc).1; omega
theorem D1.noShort {x d : Str} {i : Int} (r : D1 x d i) (h0 : 0 ≤ i) (h1 : i < (x.length : Int)) (hc : (Txt.item x i != Str.ofString "=") = false) (he : ¬ i + 2 < (x.length : Int)) : False := by
  have := (r.code h0 h1 hc).1; omega
theorem hex_in : ∀ p ∈ CODES, (Builtin.Str.occurrences (Str.ofString "0123456789abcdefABCDEF") ⟨#[p.1]⟩ 0 (Str.ofString "0123456789abcdefABCDEF").length 1).isEmpty = false ∧
    (Builtin.Str.occurrences (Str.ofString "0123456789abcdefABCDEF") ⟨#[p.2.1]⟩ 0 (Str.ofString "0123456789abcdefABCDEF").length 1).isEmpty = false := by decide +kernel
theorem D1.noHex1 {x d : Str} {i : Int} (r : D1 x d i) (h0 : 0 ≤ i) (h1 : i < (x.length : Int)) (hc : (Txt.item x i != Str.ofString "=") = false)
    (he : (Builtin.Str.occurrences (Str.ofString "0123456789abcdefABCDEF") (Txt.item x (i + 1)) 0 (Str.ofString "0123456789abcdefABCDEF").length 1).isEmpty = true) : False := by
  obtain ⟨h3, a, b, v, hv, hs, _⟩ := r.code h0 h1 hc
  obtain ⟨c, hs1, hi1⟩ := suf (x := x) (i := i) h0 h1
  obtain ⟨c', hs2, hi2⟩ := suf (x := x) (i := i + 1) (by omega) (by omega)
  rw [hs1, hs2] at hs
  injection hs with _ hs
  injection hs with ha _
  rw [hi2, ha, (hex_in _ (code_mem hv)).1] at he
  exact absurd he (by decide)
theorem D1.noHex2 {x d : Str} {i : Int} (r : D1 x d i) (h0 : 0 ≤ i) (h1 : i < (x.length : Int)) (hc : (Txt.item x i != Str.ofString "=") = false)
    (he : (Builtin.Str.occurrences (Str.ofString "0123456789abcdefABCDEF") (Txt.item x (i + 2)) 0 (Str.ofString "0123456789abcdefABCDEF").length 1).isEmpty = true) : False := by
  obtain ⟨h3, a, b, v, hv, hs, _⟩ := r.code h0 h1 hc
  obtain ⟨c, hs1, hi1⟩ := suf (x := x) (i := i) h0 h1
  obtain ⟨c', hs2, hi2⟩ := suf (x := x) (i := i + 1) (by omega) (by omega)
  obtain ⟨c2, hs3, hi3⟩ := suf (x := x) (i := i + 1 + 1) (by omega) (by omega)
  rw [hs1, hs2, hs3] at hs
  injection hs with _ hs
  injection hs with _ hs
  injection hs with hb _
  rw [show i + 2 = i + 1 + 1 by omega, hi3, hb, (hex_in _ (code_mem hv)).2] at he
  exact absurd he (by decide)
theorem D1.fin {x d : Str} {i : Int} (r : D1 x d i) (h1 : ¬ i < (x.length : Int)) (h2 : i ≤ (x.length : Int)) : d = mkS (decL x.cps.toList ++ [10]) := by
  have e := r.2.2.1 (by omega)
  exact Str.ext' (Array.toList_inj.mp (by rw [e]; rfl))
theorem cut_last (l : List Nat) (c : Nat) : Txt.slice (mkS (l ++ [c])) none (some (-1)) = mkS l := by
  have h : Txt.slice (mkS (l ++ [c])) none (some (-1)) = Txt.slice (mkS (l ++ [c])) none (some (l.length : Int)) := by
    unfold Txt.slice Builtin.Str.strSliceIndices
    have : (mkS (l ++ [c])).length = l.length + 1 := by simp [mkS, Str.length]
    simp only [this]
    have e : (-1 : Int) + ((l.length : Int) + 1) = (l.length : Int) := by omega
    have n : ¬ (l.length : Int) < 0 := by omega
    simp [n]
    rw [e]
  rw [h]
  have := eq_of_beq (slice_closes_to (x := mkS (l ++ [c])) (j := (l.length : Int)) ⟨by omega, by simp [mkS]; omega⟩)
  rw [this]
  simp [mkS]
theorem ends_nl (l : List Nat) : Txt.endswith (mkS (l ++ [10])) (Str.ofString "\n") = true := by
  rw [nl_is]
  unfold Txt.endswith
  rw [StrLaws.subAt_eq]
  simp [mkS, Str.length]
theorem dec_end1 {x d : Str} {i : Int} (r : D1 x d i) (h1 : ¬ i < (x.length : Int)) (h2 : i ≤ (x.length : Int)) : Txt.slice d none (some (-((1 : Nat) : Int))) = decF x := by
  rw [r.fin h1 h2]
  exact cut_last _ _
theorem dec_end2 {x d : Str} {i : Int} (r : D1 x d i) (h1 : ¬ i < (x.length : Int)) (h2 : i ≤ (x.length : Int)) (h : Txt.endswith d (Str.ofString "\n") = false) : False := by
  rw [r.fin h1 h2, ends_nl] at h
  cases h
theorem dec_end3 {x : Str} (h : Txt.contains (Str.ofString "\r\n") (Txt.item x (-1)) = false) (h' : (Builtin.Str.occurrences (Str.ofString "\r\n") (Txt.item x (-1)) 0 (Str.ofString "\r\n").length 1).isEmpty = false) : False := by
  unfold Txt.contains at h
  rw [h'] at h
  cases h
end Mine
end
section
open PySem PySem.W PyProof.Rows PySem.Calls PySem.Spec
namespace Mine
/-- what stood stands -/
def Keeps (h h' : Heap) : Prop := ∀ b o, h.get? b = some o → h'.get? b = some o
theorem Keeps.trans {a b c : Heap} (x : Keeps a b) (y : Keeps b c) : Keeps a c := fun p o e => y p o (x p o e)
theorem keeps_fr {h₀ h h' : Heap} {L : Addr} {m : Str → Option Value} (F : Fr h₀ L h m) (k : Keeps h h') : Fr h₀ L h' m := by
  obtain ⟨oL, a1, a2, hL, a3⟩ := F.ns
  exact ⟨⟨oL, a1, a2, k _ _ hL, a3⟩, fun b o e => k _ _ (F.keep b o e), F.above⟩
theorem keeps_news {h₀ h h' : Heap} {L : Addr} {news : List (Addr × Obj)} (N : News h₀ L h news) (k : Keeps h h') : News h₀ L h' news :=
  fun p hp => ⟨k _ _ (N p hp).1, (N p hp).2⟩
section
variable {prog : Program} {w : World} {A₀ A : Around} {s : Shared} {base h₀ : Heap} {outer : List Env} {L : Addr} {m mg mb : Str → Option Value} {env : Env} {K : Frag} {p : Program} {loose : List Str} {mean : ExcName → Option Value}
  {R : Result → Shared → Prop} {name qual : Str} {params : Arguments} {body : List Stmt} {scope : Scope} {dV kV doc pm cdv ct oc : Value} {an od : Option Addr} {osl : Array (Option Value)} {f : Addr} {args : Args} {binds : List (Str × Value)}
theorem enter0 (B : Below A₀ base outer h₀) (F : Fr h₀ L s.heap m) (X₀ : K.In h₀) (T : Top p loose mean mg mb h₀) (hA : A.frames = some (env :: outer)) (hf : env.frame = some L) (hke : env.scope.kind = .function)
    (ho : K.lookup f = some ⟨oc, od, .func (fnOf name qual params body scope dV kV doc pm an cdv ct), osl⟩) (hcd : codeIn K cdv qual = true) (hroom : A.depth < recursionLimit)
    (hbind : BindsTo s (fnOf name qual params body scope dV kV doc pm an cdv ct) args binds) (hloc : ∀ y ∈ binds, scope.names.lookup y.1 = some .local)
    (h : ∀ g L' h₁, Keeps s.heap g → Fr g L' h₁ (fun y => binds.reverse.lookup y) → News g L' h₁ [] → Below A base (env :: outer) g → K.In g → Top p loose mean mg mb g →
      wpAny (model prog w) (A.deeper (envOf qual scope L' f cdv)) (execs body (envOf qual scope L' f cdv))
        (fun fl s' => R (.ok (.ret (match fl with | .ret v => v | _ => .none))) s')
        (fun e s' => wpAny (model prog w) (A.deeper (envOf qual scope L' f cdv)) (leaving (envOf qual scope L' f cdv) e) (fun _ s'' => R (.error e) s'') (fun e' s'' => R (.error e') s'') s')
        { s with heap := h₁, toks := s.toks + binds.length })
    (hco : scope.isCoroutine = false) (hgen : scope.isGenerator = false) (hk : scope.kind = .function)
    (hcell : ∀ x ∈ scope.names, x.2 ≠ .cell) : codeAny (model prog w) A (.call (.ref f) args) R s := by
  have B₁ : Below A base (env :: outer) s.heap := ⟨hA, fun b o e => F.keep b o (B.stays b o e), (pushX B F hf hke).frames⟩
  refine codeAny_call_def (fd := fnOf name qual params body scope dV kV doc pm an cdv ct) (body := body) (binds := binds) hroom ((X₀.keeps F.keep) _ _ ho) rfl (T.nolimit.keeps F.keep) (codeRec_of (X₀.keeps F.keep) hcd) rfl hbind hcell hloc (fun h₁ hns hk₁ => ?_) hco hgen hk
  exact h s.heap s.heap.objs.size h₁ (fun _ _ e => e) ⟨hns, hk₁, Nat.le_refl _⟩ News.nil B₁ (X₀.keeps F.keep) (T.keeps F.keep)

theorem enter0C (B : Below A₀ base outer h₀) (F : Fr h₀ L s.heap m) (X₀ : K.In h₀) (T : Top p loose mean mg mb h₀) (hA : A.frames = some (env :: outer)) (hf : env.frame = some L) (hke : env.scope.kind = .function)
    (ho : K.lookup f = some ⟨oc, od, .func (fnOf name qual params body scope dV kV doc pm an cdv ct), osl⟩) (hcd : codeIn K cdv qual = true) (hroom : A.depth < recursionLimit)
    (hbind : BindsTo s (fnOf name qual params body scope dV kV doc pm an cdv ct) args binds) (hkind : (binds.all fun y => scope.names.lookup y.1 == some .local || scope.names.lookup y.1 == some .cell) = true)
    (hnd : ((cellsFrom 0 scope.names []).map (·.1)).Nodup)
    (h : ∀ g L' h₁ tk cells, Keeps s.heap g → Fr g L' h₁ (bindL (envOfC qual scope L' f cdv).kindOf binds fun _ => none) → News g L' h₁ cells →
      CellsAre (bindC (envOfC qual scope L' f cdv).kindOf binds fun _ => none) (cellsFrom (L' + 1) scope.names []) cells → Below A base (env :: outer) g → K.In g → Top p loose mean mg mb g →
      wpAny (model prog w) (A.deeper (envOfC qual scope L' f cdv)) (execs body (envOfC qual scope L' f cdv))
        (fun fl s' => R (.ok (.ret (match fl with | .ret v => v | _ => .none))) s')
        (fun e s' => wpAny (model prog w) (A.deeper (envOfC qual scope L' f cdv)) (leaving (envOfC qual scope L' f cdv) e) (fun _ s'' => R (.error e) s'') (fun e' s'' => R (.error e') s'') s')
        { s with heap := h₁, toks := tk })
    (hco : scope.isCoroutine = false) (hgen : scope.isGenerator = false) (hk : scope.kind = .function) : codeAny (model prog w) A (.call (.ref f) args) R s := by
  have B₁ : Below A base (env :: outer) s.heap := ⟨hA, fun b o e => F.keep b o (B.stays b o e), (pushX B F hf hke).frames⟩
  refine codeAny_call_function (fd := fnOf name qual params body scope dV kV doc pm an cdv ct) hroom ((X₀.keeps F.keep) _ _ ho) rfl hco hgen rfl (codeRec_of (X₀.keeps F.keep) hcd) (hbind _ _ _ _ ?_)
  refine wpAny_newFunctionEnv_cells hk (kindsX hkind _) fun env' he s' x => ?_
  subst he
  refine ⟨(T.nolimit.keeps F.keep).keeps x.toInCall.keep, codeAny_func ?_⟩
  obtain ⟨h₁, tk, rfl, _⟩ := x.done
  have hk₁ := x.toInCall.keep
  obtain ⟨cells, NC, Y⟩ := Cl.news (h₀ := s.heap) (Nat.le_refl _) fun n c hm => ⟨x.cell n c (lookup_of_mem_nodup (cellsFrom_names scope.names 0 (s.heap.objs.size + 1) [] [] rfl ▸ hnd) hm), x.above n c hm⟩
  exact h s.heap s.heap.objs.size h₁ tk cells (fun _ _ e => e) ⟨x.toInCall.ns, hk₁, Nat.le_refl _⟩ NC Y B₁ (X₀.keeps F.keep) (T.keeps F.keep)
end
/-- the contract of a def that gives back a text and leaves what stood -/
noncomputable abbrev KCS (w : World) (mean : ExcName → Option Value) (mg mb : Str → Option Value) (rm ru : Nat) (f : Addr) (pre : Prop) (vs : List Value) (x : Str) : Prop :=
  ∀ (dp un : Nat) (gd : Option (List Code)) (cn : Str) (cs : Scope) (a : Addr) (ccd : Value) (cl : List (Str × Addr)) (outer : List Env) (A₀ : Around) (base h₀ : Heap) (L : Addr) (m : Str → Option Value) (s : Shared) (Q E : Value → Shared → Prop),
    Below A₀ base outer h₀ → Fr h₀ L s.heap m → (hd.heap_39 w.params).In h₀ → Top VW LO mean mg mb h₀ → cs.kind = .function → pre → dp + rm < recursionLimit → un + ru < cLine →
    (∀ (t : Tok) (h' : Heap) (tk' : Nat), Keeps s.heap h' → Q (.str x t) { s with heap := h', toks := tk' }) →
    wpAny (model PR w) (ktrTop dp un gd cn cs L a ccd cl outer) (call (.ref f) vs) Q E s
theorem KCS.use {w : World} {mean : ExcName → Option Value} {mg mb : Str → Option Value} {rm ru : Nat} {f : Addr} {pre : Prop} {vs : List Value} {x : Str} (c : KCS w mean mg mb rm ru f pre vs x)
    {dp un : Nat} {gd : Option (List Code)} {cn : Str} {cs : Scope} {a : Addr} {ccd : Value} {cl : List (Str × Addr)} {outer : List Env} {A₀ : Around} {base h₀ : Heap} {L : Addr} {m : Str → Option Value} {s : Shared} {Q E : Value → Shared → Prop}
    (k1 : Below A₀ base outer h₀) (k2 : Fr h₀ L s.heap m) (k3 : (hd.heap_39 w.params).In h₀) (k5 : Top VW LO mean mg mb h₀) (kK : cs.kind = .function) (kp : pre) (kd : dp + rm < recursionLimit) (ku : un + ru < cLine)
    (kR : ∀ (t : Tok) (h' : Heap) (tk' : Nat), Keeps s.heap h' → Q (.str x t) { s with heap := h', toks := tk' }) : wpAny (model PR w) (ktrTop dp un gd cn cs L a ccd cl outer) (call (.ref f) vs) Q E s :=
  c dp un gd cn cs a ccd cl outer A₀ base h₀ L m s Q E k1 k2 k3 k5 kK kp kd ku kR
theorem kc_go {s : Shared} {Q : Value → Shared → Prop} {x : Str} (hret : ∀ (t : Tok) (h' : Heap) (tk' : Nat), Keeps s.heap h' → Q (.str x t) { s with heap := h', toks := tk' }) :
    ∀ ⦃g h' : Heap⦄ ⦃L' : Addr⦄ ⦃m' : Str → Option Value⦄ ⦃y : Str⦄ ⦃t : Tok⦄ ⦃tk' : Nat⦄, Keeps s.heap g → Fr g L' h' m' → y = x → Q (.str y t) { s with heap := h', toks := tk' } := by
  intro g h' L' m' y t tk' kg F e
  subst e
  exact hret t h' tk' (kg.trans F.keep)
end Mine
end
section
open PySem PySem.W PyProof.Rows
namespace Mine
open Builtin Builtin.Str
section
variable {prog : Program} {w : World} {A : Around} {E : Value → Shared → Prop} {s : Shared}
theorem lookup_ok {Q : Mapped → Shared → Prop} {T : Addr} {items : Array Value} {c : Nat} {y : Str} {ty : Tok} (hl : s.heap.IsList T items) (hc : c < 256) (hx : items[c]? = some (.str y ty))
    (h : ∀ k, Q (.text y) { s with toks := k }) : wpAny (model prog w) A (tableLookup (.ref T) c) Q E s := by
  unfold tableLookup
  refine wpAny_bind (wpAny_attempt (wpAny_bind (wpAny_mkInt (wpAny_getItem_list (s := { s with toks := s.toks + 1 }) (items := items) hl (by omega) (by omega) (by simpa using hx) ?_))))
  exact wpAny_pure (h _)
/-- what the loop of translate has gathered -/
def TrI (whole : List Nat) (F : Nat → Str) (s : Shared) (rest : List Nat) (b : List Str × Nat × Bool × List (Nat × Option Nat) × Bool) (s' : Shared) : Prop :=
  ∃ pre, whole = pre ++ rest ∧ b.1.reverse = pre.map F ∧ b.2.1 = ((pre.map F).map (·.length)).sum ∧ (∀ c a, b.2.2.2.1.lookup c = some a → ∃ d, a = some d ∧ F c = ⟨#[d]⟩) ∧ b.2.2.2.2 = false ∧ ∃ k, s' = { s with toks := k }
theorem TrI.step {whole : List Nat} {F : Nat → Str} {s s' : Shared} {c : Nat} {rest : List Nat} {ps : List Str} {n : Nat} {f f' : Bool} {kn kn' : List (Nat × Option Nat)} {y : Str} {m k : Nat}
    (h : TrI whole F s (c :: rest) (ps, n, f, kn, false) s') (hy : y = F c) (hm : m = n + (F c).length) (hk : ∀ c a, kn'.lookup c = some a → ∃ d, a = some d ∧ F c = ⟨#[d]⟩) : TrI whole F s rest (y :: ps, m, f', kn', false) { s' with toks := k } := by
  obtain ⟨pre, hw, hp, hn, _, _, k₀, rfl⟩ := h
  subst hy
  refine ⟨pre ++ [c], by simp [hw], ?_, ?_, hk, rfl, k, rfl⟩
  · simp at hp ⊢; exact hp
  · simp at hn ⊢; rw [hm, hn]
theorem sum_le3 {F : Nat → Str} : ∀ (pre : List Nat), (∀ c ∈ pre, (F c).length ≤ 3) → ((pre.map F).map (·.length)).sum ≤ 3 * pre.length
  | [], _ => by simp
  | c :: t, h => by
    have h1 := sum_le3 t fun d hd => h d (.tail _ hd)
    have h2 := h c (.head _)
    simp only [List.map_cons, List.sum_cons, List.length_cons]
    omega
theorem one_char {y : Str} (h : (y.length == 1 && y.cps.all fun x => decide (x < 128)) = true) : ∃ d, y.cps[0]? = some d ∧ y = ⟨#[d]⟩ := by
  rw [Bool.and_eq_true, beq_iff_eq] at h
  obtain ⟨cs⟩ := y
  have h1 : cs.size = 1 := h.1
  refine ⟨cs[0], by simp [h1], ?_⟩
  congr 1
  apply Array.ext
  · simp [h1]
  · intro i hi hi'
    have : i = 0 := by omega
    subst this; rfl
set_option maxHeartbeats 2000000 in
theorem meets_translate {T : Addr} {items : Array Value} {x : Str} {t : Tok} {F : Nat → Str} (hF : ∀ c ∈ x.cps.toList, c < 256 ∧ ∃ ty, items[c]? = some (.str (F c) ty)) (hne : x.length ≠ 0) (hlen : x.length ≤ 1000) (hF3 : ∀ c ∈ x.cps.toList, (F c).length ≤ 3) :
    Meets (Builtin.«str.translate» ⟨[.str x t, .ref T], []⟩) (fun _ R s => s.heap.IsList T items ∧ ∀ t' k, R (.ok (.ret (.str (mkS (x.cps.toList.flatMap fun c => (F c).cps.toList)) t'))) { s with toks := k }) :=
  .of_wp fun prog w A R s h => by
    obtain ⟨hl, hR⟩ := h
    unfold Builtin.«str.translate»
    refine wpAny_bind (wpAny_pure ?_)
    dsimp only
    rw [if_neg (by simpa using hne)]
    have hsmall : ∀ rest b s', TrI x.cps.toList F s rest b s' → b.2.1 ≤ 3000 := by
      rintro rest b s' ⟨pre, hw, _, hn, _⟩
      have h1 := sum_le3 (F := F) pre fun c hc => hF3 c (by rw [hw]; exact List.mem_append_left _ hc)
      have h2 := congrArg List.length hw
      rw [len_toList, List.length_append] at h2
      omega
    refine wpAny_bind (MeetsSeq2.wpAny_forIn_array _ (TrI x.cps.toList F s) _ ?turn ?fin x.cps _ ⟨[], by simp, rfl, rfl, fun c a e => by simp at e, rfl, s.toks, rfl⟩)
    case turn =>
      rintro c rest ⟨ps, n, f, kn, ad⟩ s' hI
      have hn : n ≤ 3000 := hsmall _ _ _ hI
      have had : ad = false := by obtain ⟨_, _, _, _, _, h, _⟩ := hI; exact h
      subst had
      have hkn : ∀ c a, kn.lookup c = some a → ∃ d, a = some d ∧ F c = ⟨#[d]⟩ := by obtain ⟨_, _, _, _, h, _⟩ := hI; exact h
      have hm : c ∈ x.cps.toList := by obtain ⟨pre, hw, _⟩ := hI; rw [hw]; exact List.mem_append_right _ (.head _)
      have hl' : s'.heap.IsList T items := by obtain ⟨_, _, _, _, _, _, k, rfl⟩ := hI; exact hl
      obtain ⟨h256, ty, hx⟩ := hF c hm
      dsimp only
      rw [if_neg (by unfold tooLong sizeLine; simp; omega)]
      cases f with
      | false =>
        simp only [Bool.false_eq_true, if_false]
        exact wpAny_bind (lookup_ok hl' h256 hx fun k => wpAny_pure (hI.step rfl rfl hkn))
      | true =>
        simp only [if_true]
        cases hk : kn.lookup c with
        | some a =>
          obtain ⟨d, rfl, hd⟩ := hkn c a hk
          exact wpAny_bind (wpAny_pure (wpAny_pure (by
            have := hI.step (f' := true) (kn' := kn) (y := ⟨#[d]⟩) (m := n + 1) (k := s'.toks) hd.symm (by rw [hd]; rfl) hkn
            exact this)))
        | none =>
          refine wpAny_bind (lookup_ok hl' h256 hx fun k => ?_)
          dsimp only
          by_cases h1 : ((F c).length == 1 && (F c).cps.all fun x => decide (x < 128)) = true
          · rw [if_pos h1]
            obtain ⟨d, hd0, hd⟩ := one_char h1
            rw [hd0]
            refine wpAny_bind (wpAny_pure ?_)
            refine wpAny_pure (hI.step hd.symm (by rw [hd]; rfl) ?_)
            intro c' a e
            rw [List.lookup_cons] at e
            by_cases hc : (c' == c) = true
            · rw [hc] at e
              cases e
              rw [eq_of_beq hc]
              exact ⟨d, rfl, hd⟩
            · rw [Bool.not_eq_true] at hc
              rw [hc] at e
              exact hkn c' a e
          · rw [if_neg h1]
            refine wpAny_bind (wpAny_pure ?_)
            refine wpAny_bind (wpAny_rule ?_)
            simp only [Bool.false_eq_true, if_false]
            exact wpAny_bind (lookup_ok hl' h256 hx fun k => wpAny_pure (hI.step rfl rfl hkn))
    case fin =>
      rintro ⟨ps, n, f, kn, ad⟩ s' hI
      have hn : n ≤ 3000 := hsmall _ _ _ hI
      obtain ⟨pre, hw, hp, hsum, _, _, k, rfl⟩ := hI
      have hpre : pre = x.cps.toList := by simpa using hw.symm
      subst hpre
      dsimp only at hp hsum ⊢
      rw [if_neg (by unfold tooLong sizeLine; simp; omega)]
      have e : (⟨ps.reverse.foldl (fun acc p => acc ++ p.cps) #[]⟩ : Str) = mkS (x.cps.toList.flatMap fun c => (F c).cps.toList) := by
        rw [hp]
        have : ∀ (l : List Nat) (acc : Array Nat), ((l.map F).foldl (fun acc p => acc ++ p.cps) acc).toList = acc.toList ++ l.flatMap fun c => (F c).cps.toList := by
          intro l
          induction l with
          | nil => intro acc; simp
          | cons c t ih => intro acc; simp only [List.map_cons, List.foldl_cons, ih, List.flatMap_cons, Array.toList_append, List.append_assoc]
        exact Str.ext' (Array.toList_inj.mp (by rw [this]; simp [mkS]))
      have hlen3 : (mkS (x.cps.toList.flatMap fun c => (F c).cps.toList)).length ≤ sizeLine := by
        have e2 : (mkS (x.cps.toList.flatMap fun c => (F c).cps.toList)).length = n := by
          rw [hsum]
          simp [mkS, Str.length, List.length_flatMap, Function.comp_def]
        rw [e2, sizeLine_eq]; omega
      rw [e]
      refine wpAny_bind (wpAny_mkStr ?_ hlen3)
      exact wpAny_pure ⟨_, rfl, hR _ _⟩
theorem gm_translate {M : Model} {pl : Sem Bool} {x : Str} {t : Tok} {Q : Value × List Value → Shared → Prop} (h : Q (.builtin "str.translate", [.str x t]) s) : wpAny M A (getMethod (.str x t) "translate" pl) Q E s := by
  with_reducible exact GM.of (.str x t) (typeIs_str _ _ _) PySem.F.slot_str_translate PySem.F.type_str_translate GM.noRef h
theorem translate_ok {Q : Value → Shared → Prop} {T : Addr} {items : Array Value} {x : Str} {t : Tok} {F : Nat → Str} (hl : s.heap.IsList T items) (hF : ∀ c ∈ x.cps.toList, c < 256 ∧ ∃ ty, items[c]? = some (.str (F c) ty)) (hne : x.length ≠ 0) (hlen : x.length ≤ 1000) (hF3 : ∀ c ∈ x.cps.toList, (F c).length ≤ 3)
    (h : ∀ t' k, Q (.str (mkS (x.cps.toList.flatMap fun c => (F c).cps.toList)) t') { s with toks := k }) : wpAny (model prog w) A (call (.builtin "str.translate") [.str x t, .ref T]) Q E s :=
  call_meets PySem.F.slot_str_translate (typeIs_str _ _ _) PySem.F.entry_str_translate (PySem.F.args_str_translate_2 _ _) (meets_translate hF hne hlen hF3) ⟨hl, fun t' k => h t' k⟩
end
end Mine
end
section
open PySem PySem.W PyProof.Rows
namespace Mine
def hexd (n : Nat) : Nat := if n < 10 then 48 + n else 55 + n
def quoS (c : Nat) : Str := ⟨#[61, hexd (c / 16), hexd (c % 16)]⟩
def bodyC (c : Nat) : Str := if c = 61 ∨ c = 233 then quoS c else ⟨#[c]⟩
def headC (c : Nat) : Str := if c = 97 then ⟨#[97]⟩ else if c = 32 then ⟨#[95]⟩ else quoS c
def ALPH : List Nat := [32, 97, 61, 95, 46, 233]
def tabOK (K : Frag) (a : Addr) (F : Nat → Str) (l : List Nat) : Bool := match K.lookup a with
  | some ⟨.type "list", none, .seq xs _, _⟩ => l.all fun c => match xs[c]? with
    | some (.str y _) => decide (y.cps.toList = (F c).cps.toList)
    | _ => false
  | _ => false
theorem tab_list {K : Frag} {h : Heap} {a : Addr} {F : Nat → Str} {l : List Nat} (X : K.In h) (e : tabOK K a F l = true) : ∃ items, h.IsList a items ∧ ∀ c ∈ l, ∃ ty, items[c]? = some (.str (F c) ty) := by
  unfold tabOK at e
  split at e
  · rename_i xs n sl hk
    refine ⟨xs, ⟨_, X _ _ hk, rfl, n, rfl⟩, fun c hc => ?_⟩
    have := List.all_eq_true.mp e c hc
    split at this
    · rename_i y ty hy
      rw [hy]
      exact ⟨ty, by rw [Str.ext' (Array.toList_inj.mp (of_decide_eq_true this))]⟩
    · cases this
  · cases e
set_option maxRecDepth 100000
theorem tab83 (P : Params) : tabOK (hd.heap_39 P) 83 bodyC ALPH = true := by kernel_rfl
theorem tab51 (P : Params) : tabOK (hd.heap_39 P) 51 headC ALPH = true := by kernel_rfl
theorem tab46 (P : Params) : tabOK (hd.heap_39 P) 46 quoS ALPH = true := by kernel_rfl
end Mine
end
section
open PySem PySem.W PyProof.Rows
namespace Mine
def B (x : Str) : Str := mkS (x.cps.toList.flatMap fun c => (bodyC c).cps.toList)
def bodyF (x : Str) : Str := if (Txt.item (B x) (-1) == ⟨#[32]⟩) = true then Txt.slice (B x) (some 0) (some (-1)) ++ Str.ofString "=20" else B x
def bodyOK (x : Str) : Bool := decide (x.length ≤ 20) && decide (x.length ≠ 0) && x.cps.toList.all (fun c => ALPH.contains c) && (Txt.lines (B x) == [B x]) && decide ((B x).length ≤ 40) && decide ((B x).length ≠ 0)
  && !(Txt.contains (Str.ofString "\r\n") (Txt.item (B x) (-1))) && (Txt.contains (Str.ofString " \t") (Txt.item (B x) (-1)) == (Txt.item (B x) (-1) == ⟨#[32]⟩))
theorem bodyC3 (c : Nat) : (bodyC c).length ≤ 3 := by unfold bodyC; split <;> simp [quoS, Str.length]
section
variable {prog : Program} {w : World} {A : Around} {E : Value → Shared → Prop} {s : Shared} {Q : Value → Shared → Prop} {x : Str} {t : Tok} {h₀ : Heap}
theorem alph_lt {x : Str} (h : x.cps.toList.all (fun c => ALPH.contains c) = true) : ∀ c ∈ x.cps.toList, c ∈ ALPH ∧ c < 256 := by
  intro c hc
  have := List.all_eq_true.mp h c hc
  have hm : c ∈ ALPH := by simpa using this
  exact ⟨hm, (by decide : ∀ c ∈ ALPH, c < 256) c hm⟩
theorem transB (X : (hd.heap_39 w.params).In s.heap) (hal : x.cps.toList.all (fun c => ALPH.contains c) = true) (hne : x.length ≠ 0) (hlen : x.length ≤ 20)
    (h : ∀ t' k, Q (.str (B x) t') { s with toks := k }) : wpAny (model prog w) A (call (.builtin "str.translate") [.str x t, .ref 83]) Q E s := by
  obtain ⟨items, hl, hi⟩ := tab_list X (tab83 w.params)
  refine translate_ok hl (F := bodyC) (fun c hc => ?_) hne (by omega) (fun c _ => bodyC3 c) h
  obtain ⟨hm, h256⟩ := alph_lt hal c hc
  exact ⟨h256, hi c hm⟩
end
end Mine
end
section
open PySem PySem.W PyProof.Rows PySem.Calls
set_option maxRecDepth 100000
namespace Mine
/-- the bound method «l.append» -/
def boundA (l : Addr) : Obj := { cls := .type "builtin_function_or_method", data := .fields #[.builtin "list.append", .ref l] }
theorem slot_md_get : Slot "method_descriptor" "__get__" "method_descriptor.__get__" :=
  .of (owner := "method_descriptor") (n := "__get__") (by rw [typeLookup_type, builtinLookup_eq_fast]; kernel_rfl) (by decide +kernel) (by decide +kernel) (by decide +kernel)
    (by first | exact .inl (by decide +kernel) | exact .inr (by decide +kernel)) (by rw [isSubtype_type]; kernel_rfl)
theorem entry_md_get : entryFor table "method_descriptor.__get__" = some Builtin.«method_descriptor.__get__» := entryFor_of_tree (by kernel_rfl)
theorem args_md_get (a b c : Value) : argsOk "method_descriptor.__get__" ⟨[a, b, c], []⟩ := by unfold argsOk; kernel_rfl
theorem own_list : ".".intercalate ("list.append".cutAt '.').dropLast = "list" := by decide +kernel
theorem sub_lo : isSubtype (.type "list") (.type (".".intercalate ("list.append".cutAt '.').dropLast)) = pure true := by rw [own_list, isSubtype_type]; kernel_rfl
theorem md_set_none : typeLookup (.type "method_descriptor") "__set__" = pure none := by rw [typeLookup_type, builtinLookup_eq_fast]; kernel_rfl
theorem md_del_none : typeLookup (.type "method_descriptor") "__delete__" = pure none := by rw [typeLookup_type, builtinLookup_eq_fast]; kernel_rfl
theorem sig_app : Manifest.signature? "list.append" = some ⟨.oneArg, "list.append", "append", .self, [⟨"object", .posOnly, true⟩]⟩ := by
  rw [signature?_of (id := "list.append") (n := ['d', 'n', 'e', 'p', 'p', 'a']) (o := ['t', 's', 'i', 'l']) (by kernel_rfl) PySem.F.owner_list]; kernel_rfl
theorem kind_app : builtinKind "list.append" = some .method := by first | decide +kernel | kernel_rfl
theorem sub_lm : isSubtype (.type "list") (.type "module") = pure false := by rw [isSubtype_type]; kernel_rfl
theorem sub_lt : isSubtype (.type "list") (.type "type") = pure false := by rw [isSubtype_type]; kernel_rfl
theorem chk_app (l : Addr) (v : Value) : Bind.checkArgs "list.append" ⟨.oneArg, s!"{Bind.lastOf "list"}.{Bind.lastOf "list.append"}", "append", .self, [⟨"object", .posOnly, true⟩]⟩ ⟨[.ref l, v], []⟩ = pure () := by kernel_rfl
theorem var_app : Manifest.varargsMethods.contains "list.append" = false := by decide +kernel
theorem quiet_app {as : Args} : (Code.builtin "list.append" as).quiet = true := Code.quiet_builtin _ (by decide +kernel)
theorem mapSeq_pushA (xs : Array Value) (k : Nat) (v : Value) : Obj.mapSeq (fun x => x.push v) (W.listOf xs k) = W.listOf (xs.push v) (k + 1) := PyProof.Rows.mapSeq_push _ _ _ _ _
section
variable {prog : Program} {w : World} {M : Model} {A : Around} {E : Value → Shared → Prop} {s : Shared} {a l : Addr} {xs : Array Value} {k : Nat}
theorem inst_append {Q : Unit → Shared → Prop} (hT : s.TypeIs (.ref a) "list") (h : Q () s) : wpAny M A ((kfb_private% "checkInstance") (.builtin "list.append") (.ref a)) Q E s := by
  obtain ⟨hp, g, d, tk, os⟩ := s
  have f2 := sub_lo
  repeat (any_goals (first | assumption | wp_step))
theorem run_md_get {P : Fin → Shared → Prop} (hT : s.TypeIs (.ref a) "list") (h : P (.done (.ret (.ref s.heap.objs.size))) { s with heap := s.heap.push (boundA a) }) :
    wpAny M A (Builtin.«method_descriptor.__get__» ⟨[.builtin "list.append", .ref a, .type "list"], []⟩) P E s := by
  unfold Builtin.«method_descriptor.__get__»
  refine wpAny_bind (wpAny_of_eq (a := (.builtin "list.append", some (.ref a), some (.type "list"))) (by first | rfl | kernel_rfl) ?_)
  dsimp only
  rw [if_neg (by decide +kernel)]
  show wpAny M A (do (kfb_private% "checkInstance") (.builtin "list.append") (.ref a); ret (← newFields "builtin_function_or_method" [.builtin "list.append", .ref a])) P E s
  exact wpAny_bind (inst_append hT (wpAny_bind (wpAny_newObj_type (wpAny_pure h))))
theorem meets_ga_append (l : Addr) (xs : Array Value) (k : Nat) (u : Tok) :
    Meets (Builtin.«object.__getattribute__» ⟨[.ref l, .str "append" u], []⟩) (fun _ R s => s.heap.get? l = some (W.listOf xs k) ∧ R (.ok (.ret (.ref s.heap.objs.size))) { s with heap := s.heap.push (boundA l) }) :=
  Meets.of_wp fun prog w A R s hs => by
    obtain ⟨hx, hR⟩ := hs
    have hT : s.TypeIs (.ref l) "list" := ⟨_, hx, rfl⟩
    have hg : ∀ {P : Value → Shared → Prop} {E' : Value → Shared → Prop}, P (.ref s.heap.objs.size) { s with heap := s.heap.push (boundA l) } → wpAny (model prog w) A.in1 (call (.builtin "method_descriptor.__get__") [.builtin "list.append", .ref l, .type "list"]) P E' s := fun h =>
      wpAny_call_entry slot_md_get PySem.F.type_list_append entry_md_get (run_md_get hT ⟨_, rfl, h⟩) (args_md_get _ _ _)
    obtain ⟨hp, g, d, tk, os⟩ := s
    have f1 := PySem.F.slot_list_append.lookup
    have f2 := PySem.F.type_list_append
    have f3 := slot_md_get.lookup
    have f4 := md_set_none
    have f5 := md_del_none
    unfold Builtin.«object.__getattribute__»
    repeat (any_goals (first | assumption | (with_reducible refine hg ?_) | wp_step))
    exact ⟨_, rfl, hR⟩
theorem getAttr_append {Q : Value → Shared → Prop} (hx : s.heap.get? l = some (W.listOf xs k)) (h : ∀ tk, Q (.ref s.heap.objs.size) { s with heap := s.heap.push (boundA l), toks := tk }) :
    wpAny (model prog w) A (getAttr (.ref l) "append" true) Q E s := by
  obtain ⟨hp, g, d, tk, os⟩ := s
  have hT : ∀ tk', (⟨hp, g, d, tk', os⟩ : Shared).TypeIs (.ref l) "list" := fun _ => ⟨_, hx, rfl⟩
  have f3 := PySem.F.slot_list_getattribute.lookup
  have f4 := PySem.F.slot_list_getattribute.bind (.ref l)
  have f5 := am_list_getattr_none
  unfold getAttr getAttrBy
  repeat (any_goals (first | assumption | exact hT _ | ((with_reducible show wpAny _ _ (call (Value.builtin "list.__getattribute__") _ _) _ _ _); refine call_meets PySem.F.slot_list_getattribute (hT _) am_entry_list_getattribute (PySem.F.args_list_getattribute_2 _ _) (meets_ga_append l xs k _) ⟨hx, ?_⟩) | wp_step))
  exact wpAny_pure (h _)
theorem check_app {v : Value} {Q : Unit → Shared → Prop} (hx : s.heap.get? l = some (W.listOf xs k)) (h : Q () s) : wpAny M A (checkBoundCall "list.append" ⟨[.ref l, v], []⟩) Q E s := by
  obtain ⟨hp, g, d, tk, os⟩ := s
  have hT : (⟨hp, g, d, tk, os⟩ : Shared).TypeIs (.ref l) "list" := ⟨_, hx, rfl⟩
  unfold checkBoundCall
  rw [sig_app]
  simp only [kind_app]
  have f1 := sub_lm
  have f2 := sub_lt
  have f3 := chk_app l v
  have f4 := var_app
  repeat (any_goals (first | assumption | wp_step))
end
section
variable {prog : Program} {w : World} {A : Around} {E : Value → Shared → Prop} {s : Shared} {h₀ : Heap} {L l q : Addr} {m : Str → Option Value} {news : List (Addr × Obj)} {xs : Array Value} {k : Nat}
theorem attr_append {Q : Value → Shared → Prop} (F : Fr h₀ L s.heap m) (N : News h₀ L s.heap news) (hm : (l, W.listOf xs k) ∈ news)
    (h : ∀ q h' tk, Fr h₀ L h' m → News h₀ L h' ((q, boundA l) :: news) → (∀ p ∈ news, p.1 < q) → Q (.ref q) { s with heap := h', toks := tk }) : wpAny (model prog w) A (getAttr (.ref l) "append" true) Q E s :=
  getAttr_append (N.get hm) fun tk => h _ _ tk (F.push _) (News.push F N _) fun p hp => Heap.lt_size (N p hp).1
def AtB (q l : Addr) (h : Heap) : Prop := h.get? q = some (boundA l)
theorem atB_of {h : Heap} (N : News h₀ L h news) (hm : (q, boundA l) ∈ news) : AtB q l h := N.get hm
theorem callWith_b {pos : Pos} {first : List Value} {args : List (Bool × Sem Value)} {Q : Value → Shared → Prop} (hplain : args.any (·.1) = false)
    (h : wpAny (model prog w) A (evalArgs (.ref q) true args []) (fun x s₁ => AtB q l s₁.heap ∧ wpAny (model prog w) A (call (.ref q) (first ++ x.pos) x.kw) Q E s₁) E s) : wpAny (model prog w) A (callWith pos (.ref q) first args []) Q E s := by
  unfold callWith
  refine wpAny_bind (wpAny_holding (wpAny_mono h (fun x s₁ h₁ => wpAny_bind (wpAny_standAt ?_)) fun _ _ x => x))
  obtain ⟨ho, hcall⟩ := h₁
  simp only [hplain, List.any_nil, Bool.or_false]
  refine wpAny_bind (m := keeperOf (.ref q)) ?_
  unfold keeperOf
  refine wpAny_bind (wpAny_load ho ?_)
  simp only [boundA, show (Value.type "builtin_function_or_method" != Value.type "method") = true by decide, show (Value.type "builtin_function_or_method" == Value.type "builtin_function_or_method" || Value.type "builtin_function_or_method" == Value.type "method-wrapper") = true by decide, if_true]
  refine wpAny_pure ?_
  exact wpAny_bind (wpAny_mono hcall (fun r s₂ hr => wpAny_bind (wpAny_holding (wpAny_point (wpAny_pure hr)))) fun _ _ x => x)
theorem callWith_append {pos : Pos} {first : List Value} {env : Env} {e : Expr} {rest : List Expr} {Q : Value → Shared → Prop} (_N : News h₀ L s.heap news) (_hm : (q, boundA l) ∈ news)
    (h : wpAny (model prog w) A (spliced (backTo pos (starEach (e :: rest) env))) (fun vs s₁ => AtB q l s₁.heap ∧ wpAny (model prog w) A (call (.ref q) (first ++ vs)) Q E s₁) E s)
    (he : starEach (e :: rest) env = (false, eval e env) :: starEach rest env := by rfl) (hplain : (backTo pos (starEach rest env)).any (·.1) = false := by rfl) :
    wpAny (model prog w) A (callWith pos (.ref q) first (backTo pos (starEach (e :: rest) env)) []) Q E s := by
  rw [he] at h ⊢
  refine callWith_b (l := l) (by show (false || (backTo pos (starEach rest env)).any (·.1)) = false; rw [hplain]; rfl) ?_
  exact evalArgs_plain h
theorem append_B {news' : List (Addr × Obj)} {v : Value} {Q : Value → Shared → Prop} (F : Fr h₀ L s.heap m) (N : News h₀ L s.heap news) (hq : (q, boundA l) ∈ news)
    (U : Upd l (W.listOf xs k) (W.listOf (xs.push v) (k + 1)) news news') (hsz : xs.size ≤ 1000) (h : ∀ h', Fr h₀ L h' m → News h₀ L h' news' → Q .none { s with heap := h' }) : wpAny (model prog w) A (call (.ref q) [v]) Q E s := by
  have ho := N.get hq
  obtain ⟨pre, post, rfl, rfl, a, b⟩ := U.split
  have z := N (l, W.listOf xs k) (List.mem_append.mpr (.inr (.head _)))
  refine wpAny_call (codeAny_of_tree ?_)
  show wpAny _ A.in1 (callAny (.ref q) ⟨[v], []⟩) _ _ s
  simp only [callAny]
  refine wpAny_bind (wpAny_load ho ?_)
  simp only [boundA, show (Value.type "builtin_function_or_method" == Value.type "method" || Value.type "builtin_function_or_method" == Value.type "builtin_function_or_method" || Value.type "builtin_function_or_method" == Value.type "method-wrapper") = true by decide, if_true]
  refine KFB.if_so (by decide) ?_
  refine wpAny_bind (check_app z.1 ?_)
  refine wpAny_bind (wpAny_pure (wpAny_pure ⟨quiet_app, codeAny_builtin PySem.F.entry_list_append ?_⟩))
  show wpAny _ _ (updateSeq l (·.push v) >>= fun _ => ret .none) _ _ s
  refine wpAny_bind (wpAny_updateSeq z.1 rfl (hz := by rw [sizeLine_eq]; omega) (wpAny_pure ?_))
  have hs : Heap.SameBut l s.heap (s.heap.update l (Obj.mapSeq fun x => x.push v)) := Heap.SameBut.update ..
  refine h _ (F.change hs z.2.1 z.2.2) (news_set N a b hs ?_)
  rw [Heap.get?_update_self _ z.1 (by rw [mapSeq_pushA]; rfl), mapSeq_pushA]
end
end Mine
end
section
open PySem PySem.W PyProof.Rows PySem.Calls
namespace Mine
theorem meets_join1 (sep : Str) (u : Tok) (l : Addr) (y : Str) (t' : Tok) (n : Nat) :
    Meets (Builtin.«str.join» ⟨[.str sep u, .ref l], []⟩) (fun _ R s => s.heap.get? l = some (W.listOf #[.str y t'] n) ∧ R (.ok (.ret (.str y t'))) s) :=
  .of_wp fun prog w A R s h => by
    obtain ⟨hp, g, d, tk, os⟩ := s; obtain ⟨hl, h⟩ := h
    have hT : (⟨hp, g, d, tk, os⟩ : Shared).TypeIs (.ref l) "list" := ⟨_, hl, rfl⟩
    repeat (any_goals (first | assumption | wp_step))
    exact ⟨_, rfl, h⟩
section
variable {prog : Program} {w : World} {A : Around} {E : Value → Shared → Prop} {s : Shared} {Q : Value → Shared → Prop} {h₀ : Heap} {L l : Addr} {news : List (Addr × Obj)} {sep y : Str} {u t' : Tok} {its : Array Value} {n : Nat}
theorem join1 (N : News h₀ L s.heap news) (hm : (l, W.listOf its n) ∈ news) (he : its = #[.str y t']) (h : Q (.str y t') s) : wpAny (model prog w) A (call (.builtin "str.join") [.str sep u, .ref l]) Q E s := by
  subst he
  exact call_meets PySem.F.slot_str_join (typeIs_str _ _ _) PySem.F.entry_str_join (PySem.F.args_str_join_2 _ _) (meets_join1 sep u l y t' n) ⟨N.get hm, h⟩
end
/-- the last sign of what translate made is a blank, or it is neither a blank nor a tab -/
theorem blank_of {x : Str} (hb : Txt.contains (Str.ofString " \t") (Txt.item (B x) (-1)) = (Txt.item (B x) (-1) == ⟨#[32]⟩))
    (h : (Builtin.Str.occurrences (Str.ofString " \t") (Txt.item (B x) (-1)) 0 (Str.ofString " \t").length 1).isEmpty = false) : Txt.item (B x) (-1) = ⟨#[32]⟩ := by
  unfold Txt.contains at hb
  rw [h] at hb
  exact eq_of_beq hb.symm
theorem noblank_of {x : Str} (hb : Txt.contains (Str.ofString " \t") (Txt.item (B x) (-1)) = (Txt.item (B x) (-1) == ⟨#[32]⟩))
    (h : (Builtin.Str.occurrences (Str.ofString " \t") (Txt.item (B x) (-1)) 0 (Str.ofString " \t").length 1).isEmpty = true) : (Txt.item (B x) (-1) == ⟨#[32]⟩) = false := by
  unfold Txt.contains at hb
  rw [h] at hb
  exact hb.symm
theorem nocr {x : Str} (h : Txt.contains (Str.ofString "\r\n") (Txt.item (B x) (-1)) = false) (h' : (Builtin.Str.occurrences (Str.ofString "\r\n") (Txt.item (B x) (-1)) 0 (Str.ofString "\r\n").length 1).isEmpty = false) : False := by
  unfold Txt.contains at h
  rw [h'] at h
  cases h
theorem slice_all {x : Str} : Txt.slice x (some 0) none = x := by
  rw [slice_from_eq (x := x) (i := 0) (b := (x.length : Int)) (by omega) (by omega) rfl]
  have e : (x.cps.toList.drop (0 : Int).toNat).take ((x.length : Int) - 0).toNat = x.cps.toList := by
    rw [show (0 : Int).toNat = 0 from rfl, List.drop_zero, show ((x.length : Int) - 0).toNat = x.cps.toList.length by rw [len_toList]; omega, List.take_length]
  rw [e]
theorem benc_end1 {x : Str} (hb : Txt.contains (Str.ofString " \t") (Txt.item (B x) (-1)) = (Txt.item (B x) (-1) == ⟨#[32]⟩))
    (h : (Builtin.Str.occurrences (Str.ofString " \t") (Txt.item (B x) (-1)) 0 (Str.ofString " \t").length 1).isEmpty = true) : Txt.slice (B x) (some 0) none = bodyF x := by
  unfold bodyF
  rw [noblank_of hb h, slice_all]
  rfl
theorem benc_end2 {x : Str} (hb : Txt.contains (Str.ofString " \t") (Txt.item (B x) (-1)) = (Txt.item (B x) (-1) == ⟨#[32]⟩))
    (h : (Builtin.Str.occurrences (Str.ofString " \t") (Txt.item (B x) (-1)) 0 (Str.ofString " \t").length 1).isEmpty = false) : Txt.slice (B x) (some 0) (some (-1)) ++ Str.ofString "=20" = bodyF x := by
  unfold bodyF
  rw [blank_of hb h]
  simp
end Mine
end
section
open PySem PySem.W PyProof.Rows PySem.Calls
set_option maxRecDepth 100000
namespace Mine
open Builtin
def latB (x : Str) : Array UInt8 := (x.cps.toList.map Nat.toUInt8).toArray
theorem latB_size (x : Str) : (latB x).size = x.length := by simp [latB, Str.length]
theorem fold_lat (l : List Nat) : ∀ acc : Array UInt8, l.foldl (fun acc y => acc ++ (_codecs.latin1Codec.bytesOf y).toArray) acc = acc ++ (l.map Nat.toUInt8).toArray := by
  induction l with
  | nil => intro acc; simp
  | cons c t ih =>
    intro acc
    rw [List.foldl_cons, ih]
    simp [_codecs.latin1Codec]
section
variable {M : Model} {A : Around} {E : Value → Shared → Prop} {s : Shared} {x : Str}
set_option maxHeartbeats 1000000 in
theorem enc_narrow {Q : Array UInt8 → Shared → Prop} {id : String} {self : Value} (hx : ∀ c ∈ x.cps.toList, c < 256) (hlen : x.length ≤ 1000) (h : Q (latB x) s) : wpAny M A (_codecs.encodeNarrow id _codecs.latin1Codec none self x) Q E s := by
  have hbad : ∀ c ∈ x.cps.toList, _codecs.latin1Codec.bad c = false := fun c hc => decide_eq_false (by have := hx c hc; omega)
  have hfind : x.cps.findIdx? _codecs.latin1Codec.bad = none := by
    rw [Array.findIdx?_eq_none_iff]
    intro c hc
    exact hbad c (by simpa using hc)
  unfold _codecs.encodeNarrow
  simp only [Std.Legacy.Range.forIn_eq_forIn_range']
  refine wpAny_bind (wpAny_forIn_list _ (fun rest b s' => s' = s ∧ ((b.1 = 0 ∧ b.2.1 = #[] ∧ rest.length = x.length) ∨ (b.1 = x.cps.size ∧ b.2.1 = latB x))) _ ?turn ?fin _ _ ⟨rfl, Or.inl ⟨rfl, rfl, by simp [Std.Legacy.Range.size]⟩⟩)
  case turn =>
    rintro r rest ⟨i, out, st⟩ s' ⟨hs, hb⟩
    dsimp only at hb ⊢
    rcases hb with ⟨rfl, rfl, hl⟩ | ⟨rfl, rfl⟩
    · rw [if_neg (by simp)]
      have h0 : 0 < x.cps.size := by simp only [List.length_cons, Str.length] at hl; omega
      have hc0 : x.cps[0]? = some x.cps[0] := by simp [h0]
      rw [hc0]
      dsimp only
      have hb0 := hbad x.cps[0] (by simp)
      rw [hb0]
      refine KFB.if_so rfl ?_
      have e1 : x.cps.extract 0 = x.cps := by simp
      rw [e1, hfind]
      refine wpAny_pure ⟨hs, Or.inr ⟨by simp, ?_⟩⟩
      have e2 : x.cps.extract 0 (none.getD x.cps.size) = x.cps := by simp
      dsimp only
      rw [e2, ← Array.foldl_toList, fold_lat]
      simp [latB]
    · rw [if_neg (by rw [latB_size, sizeLine_eq]; omega)]
      have hn : x.cps[x.cps.size]? = none := by simp
      rw [hn]
      rw [hs]; exact wpAny_pure (wpAny_pure h)
  case fin =>
    rintro ⟨i, out, st⟩ s' ⟨hs, hb⟩
    dsimp only at hb ⊢
    rcases hb with ⟨rfl, rfl, hl⟩ | ⟨rfl, rfl⟩
    · have : latB x = #[] := by
        have h0 : x.cps.toList = [] := by
          apply List.eq_nil_of_length_eq_zero
          rw [len_toList]; simpa using hl.symm
        simp [latB, h0]
      rw [this] at h
      rw [hs]; exact wpAny_pure h
    · rw [hs]; exact wpAny_pure h
set_option maxHeartbeats 1000000 in
theorem dec_lat {Q : Array Nat × Nat → Shared → Prop} {id : String} {b : Array UInt8} (hlen : b.size ≤ 1000) (h : Q ((b.map (·.toNat)), b.size) s) : wpAny M A (_codecs.runDecoder id _codecs.latin1Decoder none true b 0 []) Q E s := by
  unfold _codecs.runDecoder
  simp only [Std.Legacy.Range.forIn_eq_forIn_range']
  refine wpAny_bind (wpAny_forIn_list _ (fun rest c s' => s' = s ∧ c.1 + rest.length = b.size ∧ c.2.1.toList = (b.toList.map (·.toNat)).take c.1) _ ?turn ?fin _ _ ⟨rfl, by simp [Std.Legacy.Range.size], rfl⟩)
  case turn =>
    rintro r rest ⟨p, out, st⟩ s' ⟨hs, hp, ho⟩
    dsimp only at hp ho ⊢
    have hsz : out.size = p := by
      have := congrArg List.length ho
      simp only [Array.length_toList, List.length_take, List.length_map] at this
      simp only [List.length_cons] at hp
      omega
    have hlt : p < b.size := by simp only [List.length_cons] at hp; omega
    rw [if_neg (by rw [hsz, sizeLine_eq]; omega)]
    rw [if_neg (by omega)]
    refine wpAny_pure ⟨hs, by simp only [List.length_cons] at hp; dsimp only; omega, ?_⟩
    dsimp only
    rw [Array.toList_append, ho, List.take_add_one]
    have : (b.toList.map (·.toNat))[p]? = some (b[p].toNat) := by simp [hlt]
    rw [this]
    simp [hlt]
  case fin =>
    rintro ⟨p, out, st⟩ s' ⟨hs, hp, ho⟩
    dsimp only at hp ho ⊢
    have hp : p = b.size := by simpa using hp
    subst hp
    have e : out = b.map (·.toNat) := by
      apply Array.toList_inj.mp
      rw [ho, List.take_of_length_le (by simp)]
      simp
    rw [hs, e]
    exact wpAny_pure h
theorem lat_back {x : Str} (hx : ∀ c ∈ x.cps.toList, c < 256) : (⟨(latB x).map (·.toNat)⟩ : Str) = x := by
  apply Str.ext'
  apply Array.toList_inj.mp
  simp only [latB, Array.toList_map, List.map_map]
  conv => rhs; rw [← List.map_id x.cps.toList]
  apply List.map_congr_left
  intro c hc
  have := hx c hc
  simp [Nat.toUInt8, UInt8.toNat_ofNat', Nat.mod_eq_of_lt this]
theorem road_lat {id : String} {b : Array UInt8} : _codecs.decodeRoad id b (Str.ofString "latin1") none [] = (_codecs.runDecoder id _codecs.latin1Decoder none true b 0 [] >>= fun r => mkStr ⟨r.1⟩) := by kernel_rfl
theorem road_enc {id : String} {self : Value} : _codecs.encodeRoad id self x (Str.ofString "latin-1") none = (_codecs.encodeNarrow id _codecs.latin1Codec none self x >>= fun b => mkBytes b) := by kernel_rfl
theorem entry_dec {c : UInt8} {cs : List UInt8} {t u : Tok} : «bytes.decode» ⟨[.bytes (c :: cs).toArray t, .str (Str.ofString "latin1") u], []⟩ = (mkStr (Str.ofString "utf-8") >>= fun _ => mkStr (Str.ofString "latin1") >>= fun e => mkStr (Str.ofString "bytes.decode") >>= fun d =>
    call (.builtin "_codecs.decode.text") [.bytes (c :: cs).toArray t, e, .none, d] >>= fun v => ret v) := by kernel_rfl
theorem enc_tree {t u : Tok} : «str.encode» ⟨[.str x t, .str (Str.ofString "latin-1") u], []⟩ = (do ret (← _codecs.encodeRoad "str.encode" (.str x t) x (Str.ofString "latin-1") none)) := by kernel_rfl
theorem args_dec2 (a b : Value) : argsOk "bytes.decode" ⟨[a, b], []⟩ := by
  unfold argsOk; rw [signature?_of (id := "bytes.decode") (n := ['e', 'd', 'o', 'c', 'e', 'd']) (o := ['s', 'e', 't', 'y', 'b']) (by kernel_rfl) FB.owner_bytes]; kernel_rfl
theorem meets_text_lat {b : Array UInt8} {t t1 t2 : Tok} {d : Str} (hlen : b.size ≤ 1000) :
    Meets («_codecs.decode.text» ⟨[.bytes b t, .str (Str.ofString "latin1") t1, .none, .str d t2], []⟩) (fun _ R s => R (.ok (.ret (.str ⟨b.map (·.toNat)⟩ s.toks))) { s with toks := s.toks + 1 }) := by
  refine .of_wp fun prog w A R s h => ?_
  show wpAny _ _ (Bytes.bytesLike _ (.bytes b t) >>= fun r => _) _ _ s
  refine wpAny_bind (wpAny_of_eq KBd.like_eq ?_)
  refine wpAny_bind (wpAny_of_eq KBd.held_eq ?_)
  show wpAny _ _ (_codecs.decodeRoad _ b (Str.ofString "latin1") none [] >>= fun v => _) _ _ s
  rw [road_lat]
  refine wpAny_bind (wpAny_bind (dec_lat hlen ?_))
  exact wpAny_mkStr (wpAny_pure ⟨_, rfl, h⟩) (by simp only [Str.length, Array.size_map]; rw [sizeLine_eq]; omega)
end
section
variable {prog : Program} {w : World} {A : Around} {E : Value → Shared → Prop} {s : Shared} {Q : Value → Shared → Prop} {x : Str} {t u : Tok}
theorem call_dec (hx : ∀ c ∈ x.cps.toList, c < 256) (hne : x.length ≠ 0) (hlen : x.length ≤ 1000) (h : ∀ t' k, Q (.str x t') { s with toks := k }) :
    wpAny (model prog w) A (call (.builtin "bytes.decode") [.bytes (latB x) t, .str (Str.ofString "latin1") u]) Q E s := by
  have hs := latB_size x
  obtain ⟨c, cs, e⟩ : ∃ c cs, (latB x) = (c :: cs).toArray := by
    cases hl : (latB x).toList with
    | nil => have := congrArg List.length hl; simp only [Array.length_toList, List.length_nil] at this; omega
    | cons c cs => exact ⟨c, cs, by rw [← hl]⟩
  have hm : Meets («bytes.decode» ⟨[.bytes (latB x) t, .str (Str.ofString "latin1") u], []⟩) (fun _ R s => ∀ t' k, R (.ok (.ret (.str x t'))) { s with toks := k }) := by
    refine .of_wp fun prog w A R s hR => ?_
    rw [e, entry_dec, ← e]
    refine wpAny_bind (wpAny_mkStr ?_ (by decide))
    refine wpAny_bind (wpAny_mkStr ?_ (by decide))
    refine wpAny_bind (wpAny_mkStr ?_ (by decide))
    refine wpAny_bind (call_function_meets KBd.kind_text KBd.plain_text KBd.entry_text (KBd.args_text _ _ _ _) (meets_text_lat (by omega)) (wpAny_pure ⟨_, rfl, ?_⟩))
    rw [lat_back hx]
    exact hR _ _
  exact call_meets FB.slot_bytes_decode (typeIs_bytes _ _ _) FB.entry_bytes_decode (args_dec2 _ _) hm h
theorem call_enc (hx : ∀ c ∈ x.cps.toList, c < 256) (hlen : x.length ≤ 1000) (h : ∀ t' k, Q (.bytes (latB x) t') { s with toks := k }) :
    wpAny (model prog w) A (call (.builtin "str.encode") [.str x t, .str (Str.ofString "latin-1") u]) Q E s := by
  have hm : Meets («str.encode» ⟨[.str x t, .str (Str.ofString "latin-1") u], []⟩) (fun _ R s => ∀ t' k, R (.ok (.ret (.bytes (latB x) t'))) { s with toks := k }) := by
    refine .of_wp fun prog w A R s hR => ?_
    rw [enc_tree, road_enc]
    refine wpAny_bind (wpAny_bind (enc_narrow hx hlen ?_))
    unfold mkBytes
    rw [if_neg (by rw [latB_size, sizeLine_eq]; omega)]
    exact wpAny_bind (wpAny_fresh (wpAny_pure (wpAny_pure ⟨_, rfl, hR _ _⟩)))
  exact call_meets PySem.F.slot_str_encode (typeIs_str _ _ _) PySem.F.entry_str_encode (PySem.F.args_str_encode_2 _ _) hm h
end
end Mine
end
section
open PySem PySem.W PyProof.Rows
namespace Mine
def H (x : Str) : Str := mkS (x.cps.toList.flatMap fun c => (headC c).cps.toList)
theorem headC3 (c : Nat) : (headC c).length ≤ 3 := by unfold headC; split; · decide
                                                      · split <;> simp [quoS, Str.length]
theorem henc_end {y : Str} : Str.empty ++ Str.ofString "=?" ++ Str.ofString "iso-8859-1" ++ Str.ofString "?q?" ++ y ++ Str.ofString "?=" = Str.ofString "=?iso-8859-1?q?" ++ y ++ Str.ofString "?=" := by
  rw [show Str.empty ++ Str.ofString "=?" ++ Str.ofString "iso-8859-1" ++ Str.ofString "?q?" = Str.ofString "=?iso-8859-1?q?" by decide +kernel]
def hencOK (x : Str) : Bool := decide (x.length ≤ 20) && decide (x.length ≠ 0) && x.cps.toList.all (fun c => ALPH.contains c) && decide ((H x).length ≤ 100)
section
variable {prog : Program} {w : World} {A : Around} {E : Value → Shared → Prop} {s : Shared} {Q : Value → Shared → Prop} {x : Str} {t : Tok}
theorem transH (X : (hd.heap_39 w.params).In s.heap) (hal : x.cps.toList.all (fun c => ALPH.contains c) = true) (hne : x.length ≠ 0) (hlen : x.length ≤ 20)
    (h : ∀ t' k, Q (.str (H x) t') { s with toks := k }) : wpAny (model prog w) A (call (.builtin "str.translate") [.str x t, .ref 51]) Q E s := by
  obtain ⟨items, hl, hi⟩ := tab_list X (tab51 w.params)
  refine translate_ok hl (F := headC) (fun c hc => ?_) hne (by omega) (fun c _ => headC3 c) h
  obtain ⟨hm, h256⟩ := alph_lt hal c hc
  exact ⟨h256, hi c hm⟩
theorem decA {u : Tok} (hal : x.cps.toList.all (fun c => ALPH.contains c) = true) (hne : x.length ≠ 0) (hlen : x.length ≤ 20) (h : ∀ t' k, Q (.str x t') { s with toks := k }) :
    wpAny (model prog w) A (call (.builtin "bytes.decode") [.bytes (latB x) t, .str (Str.ofString "latin1") u]) Q E s :=
  call_dec (fun c hc => (alph_lt hal c hc).2) hne (by omega) h
end
end Mine
end
section
open PySem PySem.W
set_option maxRecDepth 10000
namespace Mine
open PySem.Sre
def CODE : Array Nat := #[14, 8, 1, 3, 3, 1, 1, 61, 0, 16, 61, 24, 16, 2, 2, 13, 11, 9, 0, 67043328, 126, 126, 0, 0, 0, 0, 0, 1, 1]
def att (cps : Array Nat) (lim ls s : Nat) (first must : Bool) (seen : Sre.Seen) : M :=
  { code := CODE, text := cps, lim := lim, start := s, lastStart := ls, mustAdvance := must, pc := 9, pos := s, handed := s, outermost := first, marks := #[],
    frames := [{ wait := .nextStart, pc := 9, pos := s, outermost := first }], weight := 1, seen := seen }
def ansF (cps : Array Nat) (lim ls s : Nat) (first must : Bool) (seen : Sre.Seen) : M := { att cps lim ls s first must seen with answer := some false }
variable {cps : Array Nat} {lim ls s : Nat} {first must : Bool} {seen : Sre.Seen}
theorem step_no (h : s < lim) (hc : (cps.getD s 0 == 61) = false) : (att cps lim ls s first must seen).step = ansF cps lim ls s first must (seen.add 16) := by
  have e : (att cps lim ls s first must seen).step = (if s ≥ lim then ansF cps lim ls s first must (seen.add 16) else match (Except.ok (cps.getD s 0 == 61, seen.add 16) : Except String (Bool × Sre.Seen)) with
    | .error why => ({ att cps lim ls s first must (seen.add 16) with } : M).stick why
    | .ok (false, sn) => ansF cps lim ls s first must sn
    | .ok (true, sn) => { att cps lim ls s first must sn with pc := 11, pos := s + 1 }) := rfl
  rw [e, if_neg (by omega), hc]
theorem step_off (h : ¬ s < lim) : (att cps lim ls s first must seen).step = ansF cps lim ls s first must (seen.add 16) := by
  have e : (att cps lim ls s first must seen).step = (if s ≥ lim then ansF cps lim ls s first must (seen.add 16) else match (Except.ok (cps.getD s 0 == 61, seen.add 16) : Except String (Bool × Sre.Seen)) with
    | .error why => ({ att cps lim ls s first must (seen.add 16) with } : M).stick why
    | .ok (false, sn) => ansF cps lim ls s first must sn
    | .ok (true, sn) => { att cps lim ls s first must sn with pc := 11, pos := s + 1 }) := rfl
  rw [e, if_pos (by omega)]
theorem step_yes (h : s < lim) (hc : (cps.getD s 0 == 61) = true) : (att cps lim ls s first must seen).step = { att cps lim ls s first must (seen.add 16) with pc := 11, pos := s + 1 } := by
  have e : (att cps lim ls s first must seen).step = (if s ≥ lim then ansF cps lim ls s first must (seen.add 16) else match (Except.ok (cps.getD s 0 == 61, seen.add 16) : Except String (Bool × Sre.Seen)) with
    | .error why => ({ att cps lim ls s first must (seen.add 16) with } : M).stick why
    | .ok (false, sn) => ansF cps lim ls s first must sn
    | .ok (true, sn) => { att cps lim ls s first must sn with pc := 11, pos := s + 1 }) := rfl
  rw [e, if_neg (by omega), hc]
theorem step_next (h : s < ls) : (ansF cps lim ls s first must seen).step = att cps lim ls (s + 1) false false seen := by
  have e : (ansF cps lim ls s first must seen).step = (if s < ls then att cps lim ls (s + 1) false false seen else { ansF cps lim ls s first must seen with frames := [], weight := 0 }) := rfl
  rw [e, if_pos h]
theorem step_last (h : ¬ s < ls) : (ansF cps lim ls s first must seen).step = { ansF cps lim ls s first must seen with frames := [], weight := 0 } := by
  have e : (ansF cps lim ls s first must seen).step = (if s < ls then att cps lim ls (s + 1) false false seen else { ansF cps lim ls s first must seen with frames := [], weight := 0 }) := rfl
  rw [e, if_neg h]
theorem step_failed : ({ ansF cps lim ls s first must seen with frames := [], weight := 0 } : M).step = { ansF cps lim ls s first must seen with frames := [], weight := 0, outcome := some .failed } := rfl
def stB (cps : Array Nat) (lim ls s : Nat) (first must : Bool) (seen : Sre.Seen) : M := { att cps lim ls s first must seen with pc := 11, pos := s + 1 }
def stC (cps : Array Nat) (lim ls s : Nat) (first must : Bool) (seen : Sre.Seen) : M :=
  { att cps lim ls s first must seen with pc := 28, pos := s + 1 + 2, handed := s + 1 + 2, weight := 2, frames := [{ wait := .giveBack, pc := 11, pos := s + 1 + 2, outermost := first, count := 2, kept := { } }, { wait := .nextStart, pc := 9, pos := s, outermost := first }] }
def stD (cps : Array Nat) (lim ls s : Nat) (first must : Bool) (seen : Sre.Seen) : M := { stC cps lim ls s first must seen with answer := some true }
def stE (cps : Array Nat) (lim ls s : Nat) (first must : Bool) (seen : Sre.Seen) : M :=
  { att cps lim ls s first must seen with pc := 11, pos := s + 1 + 2, handed := s + 1 + 2, answer := some true }
def stG (cps : Array Nat) (lim ls s : Nat) (first must : Bool) (seen : Sre.Seen) : M := { att cps lim ls s first must seen with handed := s + 1 + 2, frames := [], weight := 0, answer := some true }
theorem acc_hex (sn : Sre.Seen) : ∀ p ∈ CODES, accepts CODE 15 p.1 sn = .ok (true, sn.add 9) ∧ accepts CODE 15 p.2.1 sn = .ok (true, sn.add 9) := by
  intro p hp
  simp only [CODES, List.mem_cons, List.not_mem_nil, or_false] at hp
  rcases hp with rfl | rfl | rfl | rfl | rfl <;> exact ⟨rfl, rfl⟩
theorem run_hex {a b v : Nat} (sn : Sre.Seen) (p : Nat) (h : (a, b, v) ∈ CODES) (ha : cps.getD p 0 = a) (hb : cps.getD (p + 1) 0 = b) : Sre.run CODE cps 15 2 p 0 sn = .ok (2, (sn.add 9).add 9) := by
  obtain ⟨h1, _⟩ := acc_hex sn _ h
  obtain ⟨_, h2⟩ := acc_hex (sn.add 9) _ h
  rw [Sre.run, ha, h1]
  show Sre.run CODE cps 15 1 (p + 1) 1 (sn.add 9) = _
  rw [Sre.run, hb, h2]
  rfl
theorem step_B {a b v : Nat} (h : (a, b, v) ∈ CODES) (ha : cps.getD (s + 1) 0 = a) (hb : cps.getD (s + 1 + 1) 0 = b) (hl : s + 3 ≤ lim) :
    ∃ sn, (stB cps lim ls s first must seen).step = stC cps lim ls s first must sn := by
  have e : (stB cps lim ls s first must seen).step = (if ((2 : Nat) : Int) > (lim : Int) - ((s + 1 : Nat) : Int) then { stB cps lim ls s first must (seen.add 24) with answer := some false } else
    match Sre.run CODE cps 15 (min 2 ((lim : Int) - ((s + 1 : Nat) : Int)).toNat) (s + 1) 0 ((seen.add 24).add 13) with
    | .error why => (stB cps lim ls s first must (seen.add 24)).stick why
    | .ok (n, sn) => if n < 2 then { stB cps lim ls s first must sn with answer := some false } else ({ stB cps lim ls s first must sn with pos := s + 1 + n } : M).afterRun .giveBack n {}) := rfl
  rw [e, if_neg (by omega), show min 2 ((lim : Int) - ((s + 1 : Nat) : Int)).toNat = 2 by omega, run_hex _ _ h ha hb]
  exact ⟨_, rfl⟩
theorem step_C (hm : (first && (must && (s + 1 + 2 == s))) = false) : ∃ sn, (stC cps lim ls s first must seen).step = stD cps lim ls s first must sn := by
  have e : (stC cps lim ls s first must seen).step = (if (first && ((false && (s + 1 + 2 != lim)) || (must && (s + 1 + 2 == s)))) = true then { stC cps lim ls s first must (seen.add 1) with answer := some false } else stD cps lim ls s first must (seen.add 1)) := rfl
  rw [e, Bool.false_and, Bool.false_or, hm]
  exact ⟨_, rfl⟩
theorem step_D : (stD cps lim ls s first must seen).step = stE cps lim ls s first must seen := rfl
theorem step_E : (stE cps lim ls s first must seen).step = stG cps lim ls s first must seen := rfl
theorem step_G : (stG cps lim ls s first must seen).step = { stG cps lim ls s first must seen with outcome := some .matched } := rfl
/-- the machine comes to this end -/
def Ends (m m' : M) : Prop := ∃ n, n ≤ 1000000 ∧ M.runFor n m = m' ∧ m'.outcome.isSome = true
theorem runFor_done {m : M} (h : m.outcome.isSome = true) : ∀ n, M.runFor n m = m
  | 0 => rfl
  | n + 1 => by rw [M.runFor, if_pos h]
theorem runFor_one {m : M} (h : m.outcome.isSome = false) (n : Nat) : M.runFor (n + 1) m = M.runFor n m.step := by rw [M.runFor, if_neg (by rw [h]; exact Bool.false_ne_true)]
/-- n steps, then an end -/
def EndsIn (k : Nat) (m : M) (o : Sre.Outcome) (b e : Nat) : Prop := ∃ m', M.runFor k m = m' ∧ m'.outcome = some o ∧ m'.start = b ∧ m'.handed = e
theorem EndsIn.step {k : Nat} {m : M} {o : Sre.Outcome} {b e : Nat} (h : m.outcome.isSome = false) (q : EndsIn k m.step o b e) : EndsIn (k + 1) m o b e := by
  obtain ⟨m', h1, h2⟩ := q
  exact ⟨m', by rw [runFor_one h]; exact h1, h2⟩
theorem ends_match {a b v : Nat} (h : (a, b, v) ∈ CODES) (h0 : (cps.getD s 0 == 61) = true) (ha : cps.getD (s + 1) 0 = a) (hb : cps.getD (s + 1 + 1) 0 = b) (hl : s + 3 ≤ lim) :
    EndsIn 6 (att cps lim ls s first must seen) .matched s (s + 3) := by
  refine .step rfl ?_
  rw [step_yes (by omega) h0]
  refine .step rfl ?_
  obtain ⟨sn, e⟩ := step_B (seen := seen.add 16) (ls := ls) (first := first) (must := must) h ha hb hl
  show EndsIn 4 (stB cps lim ls s first must (seen.add 16)).step _ _ _
  rw [e]
  refine .step rfl ?_
  obtain ⟨sn', e'⟩ := step_C (cps := cps) (lim := lim) (ls := ls) (s := s) (first := first) (must := must) (seen := sn) (by
    rw [show (s + 1 + 2 == s) = false by simp; omega]; simp)
  rw [e']
  refine .step rfl ?_
  rw [step_D]
  refine .step rfl ?_
  rw [step_E]
  refine .step rfl ?_
  rw [step_G]
  exact ⟨_, rfl, rfl, rfl, rfl⟩
end Mine
end
section
open PySem PySem.W PyProof.Rows PySem.Calls
set_option maxRecDepth 10000
namespace Mine
open PySem.Sre
section
variable {cps : Array Nat} {lim ls s : Nat} {first must : Bool} {seen : Sre.Seen}
theorem ends_hit {a b v p : Nat} (h : (a, b, v) ∈ CODES) (h0 : (cps.getD p 0 == 61) = true) (ha : cps.getD (p + 1) 0 = a) (hb : cps.getD (p + 1 + 1) 0 = b) (hl : p + 3 ≤ lim) :
    ∀ (n s : Nat) (first must : Bool) (seen : Sre.Seen), s + n = p → (∀ i, s ≤ i → i < p → (cps.getD i 0 == 61) = false) → EndsIn (2 * n + 6) (att cps lim lim s first must seen) .matched p (p + 3)
  | 0, s, first, must, seen, e, _ => by
    obtain rfl : s = p := e
    exact ends_match h h0 ha hb hl
  | n + 1, s, first, must, seen, e, hn => by
    have ih := ends_hit h h0 ha hb hl n (s + 1) false false (seen.add 16) (by omega) fun i hi hi' => hn i (by omega) hi'
    refine .step rfl ?_
    rw [step_no (by omega) (hn s (Nat.le_refl _) (by omega))]
    refine .step rfl ?_
    rw [step_next (by omega)]
    exact ih
theorem ends_miss : ∀ (n s : Nat) (first must : Bool) (seen : Sre.Seen), s + n = lim → (∀ i, s ≤ i → i < lim → (cps.getD i 0 == 61) = false) → ∃ b e, EndsIn (2 * n + 3) (att cps lim lim s first must seen) .failed b e
  | 0, s, first, must, seen, e, _ => by
    refine ⟨s, s, .step rfl ?_⟩
    rw [step_off (by omega)]
    refine .step rfl ?_
    rw [step_last (by omega)]
    refine .step rfl ?_
    rw [step_failed]
    exact ⟨_, rfl, rfl, rfl, rfl⟩
  | n + 1, s, first, must, seen, e, hn => by
    obtain ⟨b, e', ih⟩ := ends_miss n (s + 1) false false (seen.add 16) (by omega) fun i hi hi' => hn i (by omega) hi'
    refine ⟨b, e', .step rfl ?_⟩
    rw [step_no (by omega) (hn s (Nat.le_refl _) (by omega))]
    refine .step rfl ?_
    rw [step_next (by omega)]
    exact ih
theorem search_att (h : s + 3 ≤ lim) : ∃ seen, Sre.forSearch CODE cps 0 s lim must = att cps lim lim s true must seen := by
  have e : Sre.forSearch CODE cps 0 s lim must = (if (decide (s > lim) || decide (lim - s < 3)) = true then M.say { code := CODE, text := cps, lim := lim, start := s, pc := 9, pos := s, handed := s, marks := #[], mustAdvance := must, seen := ({} : Sre.Seen).add 14 } false else att cps lim lim s true must (({} : Sre.Seen).add 14)) := rfl
  rw [e, if_neg (by simp; omega)]
  exact ⟨_, rfl⟩
theorem search_short (h : lim < s + 3) : ∃ b e, EndsIn 1 (Sre.forSearch CODE cps 0 s lim must) .failed b e := by
  have e : Sre.forSearch CODE cps 0 s lim must = (if (decide (s > lim) || decide (lim - s < 3)) = true then M.say { code := CODE, text := cps, lim := lim, start := s, pc := 9, pos := s, handed := s, marks := #[], mustAdvance := must, seen := ({} : Sre.Seen).add 14 } false else att cps lim lim s true must (({} : Sre.Seen).add 14)) := rfl
  rw [e, if_pos (by simp; omega)]
  exact ⟨_, _, _, rfl, rfl, rfl, rfl⟩
theorem runFor_add (a : Nat) : ∀ (b : Nat) (m : M), M.runFor (a + b) m = M.runFor b (M.runFor a m) := by
  induction a with
  | zero => intro b m; rw [Nat.zero_add]; rfl
  | succ a ih =>
    intro b m
    by_cases h : m.outcome.isSome = true
    · rw [runFor_done h, runFor_done h, runFor_done h]
    · have h' : m.outcome.isSome = false := by simpa using h
      rw [show a + 1 + b = (a + b) + 1 by omega, runFor_one h', runFor_one h', ih]
end
section
variable {MM : Model} {A : Around} {E : Value → Shared → Prop} {s : Shared}
open PySem.Builtin.Re
theorem drive {Q : M → Shared → Prop} {o : Sre.Outcome} {b e : Nat} : ∀ (T k : Nat) (m : M), k < T → EndsIn k m o b e → (∀ m', m'.outcome = some o → m'.start = b → m'.handed = e → Q m' s) → wpAny MM A (reDrive T m) Q E s
  | 0, k, m, hk, _, _ => absurd hk (Nat.not_lt_zero _)
  | T + 1, k, m, hk, hE, h => by
    obtain ⟨m', h1, h2, h3, h4⟩ := hE
    rw [reDrive]
    by_cases hd : (m.runFor reTurnSteps).outcome.isSome = true
    · have : M.runFor reTurnSteps m = m' := by
        by_cases hk4 : k ≤ 4
        · have : M.runFor 4 m = M.runFor (4 - k) m' := by rw [← h1, ← runFor_add, show k + (4 - k) = 4 by omega]
          show M.runFor 4 m = m'
          rw [this, runFor_done (by rw [h2]; rfl)]
        · rw [← h1, show k = reTurnSteps + (k - 4) by unfold reTurnSteps; omega, runFor_add, runFor_done hd]
      rw [if_pos hd, this]
      exact wpAny_pure (h _ h2 h3 h4)
    · rw [if_neg hd]
      have hk4 : ¬ k ≤ 4 := fun hk4 => hd (by
        have : M.runFor 4 m = M.runFor (4 - k) m' := by rw [← h1, ← runFor_add, show k + (4 - k) = 4 by omega]
        show (M.runFor 4 m).outcome.isSome = true
        rw [this, runFor_done (by rw [h2]; rfl), h2]; rfl)
      refine wpAny_bind (wpAny_rule ?_)
      refine drive T (k - 4) _ (by omega) ⟨m', ?_, h2, h3, h4⟩ h
      rw [← h1]
      conv => rhs; rw [show k = reTurnSteps + (k - 4) by unfold reTurnSteps; omega, runFor_add]
theorem to_end_hit {Q : Option M → Shared → Prop} {b e k : Nat} {m : M} (hk : k ≤ 1000000) (hE : EndsIn k m .matched b e) (h : ∀ m', m'.start = b → m'.handed = e → Q (some m') s) : wpAny MM A (reRunToEnd m) Q E s := by
  unfold reRunToEnd
  refine wpAny_bind (drive (2 ^ 64) k m (Nat.lt_of_le_of_lt hk (by decide)) hE fun m' h2 h3 h4 => ?_)
  refine wpAny_bind (wpAny_forIn_list _ (fun _ _ s' => s' = s) _ ?turn ?fin _ _ rfl)
  case turn =>
    rintro r rest _ s' rfl
    split
    · exact wpAny_bind (wpAny_rule (wpAny_pure rfl))
    · exact wpAny_pure rfl
  case fin =>
    rintro _ s' rfl
    rw [h2]
    exact wpAny_pure (h _ h3 h4)
theorem to_end_miss {Q : Option M → Shared → Prop} {b e k : Nat} {m : M} (hk : k ≤ 1000000) (hE : EndsIn k m .failed b e) (h : Q none s) : wpAny MM A (reRunToEnd m) Q E s := by
  unfold reRunToEnd
  refine wpAny_bind (drive (2 ^ 64) k m (Nat.lt_of_le_of_lt hk (by decide)) hE fun m' h2 h3 h4 => ?_)
  refine wpAny_bind (wpAny_forIn_list _ (fun _ _ s' => s' = s) _ ?turn ?fin _ _ rfl)
  case turn =>
    rintro r rest _ s' rfl
    split
    · exact wpAny_bind (wpAny_rule (wpAny_pure rfl))
    · exact wpAny_pure rfl
  case fin =>
    rintro _ s' rfl
    rw [h2]
    exact wpAny_pure h
/-- what stands in a good suffix -/
theorem good_split : ∀ (l : List Nat), goodL l = true → (∀ c ∈ l, (c == 61) = false) ∧ decL l = l ∨ ∃ p a b v r, l = p ++ 61 :: a :: b :: r ∧ (∀ c ∈ p, (c == 61) = false) ∧ (a, b, v) ∈ CODES ∧ goodL r = true ∧ decL l = p ++ v :: decL r := by
  intro l
  induction l with
  | nil => intro _; exact Or.inl ⟨by simp, rfl⟩
  | cons c t ih =>
    intro hg
    by_cases hc : c = 61
    · subst hc
      match t, hg with
      | a :: b :: r, hg =>
        simp only [goodL, Bool.and_eq_true] at hg
        obtain ⟨v, hv⟩ := Option.isSome_iff_exists.mp hg.1
        have hv' := hv
        unfold codeV at hv
        obtain ⟨q, hq, hq2⟩ := Option.map_eq_some_iff.mp hv
        have hm := List.mem_of_find?_eq_some hq
        have hp := List.find?_some hq
        simp only [Bool.and_eq_true, beq_iff_eq] at hp
        obtain ⟨q1, q2, q3⟩ := q
        obtain ⟨rfl, rfl⟩ := hp
        simp only at hq2
        subst hq2
        refine Or.inr ⟨[], q1, q2, q3, r, rfl, by simp, hm, hg.2, ?_⟩
        simp only [decL, hv', Option.getD_some, List.nil_append]
      | [a], hg => simp [goodL] at hg
      | [], hg => simp [goodL] at hg
    · have hb : (c == 61) = false := by simpa using hc
      have e1 : goodL (c :: t) = goodL t := by
        rw [goodL]
        · intros; exact hc (by assumption)
        · intros; exact hc (by assumption)
      have e2 : decL (c :: t) = c :: decL t := by
        rw [decL]
        intros; exact hc (by assumption)
      rw [e1] at hg
      rcases ih hg with ⟨h1, h2⟩ | ⟨p, a, b, v, r, h1, h2, h3, h4, h5⟩
      · exact Or.inl ⟨by intro x hx; rcases List.mem_cons.mp hx with rfl | hx; exact hb; exact h1 x hx, by rw [e2, h2]⟩
      · exact Or.inr ⟨c :: p, a, b, v, r, by rw [h1]; rfl, by intro x hx; rcases List.mem_cons.mp hx with rfl | hx; exact hb; exact h2 x hx, h3, h4, by rw [e2, h5]; rfl⟩
end
end Mine
end
section
open PySem PySem.W PyProof.Rows
namespace Mine
local macro_rules | `(tactic| walk_at "mine enter") => `(tactic| (k_dflt (refine' enter0 (body := _ :: _) (params := ⟨_, _, _, _, _, _, _⟩) (scope := ⟨_, _, _, _, _⟩) ?k1 ?k2 ?k3 ?k5 ?kA ?kF ?kK ?k6 ?k7 ?k8 ?k9 ?kB ?_ ?c2 ?c3 ?c4 ?c5; (case kA => exact rfl); (case kF => exact rfl); (case kK => assumption); (case k1 => k_asm); (case k2 => k_asm); (case k3 => k_asm); (case k5 => k_asm); (case k6 => first | k_is | exact rfl); (case k7 => k_is); (case k8 => ktr_room); (case k9 => first | exact BindsTo.of_eq rfl | exact binds_K (by k_in) rfl (by k_is) rfl rfl rfl); (case c5 => decide); (case kB => exact locs rfl); (case c2 => exact rfl); (case c3 => exact rfl); (case c4 => exact rfl); k_whole; intro g' L' h' kg F' N' B' X' T'; (try dsimp only); (try k_lift B'); (try k_fold))))
local macro_rules | `(tactic| walk_at "mine enterC") => `(tactic| (k_dflt (refine' enter0C (body := _ :: _) (params := ⟨_, _, _, _, _, _, _⟩) (scope := ⟨_, _, _, _, _⟩) ?k1 ?k2 ?k3 ?k5 ?kA ?kF ?kK ?k6 ?k7 ?k8 ?k9 ?kB ?kD ?_ ?c2 ?c3 ?c4; (case kA => exact rfl); (case kF => exact rfl); (case kK => assumption); (case k1 => k_asm); (case k2 => k_asm); (case k3 => k_asm); (case k5 => k_asm); (case k6 => first | k_is | exact rfl); (case k7 => k_is); (case k8 => ktr_room); (case k9 => first | exact BindsTo.of_eq rfl | exact binds_K (by k_in) rfl (by k_is) rfl rfl rfl); (case kB => exact rfl); (case kD => decide +kernel); (case c2 => exact rfl); (case c3 => exact rfl); (case c4 => exact rfl); k_whole; intro g' L' h' tk' cells' kg F' N' Y' B' X' T'; k_cells Y'; (try simp only [List.cons_append, List.nil_append] at N'); (try dsimp only); (try k_lift B'); (try k_fold))))
section
set_option maxRecDepth 100000 in
set_option maxHeartbeats 8000000 in
set_option rowWalk.seconds 0 in
theorem strip_c (w : World) (mean : ExcName → Option Value) (mg mb : Str → Option Value) (x : Str) (t : Tok) (n : Int) (u : Tok) :
    KCS w mean mg mb 5 50 38 (stripP x n) [.str x t, .int n u] (stripF x n) := by
  dsimp only [KCS, PR, VW, LO]
  k_fill
  intros
  rename_i hpre _ _ hret
  replace hret := kc_go hret
  obtain ⟨hn0, hn1, hl, hnb⟩ := hpre
  refine wpAny_call ?_
  walk_at "mine enter"
  k_with_none
  k_with "state" => exact P1.start (by assumption) (by assumption) (by assumption)
  k_with "state" => exact P2.start (by assumption) (by assumption) (by assumption)
  k_with "state" => exact P1.turn (by assumption) (by assumption) (by assumption) (by assumption) (by assumption) (by assumption) (by assumption) (by assumption)
  k_with "state" => exact P2.turn (by assumption) (by assumption) (by assumption) (by assumption) (by assumption) (by assumption) (by assumption) (by assumption)
  k_with "exec While BoolOp cons nil" => k_while_given ["s", "amount!"] (fun s a₀ _ lpos amount => 0 ≤ lpos ∧ 0 ≤ amount ∧ amount < 1000 ∧ lpos < (s.length : Int) ∧ R1 s a₀ lpos amount) (fun _ _ _ _ amount => amount.toNat) "lpos" "amount"
  k_with "exec While BoolOp cons nil" => k_while_given ["s", "amount!"] (fun s a₀ _ rpos amount => 0 ≤ rpos ∧ 0 ≤ amount ∧ amount < 1000 ∧ rpos < (s.length : Int) ∧ R2 s a₀ rpos amount) (fun _ _ _ _ amount => amount.toNat) "rpos" "amount"
  k_steps
  k_with_none
  all_goals refine hret (by assumption) (by assumption) ?_
  all_goals exact strip_end (by assumption) (by assumption) (by assumption) (by assumption) (by assumption) (by assumption) (by assumption) (by assumption) (by first | exact Or.inl (by assumption) | exact Or.inr (by assumption)) (by first | exact Or.inl (by assumption) | exact Or.inr (by assumption))
end
section
local macro_rules | `(tactic| walk_at "execs cons") => `(tactic| (k_here; with_reducible refine wpAny_execs_cons ?_))
local macro_rules | `(tactic| walk_at "call builtin:str.replace") => `(tactic| (k_here; (refine replaceS (neN (by first | omega | (simp; done) | (simp; omega))) (neN (by first | omega | (simp; done) | (simp; omega))) (neN (by first | omega | (simp; done) | (simp; omega))) (by decide +kernel) (by assumption) (by decide +kernel) ?_); intro _ _ hk9; (try dsimp only at hk9); (try simp only [List.length_cons, List.length_nil] at hk9)))
set_option maxRecDepth 100000 in
set_option maxHeartbeats 8000000 in
set_option rowWalk.seconds 0 in
theorem lawBody_c (w : World) (mean : ExcName → Option Value) (mg mb : Str → Option Value) (x : Str) (t : Tok)  :
    KCS w mean mg mb 5 50 140 (isWord x) [.str x t] (lawBodyF x) := by
  dsimp only [KCS, PR, VW, LO]
  k_fill
  intros
  rename_i hpre _ _ hret
  replace hret := kc_go hret
  obtain ⟨h1, h2⟩ := word_len hpre
  refine wpAny_call ?_
  walk_at "mine enter"
  k_steps
  all_goals exact hret (by assumption) (by assumption) rfl
end
section
def lawLeftF (l : Int) (x : Str) (r a : Int) : Str :=
  Txt.mul (Str.ofString " ") (if 0 > l - a then 0 else l - a) ++ x ++
      Txt.mul (Str.ofString " ")
        (if 0 > r - (a - (l - if 0 > l - a then 0 else l - a)) then 0
        else r - (a - (l - if 0 > l - a then 0 else l - a)))
def leftP (left : Int) (word : Str) (right amount : Int) : Prop := 0 ≤ left ∧ left ≤ 3 ∧ 0 ≤ right ∧ right ≤ 3 ∧ 0 ≤ amount ∧ amount ≤ 7 ∧ word.length ≤ 1000
set_option maxRecDepth 100000 in
set_option maxHeartbeats 8000000 in
set_option rowWalk.seconds 0 in
theorem lawLeft_c (w : World) (mean : ExcName → Option Value) (mg mb : Str → Option Value) (l : Int) (tl : Tok) (x : Str) (t : Tok) (r : Int) (tr : Tok) (a : Int) (ta : Tok) :
    KCS w mean mg mb 5 50 128 (leftP l x r a) [.int l tl, .str x t, .int r tr, .int a ta] (lawLeftF l x r a) := by
  dsimp only [KCS, PR, VW, LO]
  k_fill
  intros
  rename_i hpre _ _ hret
  replace hret := kc_go hret
  obtain ⟨h1, h2, h3, h4, h5, h6, h7⟩ := hpre
  refine wpAny_call ?_
  walk_at "mine enter"
  k_steps
  all_goals exact hret (by assumption) (by assumption) rfl
end
section
local macro_rules | `(tactic| walk_at "call type:int") => `(tactic| (k_here; (with_reducible show wpAny _ _ (call (Value.type "int") [Value.str _ _, Value.int _ _]) _ _ _); (refine call_hex (by assumption) ?_)))
set_option maxRecDepth 100000 in
set_option maxHeartbeats 8000000 in
set_option rowWalk.seconds 0 in
theorem unq_c (w : World) (mean : ExcName → Option Value) (mg mb : Str → Option Value) (x : Str) (t : Tok) :
    KCS w mean mg mb 5 50 66 (isCodeS x) [.str x t] ⟨#[unqV x]⟩ := by
  dsimp only [KCS, PR, VW, LO]
  k_fill
  intros
  rename_i hpre _ _ hret
  replace hret := kc_go hret
  obtain ⟨hx, hlen, h256⟩ := codeS_facts hpre
  refine wpAny_call ?_
  walk_at "mine enter"
  k_steps
  all_goals exact hret (by assumption) (by assumption) rfl
end
section
local macro_rules | `(tactic| walk_at "exec For Name Call cons nil") => `(tactic| (k_here; (rename Fr _ _ _ _ => lF'); (with_unfolding_all refine' For_turns lF' ?_; k_whole)))
local macro_rules | `(tactic| walk_at "call builtin:str.splitlines") => `(tactic| (k_here; (with_reducible rename Fr _ _ _ _ => F'); (with_reducible rename News _ _ _ _ => N'); (refine splitlines1 F' N' (by assumption) (by assumption) ?_); intro l' t' h' k' F' N' l1; (try k_lt l1); (try k_sweep)))
local macro_rules | `(tactic| walk_at "call builtin:str.rstrip") => `(tactic| (k_here; (refine rstrip1 (by assumption) (by assumption) ?_); intro _ _))
local macro_rules | `(tactic| walk_at "call ref") => `(tactic| (k_here; (with_reducible show wpAny _ _ (call (Value.ref 66) [Value.str _ _]) _ _ _); k_dflt (refine' unq_c _ _ _ _ _ _ _ _ _ _ _ _ _ _ _ _ _ _ _ _ _ _ _ ?k1 ?k2 ?k3 ?k5 ?kK ?kp ?kd ?ku ?kR; (case k1 => k_asm); (case k2 => k_asm); (case k3 => k_asm); (case k5 => k_asm); (case kK => first | exact rfl | assumption); (case kp => exact D1.isCode (by assumption) (by assumption) (by assumption) (by assumption)); (case kd => ktr_room); (case ku => ktr_units)); (rename Fr _ _ _ _ => F'); (rename News _ _ _ _ => N'); intro t9 h9 tk9 k9; (have F9 := keeps_fr F' k9); (have N9 := keeps_news N' k9); clear F' N'; (try dsimp only); (try k_fold)))
set_option maxRecDepth 100000 in
set_option maxHeartbeats 8000000 in
set_option rowWalk.seconds 0 in
theorem dec_c (w : World) (mean : ExcName → Option Value) (mg mb : Str → Option Value) (x : Str) (t : Tok) :
    KCS w mean mg mb 10 100 102 (decOK x = true) [.str x t] (decF x) := by
  dsimp only [KCS, PR, VW, LO]
  k_fill
  intros
  rename_i hpre _ _ hret
  replace hret := kc_go hret
  simp only [decOK, Bool.and_eq_true, decide_eq_true_eq, beq_iff_eq, Bool.not_eq_true'] at hpre
  obtain ⟨⟨⟨⟨⟨hlen, hne⟩, hlines⟩, hstrip⟩, hgood⟩, hlast⟩ := hpre
  refine wpAny_call ?_
  walk_at "mine enter"
  k_with_none
  k_with "state" => exact W1.start (by assumption) (by assumption)
  k_with "state" => exact W1.oneEnd (by assumption) (by assumption) (by assumption) (by assumption) (by assumption)
  k_with "state" => exact W1.oneOn (by assumption) (by assumption) (by assumption) (by assumption) (by assumption)
  k_with "state" => exact W1.codeEnd (by assumption) (by assumption) (by assumption) (by assumption) (by assumption)
  k_with "state" => exact W1.codeOn (by assumption) (by assumption) (by assumption) (by assumption) (by assumption)
  k_with "state" => exact (D1.noEnd (by assumption) (by assumption) (by assumption) (by assumption) (by assumption)).elim
  k_with "state" => exact (D1.noShort (by assumption) (by assumption) (by assumption) (by assumption) (by assumption)).elim
  k_with "state" => exact (D1.noHex1 (by assumption) (by assumption) (by assumption) (by assumption) (by assumption)).elim
  k_with "state" => exact (D1.noHex2 (by assumption) (by assumption) (by assumption) (by assumption) (by assumption)).elim
  k_with "exec While Compare cons nil" => k_while_given ["line"] (fun line _ decoded i => 0 ≤ i ∧ i ≤ (line.length : Int) ∧ (decoded.length : Int) ≤ i + 1 ∧ D1 line decoded i) (fun line _ decoded i => ((line.length : Int) - i).toNat) "decoded" "i"
  k_steps
  k_with_none
  all_goals first
    | (exfalso; omega)
    | exact (dec_end2 (by assumption) (by assumption) (by assumption) (by assumption)).elim
    | exact (dec_end3 (by assumption) (by assumption)).elim
    | exact hret (by assumption) (by assumption) (dec_end1 (by assumption) (by assumption) (by assumption))
end
section
set_option maxRecDepth 100000 in
set_option maxHeartbeats 8000000 in
set_option rowWalk.seconds 0 in
theorem quote_c (w : World) (mean : ExcName → Option Value) (mg mb : Str → Option Value) (x : Str) (t : Tok) :
    KCS w mean mg mb 5 50 73 (x = ⟨#[32]⟩) [.str x t] (Str.ofString "=20") := by
  dsimp only [KCS, PR, VW, LO]
  k_fill
  intros
  rename_i hpre _ _ hret
  replace hret := kc_go hret
  subst hpre
  refine wpAny_call ?_
  walk_at "mine enter"
  k_steps
  all_goals exact hret (by assumption) (by assumption) rfl
end
section
local macro_rules | `(tactic| walk_at "exec For Name Call cons nil") => `(tactic| (k_here; (rename Fr _ _ _ _ => lF'); (with_unfolding_all refine' For_turns lF' ?_; k_whole)))
local macro_rules | `(tactic| walk_at "call builtin:str.splitlines") => `(tactic| (k_here; (with_reducible rename Fr _ _ _ _ => F'); (with_reducible rename News _ _ _ _ => N'); (refine splitlines1 F' N' (by assumption) (by assumption) ?_); intro l' t' h' k' F' N' l1; (try k_lt l1); (try k_sweep)))
local macro_rules | `(tactic| walk_at "getMethod str") => `(tactic| (k_here; (with_reducible refine gm_translate ?_)))
local macro_rules | `(tactic| walk_at "call builtin:str.translate") => `(tactic| (k_here; k_dflt (refine transB (by k_in) (by assumption) (by assumption) (by assumption) ?_); intro _ _))
local macro_rules | `(tactic| walk_at "call ref") => `(tactic| (k_here; (with_reducible show wpAny _ _ (call (Value.ref 73) [Value.str _ _]) _ _ _); k_dflt (refine' quote_c _ _ _ _ _ _ _ _ _ _ _ _ _ _ _ _ _ _ _ _ _ _ _ ?k1 ?k2 ?k3 ?k5 ?kK ?kp ?kd ?ku ?kR; (case k1 => k_asm); (case k2 => k_asm); (case k3 => k_asm); (case k5 => k_asm); (case kK => first | exact rfl | assumption); (case kp => exact blank_of (by assumption) (by assumption)); (case kd => ktr_room); (case ku => ktr_units)); (rename Fr _ _ _ _ => F'); (rename News _ _ _ _ => N'); intro t9 h9 tk9 k9; (have F9 := keeps_fr F' k9); (have N9 := keeps_news N' k9); clear F' N'; (try dsimp only); (try k_fold)))
local macro_rules | `(tactic| walk_at "getAttr ref") => `(tactic| (k_here; (with_reducible show wpAny _ _ (getAttr (Value.ref _) (Str.ofString "append") true) _ _ _); k_dflt (refine' attr_append ?kF ?kN ?km ?_; (case kF => k_asm); (case kN => k_asm); (case km => k_mem); k_whole); intro q' h' tk' F' N' l1; (try k_lt l1); (try k_sweep)))
local macro_rules | `(tactic| walk_at "callWith ref") => `(tactic| (k_here; (with_reducible show wpAny _ _ (callWith _ (Value.ref _) _ (backTo _ (starEach (_ :: _) _)) []) _ _ _); k_dflt (refine' callWith_append ?kN ?km ?_; (case kN => k_asm); (case km => k_mem); k_whole)))
local macro_rules | `(tactic| walk_at "And") => `(tactic| ((with_reducible show AtB _ _ _ ∧ _); k_dflt (refine ⟨atB_of (by k_asm) (by k_mem), ?_⟩); (try dsimp only [List.nil_append, List.cons_append])))
local macro_rules | `(tactic| walk_at "call ref") => `(tactic| (k_here; (with_reducible show wpAny _ _ (call (Value.ref _) [_]) _ _ _); k_dflt (refine' append_B ?kF ?kN ?km ?kU ?kz ?_; (case kF => k_asm); (case kN => k_asm); (case km => k_mem); (case kU => k_upd); (case kz => exact Nat.le_of_ble_eq_true rfl); k_whole); intro h' F' N'; (try k_sweep)))
local macro_rules | `(tactic| walk_at "WhlIf") => `(tactic| (refine WhlIf.no (decide_eq_false (by omega)) ?_))
local macro_rules | `(tactic| walk_at "call builtin:str.join") => `(tactic| (k_here; k_dflt (refine' join1 ?kN ?km ?ke ?_; (case kN => k_asm); (case km => k_mem); (case ke => exact rfl); k_whole)))
set_option maxRecDepth 100000 in
set_option maxHeartbeats 8000000 in
set_option rowWalk.seconds 0 in
theorem benc_c (w : World) (mean : ExcName → Option Value) (mg mb : Str → Option Value) (x : Str) (t : Tok) :
    KCS w mean mg mb 10 100 94 (bodyOK x = true) [.str x t] (bodyF x) := by
  dsimp only [KCS, PR, VW, LO]
  k_fill
  intros
  rename_i hpre _ _ hret
  replace hret := kc_go hret
  simp only [bodyOK, Bool.and_eq_true, decide_eq_true_eq, beq_iff_eq, Bool.not_eq_true'] at hpre
  obtain ⟨⟨⟨⟨⟨⟨⟨hlen, hne⟩, hal⟩, hlines⟩, hblen⟩, hbne⟩, hlast⟩, hbl⟩ := hpre
  have hb1000 : (B x).length ≤ 1000 := by omega
  refine wpAny_call ?_
  walk_at "mine enter"
  k_with_none
  k_steps
  all_goals first
    | (exfalso; omega)
    | exact (nocr (by assumption) (by assumption)).elim
    | exact hret (by assumption) (by assumption) (benc_end1 (by assumption) (by assumption))
    | exact hret (by assumption) (by assumption) (benc_end2 (by assumption) (by assumption))
end
section
local macro_rules | `(tactic| walk_at "getMethod str") => `(tactic| (k_here; (with_reducible refine gm_translate ?_)))
local macro_rules | `(tactic| walk_at "call builtin:str.translate") => `(tactic| (k_here; k_dflt (refine transH (by k_in) (by assumption) (by assumption) (by assumption) ?_); intro _ _))
local macro_rules | `(tactic| walk_at "call builtin:bytes.decode") => `(tactic| (k_here; k_dflt (refine decA (by assumption) (by assumption) (by assumption) ?_); intro _ _))
set_option maxRecDepth 100000 in
set_option maxHeartbeats 8000000 in
set_option rowWalk.seconds 0 in
theorem henc_c (w : World) (mean : ExcName → Option Value) (mg mb : Str → Option Value) (x : Str) (t : Tok) :
    KCS w mean mg mb 10 100 81 (hencOK x = true) [.bytes (latB x) t] (Str.ofString "=?iso-8859-1?q?" ++ H x ++ Str.ofString "?=") := by
  dsimp only [KCS, PR, VW, LO]
  k_fill
  intros
  rename_i hpre _ _ hret
  replace hret := kc_go hret
  simp only [hencOK, Bool.and_eq_true, decide_eq_true_eq, beq_iff_eq, Bool.not_eq_true'] at hpre
  obtain ⟨⟨⟨hlen, hne⟩, hal⟩, hlH⟩ := hpre
  have hbs : (latB x).size = x.length := latB_size x
  refine wpAny_call ?_
  walk_at "mine enter"
  k_with_none
  k_steps
  all_goals first
    | (exfalso; omega)
    | exact hret (by assumption) (by assumption) henc_end
end
section
open PySem PySem.W PyProof.Rows PySem.Calls
set_option maxRecDepth 100000
open PySem.Builtin.Re PySem.Builtin
def PATO : Obj := { cls := .type "re.Pattern", data := .fields #[.str (Str.ofString "=[a-fA-F0-9]{2}") 295, .int 256 327, .int 0 0, .none, .none, .ref 42, .int 0 0] }
def CODEV : Array Value := #[.int 14 0, .int 8 0, .int 1 0, .int 3 0, .int 3 0, .int 1 0, .int 1 0, .int 61 0, .int 0 0, .int 16 0, .int 61 0, .int 24 0, .int 16 0, .int 2 0, .int 2 0, .int 13 0, .int 11 0, .int 9 0, .int 0 0, .int 67043328 0, .int 126 0, .int 126 0, .int 0 0, .int 0 0, .int 0 0, .int 0 0, .int 0 0, .int 1 0, .int 1 0]
def CODEO : Obj := { cls := .type "tuple", data := .seq CODEV }
def matchO (y : Str) (t : Tok) (tup : Addr) (lim : Nat) (li : Int) : Obj := { cls := .type "re.Match", data := .fields #[.str y t, .ref 43, rawInt 0, rawInt lim, rawInt li, .ref tup] }
def tupO (b e : Nat) : Obj := { cls := .type "tuple", data := .seq #[rawInt b, rawInt e] }
theorem pat_of {w : World} {h : Heap} (X : (hd.heap_39 w.params).In h) : h.get? 43 = some PATO ∧ h.get? 42 = some CODEO := ⟨X _ _ rfl, X _ _ rfl⟩
section
variable {MM : Model} {A : Around} {E : Value → Shared → Prop} {s : Shared} {y : Str} {t : Tok}
theorem whole {Q : ReTarget → Shared → Prop} (h43 : s.heap.get? 43 = some PATO) (h42 : s.heap.get? 42 = some CODEO)
    (h : Q { pattern := .ref 43, string := .str y t, code := CODE, text := y.cps, kind := 0, groups := 0, pos := 0, lim := y.cps.size } s) : wpAny MM A (reWholeTarget (.ref 43) (.str y t)) Q E s := by
  unfold reWholeTarget
  refine wpAny_bind (m := fieldsOf (.ref 43)) ?_
  unfold fieldsOf
  refine wpAny_bind (wpAny_load h43 ?_)
  refine wpAny_pure ?_
  refine wpAny_bind (wpAny_of_eq (a := (y.cps, 0)) (by first | rfl | kernel_rfl) ?_)
  dsimp only
  show wpAny MM A (do reNoCollectionInside (.str y t) 0; pure { pattern := .ref 43, string := .str y t, code := (← reRawItems (.ref 42)).map (·.toNat), text := y.cps, kind := 0, groups := 0, pos := 0, lim := y.cps.size }) Q E s
  refine wpAny_bind (wpAny_of_eq (a := ()) rfl ?_)
  refine wpAny_bind (m := reRawItems (.ref 42)) ?_
  unfold reRawItems
  refine wpAny_bind (wpAny_seqItems h42 rfl ?_)
  have e : (CODEV.map reRawOf).map (·.toNat) = CODE := by decide +kernel
  refine wpAny_pure (wpAny_pure ?_)
  show Q { pattern := .ref 43, string := .str y t, code := (CODEV.map reRawOf).map (·.toNat), text := y.cps, kind := 0, groups := 0, pos := 0, lim := y.cps.size } s
  rw [e]; exact h
theorem slice0 {Q : Value → Shared → Prop} {c : Array Nat} {b e : Nat} (hl : c.size ≤ 1000) (h : Q (.str ⟨c.extract b e⟩ s.toks) { s with toks := s.toks + 1 }) : wpAny MM A (reSlice c 0 b e) Q E s := by
  show wpAny MM A (mkStr ⟨c.extract b e⟩) Q E s
  exact wpAny_mkStr h (by simp only [Str.length, Array.size_extract]; rw [sizeLine_eq]; omega)
theorem newMatch {Q : Value → Shared → Prop} {m : Sre.M} {lim : Nat}
    (h : Q (.ref (s.heap.push (tupO m.start m.handed)).objs.size) { s with heap := (s.heap.push (tupO m.start m.handed)).push (matchO y t s.heap.objs.size lim m.lastindex) }) : wpAny MM A (reNewMatch (.ref 43) (.str y t) 0 0 lim m) Q E s := by
  show wpAny MM A (do newFields "re.Match" [.str y t, .ref 43, rawInt 0, rawInt lim, rawInt m.lastindex, ← newTuple [rawInt m.start, rawInt m.handed]]) Q E s
  exact wpAny_bind (wpAny_newTuple (wpAny_newObj_type h))
end
/-- the texts one after another -/
def flatL (l : List (Str × Tok)) : List Nat := l.flatMap fun p => p.1.cps.toList
theorem join_flat : ∀ l : List Str, Str.join (⟨#[]⟩ : Str) l = mkS (l.flatMap fun x => x.cps.toList)
  | [] => rfl
  | [x] => by simp [Str.join, mkS]
  | x :: z :: r => by
    rw [Str.join, join_flat (z :: r)]
    · apply Str.ext'
      apply Array.toList_inj.mp
      show (x.cps ++ #[] ++ _).toList = _
      simp [mkS, List.flatMap_cons]
    · simp
theorem joinOk_flat (l : List Str) (h : (l.flatMap fun x => x.cps.toList).length ≤ 1000) : JoinOk (⟨#[]⟩ : Str) l = true := by
  have key : ∀ (l : List Str) (a : Nat), l.foldl (fun a x => a + x.length + (⟨#[]⟩ : Str).length) a = a + (l.flatMap fun x => x.cps.toList).length := by
    intro l
    induction l with
    | nil => intro a; rfl
    | cons x r ih => intro a; rw [List.foldl_cons, ih]; simp [Str.length]; omega
  unfold JoinOk
  rw [← Array.foldl_toList, List.toList_toArray, key]
  simp only [Builtin.Str.tooLong, Bool.not_eq_true', decide_eq_false_iff_not]
  rw [sizeLine_eq]; omega
end
section
open PySem PySem.W PyProof.Rows PySem.Calls
set_option maxRecDepth 100000
open PySem.Builtin.Re PySem.Builtin
theorem glued_flat (l : List Str) : Txt.join (⟨#[]⟩ : Str) l = mkS (l.flatMap fun x => x.cps.toList) := by
  have key : ∀ (l : List Str) (acc : Array Nat), l.foldl (fun acc (p : Str) => acc ++ (⟨#[]⟩ : Str).cps ++ p.cps) acc = acc ++ (l.flatMap fun x => x.cps.toList).toArray := by
    intro l
    induction l with
    | nil => intro acc; simp
    | cons x r ih =>
      intro acc; rw [List.foldl_cons, ih]; apply Array.toList_inj.mp; simp
  unfold Txt.join Builtin.Str.glued
  cases l with
  | nil => rfl
  | cons x r =>
    rw [List.drop_one, List.tail_cons, key]
    apply Str.ext'
    apply Array.toList_inj.mp
    simp [mkS]
theorem entry_subloop : entryFor table "re.Pattern.sub.loop" = some Builtin.«re.Pattern.sub.loop» := entryFor_of_tree (by kernel_rfl)
theorem plain_subloop : plainId "re.Pattern.sub.loop" = true := by decide +kernel
theorem slot_match_group : Slot "re.Match" "group" "re.Match.group" :=
  .of (owner := "re.Match") (n := "group") (by rw [typeLookup_type, builtinLookup_eq_fast]; kernel_rfl) (by decide +kernel) (by decide +kernel) (by decide +kernel)
    (by first | exact .inl (by decide +kernel) | exact .inr (by decide +kernel)) (by rw [isSubtype_type]; kernel_rfl)
theorem type_match_group : typeOf (.builtin "re.Match.group") = pure (.type "method_descriptor") := by show builtinType _ = _; rw [builtinType_eq_fast]; kernel_rfl
theorem entry_match_group : entryFor table "re.Match.group" = some Builtin.«re.Match.group» := entryFor_of_tree (by kernel_rfl)
theorem args_match_group (a b : Value) : argsOk "re.Match.group" ⟨[a, b], []⟩ := by unfold argsOk; kernel_rfl
theorem slot_pat_sub : Slot "re.Pattern" "sub" "re.Pattern.sub" :=
  .of (owner := "re.Pattern") (n := "sub") (by rw [typeLookup_type, builtinLookup_eq_fast]; kernel_rfl) (by decide +kernel) (by decide +kernel) (by decide +kernel)
    (by first | exact .inl (by decide +kernel) | exact .inr (by decide +kernel)) (by rw [isSubtype_type]; kernel_rfl)
theorem type_pat_sub : typeOf (.builtin "re.Pattern.sub") = pure (.type "method_descriptor") := by show builtinType _ = _; rw [builtinType_eq_fast]; kernel_rfl
theorem entry_pat_sub : entryFor table "re.Pattern.sub" = some Builtin.«re.Pattern.sub» := entryFor_of_tree (by kernel_rfl)
theorem args_pat_sub (a b c : Value) : argsOk "re.Pattern.sub" ⟨[a, b, c], []⟩ := by unfold argsOk; kernel_rfl
theorem pa_match : PlainAttrs "re.Match" :=
  ⟨⟨"object.__getattribute__", by rw [typeLookup_type, builtinLookup_eq_fast]; kernel_rfl, by decide +kernel⟩, by rw [typeLookup_type, builtinLookup_eq_fast]; kernel_rfl⟩
theorem pa_pat : PlainAttrs "re.Pattern" :=
  ⟨⟨"object.__getattribute__", by rw [typeLookup_type, builtinLookup_eq_fast]; kernel_rfl, by decide +kernel⟩, by rw [typeLookup_type, builtinLookup_eq_fast]; kernel_rfl⟩
section
variable {prog : Program} {w : World} {MM : Model} {A : Around} {E : Value → Shared → Prop} {s : Shared} {y : Str} {t u : Tok} {q tup : Addr} {lim : Nat} {li : Int} {b e : Nat}
theorem gm_group {pl : Sem Bool} {Q : Value × List Value → Shared → Prop} (hq : s.heap.get? q = some (matchO y t tup lim li)) (h : Q (.builtin "re.Match.group", [.ref q]) s) : wpAny MM A (getMethod (.ref q) "group" pl) Q E s :=
  getMethod_builtin (T := "re.Match") ⟨_, hq, rfl⟩ pa_match slot_match_group type_match_group (fun a e => by cases e; exact ⟨_, hq, rfl⟩) h
theorem gm_sub {pl : Sem Bool} {Q : Value × List Value → Shared → Prop} (hq : s.heap.get? 43 = some PATO) (h : Q (.builtin "re.Pattern.sub", [.ref 43]) s) : wpAny MM A (getMethod (.ref 43) "sub" pl) Q E s :=
  getMethod_builtin (T := "re.Pattern") ⟨_, hq, rfl⟩ pa_pat slot_pat_sub type_pat_sub (fun a e => by cases e; exact ⟨_, hq, rfl⟩) h
theorem call_group {Q : Value → Shared → Prop} (hq : s.heap.get? q = some (matchO y t tup lim li)) (ht : s.heap.get? tup = some (tupO b e)) (hl : y.cps.size ≤ 1000)
    (h : ∀ t' k, Q (.str ⟨y.cps.extract b e⟩ t') { s with toks := k }) : wpAny (model prog w) A (call (.builtin "re.Match.group") [.ref q, .int 0 u]) Q E s := by
  refine wpAny_call_entry slot_match_group ⟨_, hq, rfl⟩ entry_match_group ?_ (args_match_group _ _)
  unfold «re.Match.group»
  refine wpAny_bind (wpAny_of_eq (a := ()) rfl ?_)
  show wpAny _ _ (reFound (.ref q) >>= fun x => do ret (← reGroupText x (← reGroupNumber x (.int 0 u)) .none)) _ _ s
  refine wpAny_bind (m := reFound (.ref q)) ?_
  unfold reFound
  refine wpAny_bind (m := fieldsOf (.ref q)) ?_
  unfold fieldsOf
  refine wpAny_bind (wpAny_load hq ?_)
  refine wpAny_pure ?_
  refine wpAny_bind (m := reRawItems (.ref tup)) ?_
  unfold reRawItems
  refine wpAny_bind (wpAny_seqItems ht rfl ?_)
  refine wpAny_pure (wpAny_pure ?_)
  refine wpAny_bind (wpAny_of_eq (a := 0) (by first | rfl | kernel_rfl) ?_)
  refine wpAny_bind (m := reGroupText _ 0 .none) ?_
  have e1 : Array.map reRawOf ((some #[rawInt b, rawInt e]).getD #[]) = #[(b : Int), (e : Int)] := by simp [reRawOf, rawInt]
  rw [e1]
  unfold reGroupText
  show wpAny _ _ (if ((b : Int) < 0 || (e : Int) < 0) = true then pure Value.none else do
    let (text, kind) ← reTextOf (.str y t)
    reSlice text kind (b : Int).toNat (e : Int).toNat) _ _ s
  rw [if_neg (by simp)]
  refine wpAny_bind (wpAny_of_eq (a := (y.cps, 0)) (by first | rfl | kernel_rfl) ?_)
  exact slice0 hl (wpAny_pure ⟨_, rfl, h _ _⟩)
end
end
section
local macro_rules | `(tactic| walk_at "mine none") => `(tactic| skip)
theorem at_now {h g h' : Heap} {L q : Addr} {m : Str → Option Value} {o : Obj} (F : Fr g L h' m) (kg : Keeps h g) (hq : h.get? q = some o) : h'.get? q = some o := F.keep _ _ (kg _ _ hq)
local macro_rules | `(tactic| walk_at "getMethod ref") => `(tactic| (k_here; (refine gm_group (at_now (by assumption) (by assumption) (by assumption)) ?_)))
local macro_rules | `(tactic| walk_at "call builtin:re.Match.group") => `(tactic| (k_here; (refine call_group (at_now (by assumption) (by assumption) (by assumption)) (at_now (by assumption) (by assumption) (by assumption)) (by assumption) ?_); intro _ _))
local macro_rules | `(tactic| walk_at "call ref") => `(tactic| (k_here; (with_reducible show wpAny _ _ (call (Value.ref 66) [Value.str _ _]) _ _ _); k_dflt (refine' unq_c _ _ _ _ _ _ _ _ _ _ _ _ _ _ _ _ _ _ _ _ _ _ _ ?k1 ?k2 ?k3 ?k5 ?kK ?kp ?kd ?ku ?kR; (case k1 => k_asm); (case k2 => k_asm); (case k3 => k_asm); (case k5 => k_asm); (case kK => first | exact rfl | assumption); (case kp => assumption); (case kd => ktr_room); (case ku => ktr_units)); (rename Fr _ _ _ _ => F'); (rename News _ _ _ _ => N'); intro t9 h9 tk9 k9; (have F9 := keeps_fr F' k9); (have N9 := keeps_news N' k9); clear F' N'; (try dsimp only); (try k_fold)))
/-- the contract of the callback: it is handed a match, and answers with the sign of the code -/
noncomputable abbrev KUM (w : World) (mean : ExcName → Option Value) (mg mb : Str → Option Value) (rm ru : Nat) (f : Addr) : Prop :=
  ∀ (y : Str) (t : Tok) (q tup : Addr) (lim : Nat) (li : Int) (b e : Nat) (dp un : Nat) (gd : Option (List Code)) (cn : Str) (cs : Scope) (a : Addr) (ccd : Value) (cl : List (Str × Addr)) (outer : List Env) (A₀ : Around) (base h₀ : Heap) (L : Addr) (m : Str → Option Value) (s : Shared) (Q E : Value → Shared → Prop),
    Below A₀ base outer h₀ → Fr h₀ L s.heap m → (hd.heap_39 w.params).In h₀ → Top VW LO mean mg mb h₀ → cs.kind = .function → s.heap.get? q = some (matchO y t tup lim li) → s.heap.get? tup = some (tupO b e) → y.cps.size ≤ 1000 → isCodeS ⟨y.cps.extract b e⟩ → dp + rm < recursionLimit → un + ru < cLine →
    (∀ (t : Tok) (h' : Heap) (tk' : Nat), Keeps s.heap h' → Q (.str ⟨#[unqV ⟨y.cps.extract b e⟩]⟩ t) { s with heap := h', toks := tk' }) →
    wpAny (model PR w) (ktrTop dp un gd cn cs L a ccd cl outer) (call (.ref f) [.ref q]) Q E s
set_option maxRecDepth 100000 in
set_option maxHeartbeats 8000000 in
set_option rowWalk.seconds 0 in
theorem um_c (w : World) (mean : ExcName → Option Value) (mg mb : Str → Option Value) : KUM w mean mg mb 10 100 109 := by
  dsimp only [KUM, PR, VW, LO]
  k_fill
  intros
  rename_i hq htup hsz hcode _ _ hret
  replace hret := kc_go hret
  refine wpAny_call ?_
  walk_at "mine enter"
  k_with_none
  k_steps
  all_goals first
    | exact hret (by assumption) (by assumption) rfl
end
section
open PySem PySem.W PyProof.Rows PySem.Calls
set_option maxRecDepth 100000
open PySem.Builtin.Re PySem.Builtin
def loopC (y : Str) (t : Tok) (n done : Int) (D : Addr) : Code :=
  .builtin "re.Pattern.sub.loop" ⟨[.ref 43, .str y t, .ref 109, rawInt 1, rawInt 0, rawInt n, rawInt done, rawInt done, .bool false, .ref D, .bool false], []⟩
theorem getD_toList (a : Array Nat) (i : Nat) : a.getD i 0 = a.toList.getD i 0 := by
  simp [Array.getD_eq_getD_getElem?, List.getD_eq_getElem?_getD]
def tailT (y : Str) (t : Tok) (n : Int) (D : Addr) (mm : Sre.M) : Sem Fin := do
  let found ← reNewMatch (Value.ref 43) (Value.str y t) 0 0 y.cps.size mm
  let item ← holding [found] (call (Value.ref 109) [found])
  if (item != Value.none) = true then do
    updateSeq D fun x => x.push item
    again (.builtin "re.Pattern.sub.loop" ⟨[.ref 43, .str y t, .ref 109, rawInt 1, rawInt 0, rawInt (n + 1), rawInt mm.handed, rawInt mm.handed, .bool (mm.handed == mm.start), .ref D, .bool false], []⟩)
  else again (.builtin "re.Pattern.sub.loop" ⟨[.ref 43, .str y t, .ref 109, rawInt 1, rawInt 0, rawInt (n + 1), rawInt mm.handed, rawInt mm.handed, .bool (mm.handed == mm.start), .ref D, .bool false], []⟩)
theorem unq_code : ∀ p ∈ CODES, unqV (codeS p) = p.2.2 := by decide +kernel
theorem getD_mem {l : List Nat} {i : Nat} (h : i < l.length) : l.getD i 0 ∈ l := by rw [List.getD_eq_getElem?_getD, List.getElem?_eq_getElem h]; exact List.getElem_mem h
theorem keeps_push {h₀ h : Heap} (k : Keeps h₀ h) (o : Obj) : Keeps h₀ (h.push o) := fun b x e => Heap.get?_push_of_some _ (k b x e)
theorem keeps_same {h₀ h h' : Heap} {D : Addr} (k : Keeps h₀ h) (hD : h₀.get? D = none) (hs : Heap.SameBut D h h') : Keeps h₀ h' := fun b x e => by
  rw [hs.2 b (fun hb => by rw [hb, hD] at e; cases e)]; exact k b x e
section
variable {w : World} {mean : ExcName → Option Value} {mg mb : Str → Option Value} {dp un : Nat} {gd : Option (List Code)} {cn : Str} {cs : Scope} {a : Addr} {ccd : Value} {cl : List (Str × Addr)} {outer : List Env} {A₀ : Around} {base h₀ hp0 : Heap} {L D : Addr} {m : Str → Option Value}
  {y : Str} {t : Tok} {s0 : Shared} {R : Result → Shared → Prop}
theorem push_piece {MM : Model} {A : Around} {E : Value → Shared → Prop} {s : Shared} {Q : Unit → Shared → Prop} {xs : List (Str × Tok)} {k : Nat} {z : Str} {tz : Tok} (hD : hp0.get? D = none) (kk : Keeps hp0 s.heap) (hl : s.heap.get? D = some (W.listOf (strValues xs).toArray k)) (hx : xs.length ≤ 5000)
    (h : ∀ h', Keeps hp0 h' → h'.get? D = some (W.listOf (strValues (xs ++ [(z, tz)])).toArray (k + 1)) → Q () { s with heap := h' }) : wpAny MM A (updateSeq D (·.push (.str z tz))) Q E s := by
  have hsz : (strValues xs).toArray.size ≤ 5000 := by simpa [strValues] using hx
  refine wpAny_updateSeq hl rfl (h _ (keeps_same kk hD (Heap.SameBut.update ..)) ?_) (hz := by rw [sizeLine_eq]; omega) (_hz' := by simp only [Array.size_push]; rw [sizeLine_eq]; omega)
  rw [Heap.get?_update_self _ hl (by rw [mapSeq_pushA]; rfl), mapSeq_pushA]
  simp [strValues]
theorem fin_join {A : Around} {P : Fin → Shared → Prop} {E : Value → Shared → Prop} {xs : List (Str × Tok)} {k : Nat} {s : Shared} (kk : Keeps hp0 s.heap) (hl : s.heap.get? D = some (W.listOf (strValues xs).toArray k)) (hsz : y.cps.size ≤ 1000) (hf : flatL xs = decL y.cps.toList) (hle : (flatL xs).length ≤ 1000)
    (hR : ∀ (t' : Tok) (tk' : Nat), P (.done (.ret (.str (mkS (decL y.cps.toList)) t'))) { s with toks := tk' }) :
    wpAny (model PR w) A (do
      let joiner ← reSlice y.cps 0 0 0
      let its ← seqItems? (.ref D)
      if (its.getD #[]).isEmpty = true then do
          let text ← pure joiner
          ret text
        else do
          let text ← call (Value.builtin (if (0 == 0) = true then "str.join" else "bytes.join")) [joiner, Value.ref D]
          ret text) P E s := by
  refine wpAny_bind (slice0 hsz ?_)
  refine wpAny_bind (wpAny_seqItems hl rfl ?_)
  have e0 : (y.cps.extract 0 0) = #[] := by simp
  rw [e0]
  cases xs with
  | nil =>
    refine KFB.if_so rfl ?_
    refine wpAny_bind (wpAny_pure (wpAny_pure ?_))
    have := hR s.toks (s.toks + 1)
    rw [← hf] at this
    exact this
  | cons x r =>
    refine KFB.if_not (by simp [strValues]) ?_
    refine wpAny_bind (m := call (.builtin "str.join") [.str ⟨#[]⟩ s.toks, .ref D]) ?_
    refine SC.join (l := x :: r) (texts := (x :: r).map (·.1)) ⟨_, hl, rfl, _, rfl⟩ rfl (joinOk_flat _ ?_) fun t' k' => ?_
    · rw [List.flatMap_map]; exact hle
    · rw [glued_flat, List.flatMap_map]
      have := hR t' k'
      rw [← hf] at this
      exact wpAny_pure this
theorem sub_loop (B : Below A₀ base outer h₀) (F : Fr h₀ L hp0 m) (X : (hd.heap_39 w.params).In h₀) (T : Top VW LO mean mg mb h₀) (hk : cs.kind = .function) (hsz : y.cps.size ≤ 1000) (hD : hp0.get? D = none) (hdp : dp + 10 < recursionLimit) (hun : un + 101 < cLine)
    (hR : ∀ (t' : Tok) (h' : Heap) (tk' : Nat), Keeps hp0 h' → R (.ok (.ret (.str (mkS (decL y.cps.toList)) t'))) { s0 with heap := h', toks := tk' }) :
    ∀ (N done : Nat) (n : Int) (xs : List (Str × Tok)) (k : Nat) (hp : Heap) (tk : Nat), y.cps.size - done < N → done ≤ y.cps.size → Keeps hp0 hp → hp.get? D = some (W.listOf (strValues xs).toArray k) → goodL (y.cps.toList.drop done) = true →
      flatL xs ++ decL (y.cps.toList.drop done) = decL y.cps.toList → (flatL xs).length ≤ done → xs.length ≤ done →
      codeAny (model PR w) (ktrTop dp un gd cn cs L a ccd cl outer) (loopC y t n done D) R { s0 with heap := hp, toks := tk } := by
  intro N
  induction N with
  | zero => intro done n xs k hp tk hN; exact absurd hN (Nat.not_lt_zero _)
  | succ N ih =>
    intro done n xs k hp tk hN hdone kk hl hg hflat hfl hxl
    have F' : Fr h₀ L hp m := keeps_fr F kk
    obtain ⟨h43, h42⟩ := pat_of (h := hp) (X.keeps F'.keep)
    refine codeAny_builtin entry_subloop ?_
    rw [Around.under_plainId plain_subloop]
    show wpAny _ _ (reWholeTarget (.ref 43) (.str y t) >>= fun tg => do
      match ← reNextFound tg (done : Int).toNat false with
      | some m =>
        if (done : Int).toNat < m.start then updateSeq D (·.push (← reSlice tg.text tg.kind (done : Int).toNat m.start))
        let item ← do
            let found ← reNewMatch (.ref 43) (.str y t) tg.groups 0 tg.lim m
            holding [found] (call (.ref 109) [found])
        if item != .none then updateSeq D (·.push item)
        again (.builtin "re.Pattern.sub.loop" ⟨[.ref 43, .str y t, .ref 109, rawInt 1, rawInt 0, rawInt (n + 1), rawInt m.handed, rawInt m.handed, .bool (m.handed == m.start), .ref D, .bool false], []⟩)
      | none =>
        if (done : Int).toNat < tg.lim then updateSeq D (·.push (← reSlice tg.text tg.kind (done : Int).toNat tg.lim))
        let joiner ← reSlice tg.text tg.kind 0 0
        let text ← if ((← seqItems? (.ref D)).getD #[]).isEmpty then pure joiner
          else call (.builtin (if tg.kind == 0 then "str.join" else "bytes.join")) [joiner, .ref D]
        ret text) _ _ _
    refine wpAny_bind (whole h43 h42 ?_)
    dsimp only
    rw [Int.toNat_natCast]
    have hget : ∀ i, y.cps.getD (done + i) 0 = (y.cps.toList.drop done).getD i 0 := fun i => by
      rw [getD_toList]; simp [List.getD_eq_getElem?_getD]
    have hlen : (y.cps.toList.drop done).length = y.cps.size - done := by simp
    rcases good_split _ hg with ⟨hno, hdec⟩ | ⟨p, a', b', v, r, hsp, hp1, hcd, hgr, hdec⟩
    · have hmiss : ∃ k b e, k ≤ 1000000 ∧ EndsIn k (Sre.forSearch CODE y.cps 0 done y.cps.size false) .failed b e := by
        by_cases h3 : done + 3 ≤ y.cps.size
        · obtain ⟨sn, es⟩ := search_att (cps := y.cps) (must := false) h3
          rw [es]
          obtain ⟨b, e, hE⟩ := ends_miss (cps := y.cps) (lim := y.cps.size) (y.cps.size - done) done true false sn (by omega) fun i hi hi' => by
            have := hget (i - done)
            rw [show done + (i - done) = i by omega] at this
            rw [this]
            have hlt : i - done < (y.cps.toList.drop done).length := by omega
            exact hno _ (getD_mem hlt)
          exact ⟨_, b, e, by omega, hE⟩
        · obtain ⟨b, e, hE⟩ := search_short (cps := y.cps) (must := false) (s := done) (lim := y.cps.size) (by omega)
          exact ⟨1, b, e, by omega, hE⟩
      obtain ⟨kE, b, e, hkE, hE⟩ := hmiss
      refine wpAny_bind (to_end_miss hkE hE ?_)
      dsimp only
      by_cases hlt : done < y.cps.size
      · rw [if_pos hlt]
        refine wpAny_bind (slice0 hsz ?_)
        refine wpAny_bind (push_piece hD kk hl (by omega) fun h' kk' hl' => ?_)
        have hdr : List.take (y.cps.size - done) (List.drop done y.cps.toList) = List.drop done y.cps.toList := List.take_of_length_le (by rw [hlen]; exact Nat.le_refl _)
        have hfx : flatL (xs ++ [((⟨y.cps.extract done y.cps.size⟩ : Str), tk)]) = decL y.cps.toList := by
          rw [← hflat, hdec]; simp [flatL, hdr]
        exact fin_join kk' hl' hsz hfx (by rw [hfx, ← hflat, hdec, List.length_append, hlen]; omega) fun t' tk' => hR t' h' tk' kk'
      · rw [if_neg hlt]
        have hfx : flatL xs = decL y.cps.toList := by
          rw [← hflat, hdec, List.drop_eq_nil_of_le (by simp; omega)]; simp
        exact fin_join kk hl hsz hfx (by omega) fun t' tk' => hR t' hp tk' kk
    · have hb : y.cps.toList.drop (done + p.length) = 61 :: a' :: b' :: r := by rw [← List.drop_drop, hsp]; simp
      have hr : y.cps.toList.drop (done + p.length + 3) = r := by rw [← List.drop_drop, hb]; rfl
      have hlt : done + p.length + 3 ≤ y.cps.size := by
        have := congrArg List.length hsp
        simp only [List.length_append, List.length_cons] at this
        omega
      have hg1 : ∀ i, y.cps.getD (done + p.length + i) 0 = (61 :: a' :: b' :: r).getD i 0 := fun i => by
        rw [getD_toList, ← hb]; simp [List.getD_eq_getElem?_getD]
      obtain ⟨sn, es⟩ := search_att (cps := y.cps) (must := false) (s := done) (lim := y.cps.size) (by omega)
      have hE : EndsIn (2 * p.length + 6) (Sre.forSearch CODE y.cps 0 done y.cps.size false) .matched (done + p.length) (done + p.length + 3) := by
        rw [es]
        refine ends_hit hcd (by have := hg1 0; rw [Nat.add_zero] at this; rw [this]; rfl) (hg1 1) (hg1 2) hlt p.length done true false sn rfl fun i hi hi' => ?_
        have := hget (i - done)
        rw [show done + (i - done) = i by omega] at this
        rw [this, hsp]
        have hlt' : i - done < p.length := by omega
        rw [show (p ++ 61 :: a' :: b' :: r).getD (i - done) 0 = p.getD (i - done) 0 by simp [List.getD_eq_getElem?_getD, List.getElem?_append_left hlt']]
        exact hp1 _ (getD_mem hlt')
      refine wpAny_bind (to_end_hit (by omega) hE fun mm hst hhd => ?_)
      dsimp only
      have hext : (⟨y.cps.extract (done + p.length) (done + p.length + 3)⟩ : Str) = codeS (a', b', v) := by
        apply Str.ext'
        apply Array.toList_inj.mp
        simp [codeS, hb]
      have tail : ∀ (xs1 : List (Str × Tok)) (k1 : Nat) (hp1 : Heap) (tk1 : Nat), Keeps hp0 hp1 → hp1.get? D = some (W.listOf (strValues xs1).toArray k1) → flatL xs1 = flatL xs ++ p → xs1.length ≤ done + p.length →
          wpAny (model PR w) (ktrTop dp un gd cn cs L a ccd cl outer).in1 (tailT y t n D mm) (fun fin s' => match fin with | .done f => R (.ok f) s' | .again c' => c'.quiet = true ∧ codeAny (model PR w) (ktrTop dp un gd cn cs L a ccd cl outer) c' R s') (fun e s' => R (.error e) s') { s0 with heap := hp1, toks := tk1 } := by
        intro xs1 k1 hp1 tk1 kk1 hl1 hf1 hx1
        unfold tailT
        refine wpAny_bind (newMatch ?_)
        rw [hst, hhd]
        dsimp only
        have kk2 : Keeps hp1 ((hp1.push (tupO (done + p.length) (done + p.length + 3))).push (matchO y t hp1.objs.size y.cps.size mm.lastindex)) := keeps_push (keeps_push (fun _ _ e => e) _) _
        refine wpAny_bind (wpAny_holding ?_)
        refine um_c w mean mg mb y t _ hp1.objs.size y.cps.size mm.lastindex (done + p.length) (done + p.length + 3) dp (un + 1) gd cn cs a ccd cl outer A₀ base h₀ L m _ _ _ B (keeps_fr F (kk1.trans kk2)) X T hk (Heap.get?_push_size _ rfl) (Heap.get?_push_of_some _ (Heap.get?_push_size _ rfl)) hsz ⟨_, hcd, hext⟩ hdp (by omega) ?_
        intro t3 h3 tk3 kk3
        rw [hext, unq_code _ hcd]
        refine KFB.if_so rfl ?_
        refine wpAny_bind (push_piece (k := k1) (xs := xs1) hD (kk1.trans (kk2.trans kk3)) ((kk2.trans kk3) _ _ hl1) (by omega) fun h4 kk4 hl4 => ?_)
        refine wpAny_pure ⟨plainId_quiet plain_subloop _, ?_⟩
        rw [show (done + p.length + 3 == done + p.length) = false by simp]
        have hfv : flatL (xs1 ++ [(⟨#[v]⟩, t3)]) = flatL xs ++ p ++ [v] := by rw [← hf1]; simp [flatL]
        refine ih (done + p.length + 3) (n + 1) _ (k1 + 1) h4 tk3 (by omega) hlt kk4 hl4 (by rw [hr]; exact hgr) ?_ ?_ ?_
        · rw [hfv, hr, ← hflat, hdec]; simp
        · rw [hfv]; simp only [List.length_append, List.length_singleton]; omega
        · simp; omega
      by_cases hlt2 : done < mm.start
      · rw [if_pos hlt2]
        refine wpAny_bind (slice0 hsz ?_)
        refine wpAny_bind (push_piece hD kk hl (by omega) fun h' kk' hl' => ?_)
        refine tail _ _ h' _ kk' hl' ?_ (by rw [hst] at hlt2; simp; omega)
        simp only [flatL, List.flatMap_append]
        have : (y.cps.extract done mm.start).toList = p := by
          rw [hst]; simp [hsp]
        simp only [List.flatMap_cons, List.flatMap_nil, List.append_nil]
        rw [this]
      · rw [if_neg hlt2]
        have hp0' : p = [] := List.eq_nil_of_length_eq_zero (by rw [hst] at hlt2; omega)
        exact tail _ _ _ _ kk hl (by rw [hp0']; simp) (by omega)
theorem special_fn {MM : Model} {A : Around} {E : Value → Shared → Prop} {s : Shared} {f : Addr} {Q : Option Value → Shared → Prop} (hT : s.TypeIs (.ref f) "function") (h : ∀ v, Q (some v) s) : wpAny MM A (specialOf (.ref f) "__call__") Q E s :=
  wpAny_specialOf hT (r := some (.builtin "function.__call__")) (by rw [typeLookup_type, builtinLookup_eq_fast]; kernel_rfl) (h _)
theorem call_sub (B : Below A₀ base outer h₀) (F : Fr h₀ L s0.heap m) (X : (hd.heap_39 w.params).In h₀) (T : Top VW LO mean mg mb h₀) (hk : cs.kind = .function) (hsz : y.cps.size ≤ 1000) (hg : goodL y.cps.toList = true) (hdp : dp + 10 < recursionLimit) (hun : un + 101 < cLine)
    {Q E : Value → Shared → Prop} (hR : ∀ (t' : Tok) (h' : Heap) (tk' : Nat), Keeps s0.heap h' → Q (.str (mkS (decL y.cps.toList)) t') { s0 with heap := h', toks := tk' }) :
    wpAny (model PR w) (ktrTop dp un gd cn cs L a ccd cl outer) (call (.builtin "re.Pattern.sub") [.ref 43, .ref 109, .str y t]) Q E s0 := by
  obtain ⟨h43, h42⟩ := pat_of (h := s0.heap) (X.keeps F.keep)
  have hfn : s0.TypeIs (.ref 109) "function" := ⟨_, (X.keeps F.keep) 109 _ rfl, rfl⟩
  refine wpAny_call (codeAny_call_builtin slot_pat_sub.plain entry_pat_sub (slot_pat_sub.check _ _ _ _ _ _ _ _ ⟨_, h43, rfl⟩ (args_pat_sub _ _ _) ?_))
  unfold «re.Pattern.sub» reSubstitute
  refine wpAny_bind (wpAny_of_eq (a := [some (.ref 109), some (.str y t), none]) (by first | rfl | kernel_rfl) ?_)
  dsimp only
  refine wpAny_bind (wpAny_pure ?_)
  refine wpAny_bind (special_fn hfn fun v => ?_)
  refine KFB.if_so rfl ?_
  refine wpAny_bind (wpAny_pure ?_)
  refine KFB.if_so rfl ?_
  refine wpAny_bind (wpAny_pure ?_)
  refine wpAny_bind (wpAny_holding (whole h43 h42 ?_))
  refine KFB.if_so rfl ?_
  refine wpAny_bind (wpAny_of_eq (a := ()) (by first | rfl | kernel_rfl) ?_)
  refine wpAny_bind (wpAny_newList ?_)
  refine wpAny_pure ⟨plainId_quiet plain_subloop _, ?_⟩
  refine sub_loop (s0 := s0) (hp0 := s0.heap) (D := s0.heap.objs.size) B F X T hk hsz (by simp [Heap.get?]) hdp hun (fun t' h' tk' kk => hR t' h' tk' kk) (y.cps.size + 1) 0 0 [] 0 _ s0.toks (by omega) (Nat.zero_le _) (keeps_push (fun _ _ e => e) _) (Heap.get?_push_size _ rfl) (by simpa using hg) (by simp [flatL]) (by simp [flatL]) (by simp)
end
end
section
local macro_rules | `(tactic| walk_at "mine none") => `(tactic| skip)
def hdY (x : Str) : Str := Txt.replace x (Str.ofString "_") (Str.ofString " ")
def hdecOK (x : Str) : Bool := decide (x.length ≤ 1000) && decide ((hdY x).cps.size ≤ 1000) && goodL (hdY x).cps.toList
def hdecF (x : Str) : Str := mkS (decL (hdY x).cps.toList)
theorem pat_now {w : World} {g h' : Heap} {L : Addr} {m : Str → Option Value} (F : Fr g L h' m) (X : (hd.heap_39 w.params).In g) : h'.get? 43 = some PATO := (pat_of (X.keeps F.keep)).1
local macro_rules | `(tactic| walk_at "getMethod ref") => `(tactic| (k_here; (refine gm_sub (pat_now (by assumption) (by assumption)) ?_)))
local macro_rules | `(tactic| walk_at "execs cons") => `(tactic| (k_here; with_reducible refine wpAny_execs_cons ?_))
local macro_rules | `(tactic| walk_at "call builtin:str.replace") => `(tactic| (k_here; (refine replaceS (neN (by first | omega | (simp; done) | (simp; omega))) (neN (by first | omega | (simp; done) | (simp; omega))) (neN (by first | omega | (simp; done) | (simp; omega))) (by decide +kernel) (by assumption) (by decide +kernel) ?_); intro _ _ hk9; (try dsimp only at hk9); (try simp only [List.length_cons, List.length_nil] at hk9)))
local macro_rules | `(tactic| walk_at "call builtin:re.Pattern.sub") => `(tactic| (k_here; k_dflt (refine' call_sub ?k1 ?k2 ?k3 ?k5 ?kK ?kp ?kq ?kd ?ku ?kR; (case k1 => k_asm); (case k2 => k_asm); (case k3 => k_asm); (case k5 => k_asm); (case kK => first | exact rfl | assumption); (case kp => assumption); (case kq => assumption); (case kd => ktr_room); (case ku => ktr_units)); (rename Fr _ _ _ _ => F'); (rename News _ _ _ _ => N'); intro t9 h9 tk9 k9; (have F9 := keeps_fr F' k9); (have N9 := keeps_news N' k9); clear F' N'; (try dsimp only); (try k_fold)))
set_option maxRecDepth 100000 in
set_option maxHeartbeats 8000000 in
set_option rowWalk.seconds 0 in
theorem hdec_c (w : World) (mean : ExcName → Option Value) (mg mb : Str → Option Value) (x : Str) (t : Tok) :
    KCS w mean mg mb 20 300 116 (hdecOK x = true) [.str x t] (hdecF x) := by
  dsimp only [KCS, PR, VW, LO]
  k_fill
  intros
  rename_i hpre _ _ hret
  replace hret := kc_go hret
  simp only [hdecOK, Bool.and_eq_true, decide_eq_true_eq] at hpre
  obtain ⟨⟨hlen, hsz⟩, hgood⟩ := hpre
  unfold hdY at hsz hgood
  refine wpAny_call ?_
  walk_at "mine enter"
  k_with_none
  k_steps
  all_goals first
    | exact hret (by assumption) (by assumption) rfl
end
section
open PySem PySem.W PyProof.Rows PySem.Calls PySem.Spec
set_option maxRecDepth 100000
section
variable {prog : Program} {w : World} {A : Around} {E : Value → Shared → Prop} {s : Shared} {h₀ : Heap} {L : Addr} {m : Str → Option Value} {env : Env} {y : Str} {t : Tok}
theorem pyIterS {Q : Value → Shared → Prop}
    (hQ : ∀ (o : Obj) (ty : String), (∀ A' : Around, A'.handled = none → Walks prog w A' s.heap.objs.size [s.heap.objs.size] [s.heap.objs.size] y.cps.size (SignAt y) (fun i h => h.IsStrIter s.heap.objs.size ty y t i)) → (s.heap.push o).IsStrIter s.heap.objs.size ty y t 0 →
      Q (.ref s.heap.objs.size) { s with heap := s.heap.push o }) : wpAny (model prog w) A (pyIter (.str y t)) Q E s := by
  cases ha : y.cps.all (· < 128)
  · exact wpAny_pyIter_wide ha (hQ _ _ (fun A' hA => Walks.strWide hA _ y t) ⟨_, Heap.get?_push_size _ rfl, rfl, rfl⟩)
  · exact wpAny_pyIter_ascii ha (hQ _ _ (fun A' hA => Walks.strAscii hA _ y t) ⟨_, Heap.get?_push_size _ rfl, rfl, rfl⟩)
def SrcS (prog : Program) (w : World) (A : Around) (h₀ : Heap) (L : Addr) (m : Str → Option Value) (env : Env) (elt : Expr) (x : Str) (scope : Scope) (cl : List (Str × Addr)) (Fin : Shared → List Value → List (Addr × Obj) → Prop) (xv : Value) (s₁ : Shared) : Prop :=
  ∃ y t news, xv = .str y t ∧ A.handled = none ∧ Fr h₀ L s₁.heap m ∧ News h₀ L s₁.heap news ∧ y.cps.size ≤ sizeLine ∧
    ∀ s₂ : Shared, (∃ h, s₂ = { s₁ with heap := h }) → LCg.CompRest prog w A h₀ L m env elt x scope cl s₂ (fun _ => True) (SignAt y) (Fin s₂) y.cps.size 0 [] news
theorem ListComp_S {elt iter : Expr} {x : Str} {px : Pos} {scope : Scope} {cl : List (Str × Addr)} {pos : Pos} {Q : Value → Shared → Prop} (F₀ : Fr h₀ L s.heap m)
    (hclos : closureFor scope env = pure cl) (hcell : ∀ y ∈ scope.names, y.2 ≠ .cell) (hkind : scope.kind = .function)
    (hnames : ∀ y ∈ scope.names, y.2 = .local → scope.names.lookup y.1 = some .local) (hx : scope.names.lookup x = some .local)
    (h : wpAny (model prog w) A (eval iter env) (SrcS prog w A h₀ L m env elt x scope cl (fun s₂ => LCg.FinE h₀ L m s₂ Q)) E s)
    (hs : ∀ x, foldedSetIterable iter env x = pure x := by intro _; rfl) :
    wpAny (model prog w) A (eval (.ListComp elt [⟨.Name x px, iter, [], 0⟩] scope pos) env) Q E s := by
  rw [eval_ListComp]
  refine wpAny_comprehension_free (use := none) rfl hs hclos hkind hnames (wpAny_mono h (fun xv s₁ h₁ => ?_) fun _ _ e => e)
  obtain ⟨y, t, news, rfl, hh, F, N, hsz, R⟩ := h₁
  refine pyIterS fun o ty W hst => ?_
  have up : ∀ b o', s₁.heap.get? b = some o' → (s₁.heap.push o).get? b = some o' := fun b o' e => Heap.get?_push_of_some _ e
  refine LCg.block_U (W A hh) hsz (fun i h st => by obtain ⟨o, e, _⟩ := st; exact ⟨o, e⟩)
    (fun i h h' o' nw st e e' _ _ _ => by obtain ⟨o1, q, r⟩ := st; rw [e] at q; cases q; exact ⟨_, e', r⟩) hcell hkind hx hst (fun b hb => ?_)
    (F.keeps up) (N.grown up) (Nat.ne_of_lt F.ns.lt) (next_is_new F) (fun p hp => Nat.ne_of_lt (Heap.lt_size (N p hp).1)) trivial (R _ ⟨_, rfl⟩) ?_
  · rw [List.mem_singleton.mp hb]
    show s₁.heap.objs.size < (s₁.heap.push _).objs.size
    rw [Heap.size_push]; exact Nat.lt_succ_self _
  · intro D C h tk m' ys news' F' N' o1 hn hC₀ hD₀ hCL hDL hCD offC fin
    refine ⟨m', hn, fun h'' hs'' => fin D h'' tk (F'.change hs'' hCL hC₀) (fun p hp => ?_) o1⟩
    refine ⟨hs''.extBut _ _ ?_ (N' p hp).1, (N' p hp).2⟩
    rcases List.mem_cons.mp hp with rfl | hp
    · exact Ne.symm hCD
    · exact offC p hp
theorem rest_S {elt : Expr} {x : Str} {scope : Scope} {cl : List (Str × Addr)} {Fin : Shared → List Value → List (Addr × Obj) → Prop} {news : List (Addr × Obj)} (g : Nat → Str)
    (hh : A.handled = none) (F : Fr h₀ L s.heap m) (N : News h₀ L s.heap news) (hsz : y.cps.size ≤ sizeLine)
    (turn : ∀ c t I oI C oC D m₂ ys h tk (E' : Value → Shared → Prop), c ∈ y.cps.toList → LCg.NsObj oC m₂ → m₂ x = some (.str ⟨#[c]⟩ t) → Fr h₀ L h m → News h₀ L h ((I, oI) :: (C, oC) :: (D, LCg.lst ys) :: news) → LCg.Off3 I C D news → ((@Ne Nat I C) ∧ (@Ne Nat I D) ∧ (@Ne Nat C D)) →
      wpAny (model prog w) A (eval elt (compEnvC scope cl C env)) (LCg.CompEnd h₀ L m { s with heap := h, toks := tk } I oI C oC D (LCg.lst ys) (fun _ => True) (fun y news' => KCtEl news (g c) y news')) E' { s with heap := h, toks := tk })
    (fin : ∀ g' ys, StrsAre ys (y.cps.toList.map g) → Fin { s with heap := g' } ys news) : SrcS prog w A h₀ L m env elt x scope cl Fin (.str y t) s := by
  refine ⟨y, t, news, rfl, hh, F, N, hsz, ?_⟩
  rintro _ ⟨g', rfl⟩
  have key : ∀ (j i : Nat) (ys : List Value), i + j = y.cps.size → StrsAre ys ((y.cps.toList.take i).map g) → LCg.CompRest prog w A h₀ L m env elt x scope cl { s with heap := g' } (fun _ => True) (SignAt y) (Fin { s with heap := g' }) j i ys news := by
    intro j
    induction j with
    | zero =>
      intro i ys hi hy
      rw [List.take_of_length_le (by simp; omega)] at hy
      exact LCg.CompRest.zero (fin g' ys hy)
    | succ j ih =>
      intro i ys hi hy
      refine LCg.CompRest.succ ?_
      intro v I oI C oC D m₂ h tk E' hv hC hx F N off ne
      obtain ⟨c, u, hc, rfl⟩ := hv
      have hc' : y.cps.toList[i]? = some c := by simpa using hc
      refine wpAny_mono (turn c u I oI C oC D m₂ ys h tk E' (List.mem_of_getElem? hc') hC hx F N off ne) (fun y' s₂ hq => ?_) fun _ _ e => e
      obtain ⟨h', tk', nw, e, F', N', off', hS, hn, t', hy'⟩ := hq
      rw [hn] at N' off'
      refine ⟨h', tk', news, e, F', N', off', hS, ?_⟩
      rw [hy']
      refine ih (i + 1) _ (by omega) ?_
      rw [List.take_add_one, hc']
      simpa using kct_snoc hy
  exact key y.cps.size 0 [] (by omega) (by simp only [List.take_zero, List.map_nil]; exact .nil)
theorem strsAre_values : ∀ {ys : List Value} {l : List Str}, StrsAre ys l → ∃ p : List (Str × Tok), ys = strValues p ∧ p.map (·.1) = l
  | _, _, .nil => ⟨[], rfl, rfl⟩
  | _, _, .cons z u r => by
    obtain ⟨p, e, e'⟩ := strsAre_values r
    exact ⟨(z, u) :: p, by rw [e]; rfl, by rw [← e']; rfl⟩
theorem joinS {news : List (Addr × Obj)} {D : Addr} {ys : List Value} {l : List Str} {Q : Value → Shared → Prop} {u : Tok} (N : News h₀ L s.heap news) (hm : (D, LCg.lst ys) ∈ news) (hy : StrsAre ys l) (hl : (l.flatMap fun x => x.cps.toList).length ≤ 1000)
    (h : ∀ t' k, Q (.str (mkS (l.flatMap fun x => x.cps.toList)) t') { s with toks := k }) : wpAny (model prog w) A (call (.builtin "str.join") [.str (Str.ofString "") u, .ref D]) Q E s := by
  obtain ⟨p, rfl, rfl⟩ := strsAre_values hy
  refine SC.join (l := p) (texts := p.map (·.1)) ⟨_, N.get hm, rfl, _, rfl⟩ rfl (joinOk_flat _ hl) fun t' k => ?_
  rw [show (Str.ofString "" : Str) = ⟨#[]⟩ from rfl, glued_flat]
  exact h t' k
end
end
section
theorem alph6 {x : Str} (h : x.cps.toList.all (fun c => ALPH.contains c) = true) {c : Nat} (hc : c ∈ x.cps.toList) : c = 32 ∨ c = 97 ∨ c = 61 ∨ c = 95 ∨ c = 46 ∨ c = 233 := by
  have := List.all_eq_true.mp h c hc
  simp only [ALPH, List.contains_cons, List.contains_nil, Bool.or_eq_true, beq_iff_eq, Bool.or_false] at this
  omega
theorem lh_len {x : Str} (h : (H x).length ≤ 100) : ((x.cps.toList.map headC).flatMap fun z => z.cps.toList).length ≤ 1000 := by
  rw [List.flatMap_map]
  simp only [H, mkS, Str.length, List.size_toArray] at h
  exact Nat.le_trans h (by omega)
theorem lh_end {x : Str} : mkS ((x.cps.toList.map headC).flatMap fun z => z.cps.toList) = H x := by rw [List.flatMap_map]; rfl
local macro_rules | `(tactic| walk_at "eval ListComp") => `(tactic| (k_here; k_dflt (refine ListComp_S (F₀ := by k_asm) (by with_unfolding_all rfl) (by decide) (by rfl) (by decide) (by rfl) ?_)))
local macro_rules | `(tactic| walk_at "SrcS") => `(tactic| (k_here; (refine' rest_S headC (by rfl) (by k_asm) (by k_asm) (by rw [sizeLine_eq]; simp only [Str.length] at *; omega) (fun c' t' I' oI' C' oC' D' m' ys' h' tk' E' hc' hC' hx' F' N' off' ne' => ?_) ?_); (all_goals (try (simp only [LCg.Off3, and_true] at off'))); (all_goals (try ((have hc9 := alph6 (by assumption) hc'); clear hc'; rcases hc9 with e1 | e1 | e1 | e1 | e1 | e1 <;> subst e1)))))
local macro_rules | `(tactic| walk_at "call builtin:str.join") => `(tactic| (k_here; (refine joinS (by k_asm) (by k_mem) (by assumption) (lh_len (by assumption)) ?_); intro _ _))
set_option maxRecDepth 100000 in
set_option maxHeartbeats 8000000 in
set_option rowWalk.seconds 0 in
theorem lawHead_c (w : World) (mean : ExcName → Option Value) (mg mb : Str → Option Value) (x : Str) (t : Tok) :
    KCS w mean mg mb 20 300 133 (hencOK x = true) [.str x t] (H x) := by
  dsimp only [KCS, PR, VW, LO]
  k_fill
  intros
  rename_i hpre _ _ hret
  replace hret := kc_go hret
  simp only [hencOK, Bool.and_eq_true, decide_eq_true_eq, beq_iff_eq, Bool.not_eq_true'] at hpre
  obtain ⟨⟨⟨hlen, hne⟩, hal⟩, hlH⟩ := hpre
  refine wpAny_call ?_
  walk_at "mine enterC"
  k_with_none
  k_steps
  all_goals first
    | exact hret (by assumption) (by assumption) lh_end
    | exact kct_el (by decide +kernel) rfl rfl
end
section
open PySem PySem.W PyProof.Rows PySem.Calls PySem.Spec
set_option maxRecDepth 100000
def SignEl (news : List (Addr × Obj)) (y : Value) (news' : List (Addr × Obj)) : Prop := news' = news ∧ ∃ c t, c ∈ SIGNS ∧ y = .str ⟨#[c]⟩ t
section
variable {prog : Program} {w : World} {A : Around} {E : Value → Shared → Prop} {s : Shared} {h₀ : Heap} {L : Addr} {m : Str → Option Value} {env : Env} {r : Addr} {t u v : Tok}
theorem src_R {elt : Expr} {x : Str} {scope : Scope} {cl : List (Str × Addr)} {Fin : Shared → List Value → List (Addr × Obj) → Prop} {news : List (Addr × Obj)} {b : Int}
    (hh : A.handled = none) (F : Fr h₀ L s.heap m) (N : News h₀ L s.heap news) (hr : IsRange s.heap r 0 b 1 t u v) (hb1 : 1 ≤ b) (hb2 : b ≤ 2)
    (turn : ∀ k t I oI C oC D m₂ ys h tk (E' : Value → Shared → Prop), (k = 0 ∨ k = 1) → LCg.NsObj oC m₂ → m₂ x = some (.int k t) → Fr h₀ L h m → News h₀ L h ((I, oI) :: (C, oC) :: (D, LCg.lst ys) :: news) → LCg.Off3 I C D news → ((@Ne Nat I C) ∧ (@Ne Nat I D) ∧ (@Ne Nat C D)) →
      wpAny (model prog w) A (eval elt (compEnvC scope cl C env)) (LCg.CompEnd h₀ L m { s with heap := h, toks := tk } I oI C oC D (LCg.lst ys) (fun _ => True) (fun y news' => SignEl news y news')) E' { s with heap := h, toks := tk })
    (fin : ∀ g' ys l, StrsAre ys l → ((l.flatMap fun z => z.cps.toList) ∈ WORDS) → Fin { s with heap := g' } ys news) : LCg.CompSrc prog w A h₀ L m env elt x scope cl Fin (.ref r) s := by
  have hb : b = 1 ∨ b = 2 := by omega
  have one : ∀ (g' : Heap) (i : Nat) (ys : List Value) (k : Nat) (hi : ((0 : Int) + (i : Int)) = 0 ∨ ((0 : Int) + (i : Int)) = 1) (R : ∀ c t, c ∈ SIGNS → LCg.CompRest prog w A h₀ L m env elt x scope cl { s with heap := g' } (fun _ => True) (fun i v => ∃ t, v = .int (0 + (i : Int)) t) (Fin { s with heap := g' }) k (i + 1) (ys ++ [.str ⟨#[c]⟩ t]) news),
      LCg.CompRest prog w A h₀ L m env elt x scope cl { s with heap := g' } (fun _ => True) (fun i v => ∃ t, v = .int (0 + (i : Int)) t) (Fin { s with heap := g' }) (k + 1) i ys news := by
    intro g' i ys k hi R
    refine LCg.CompRest.succ ?_
    intro v I oI C oC D m₂ h tk E' hv hC hx F N off ne
    obtain ⟨t', rfl⟩ := hv
    refine wpAny_mono (turn _ t' I oI C oC D m₂ ys h tk E' hi hC hx F N off ne) (fun y' s₂ hq => ?_) fun _ _ e => e
    obtain ⟨h', tk', nw, e, F', N', off', hS, hn, c, t2, hc, hy'⟩ := hq
    rw [hn] at N' off'
    refine ⟨h', tk', news, e, F', N', off', hS, ?_⟩
    rw [hy']
    exact R c t2 hc
  have w1 : ∀ c ∈ SIGNS, [c] ∈ WORDS := by decide +kernel
  have w2 : ∀ c ∈ SIGNS, ∀ d ∈ SIGNS, [c, d] ∈ WORDS := by decide +kernel
  rcases hb with rfl | rfl
  · refine LCg.CompSrc.range (n := 1) hh F N hr (by decide) (by decide) (by decide) fun g' => ?_
    refine one g' 0 [] 0 (.inl rfl) fun c t hc => LCg.CompRest.zero (fin g' _ [⟨#[c]⟩] (.cons _ _ .nil) (w1 c hc))
  · refine LCg.CompSrc.range (n := 2) hh F N hr (by decide) (by decide) (by decide) fun g' => ?_
    refine one g' 0 [] 1 (.inl rfl) fun c t hc => ?_
    refine one g' 1 _ 0 (.inr rfl) fun d t' hd => LCg.CompRest.zero (fin g' _ [⟨#[c]⟩, ⟨#[d]⟩] (.cons _ _ (.cons _ _ .nil)) (w2 c hc d hd))
theorem joinW {news : List (Addr × Obj)} {D : Addr} {ys : List Value} {l : List Str} {Q : Value → Shared → Prop} {u : Tok} (N : News h₀ L s.heap news) (hm : (D, LCg.lst ys) ∈ news) (hy : StrsAre ys l) (hl : (l.flatMap fun z => z.cps.toList) ∈ WORDS)
    (h : ∀ y t' k, isWord y → Q (.str y t') { s with toks := k }) : wpAny (model prog w) A (call (.builtin "str.join") [.str (Str.ofString "") u, .ref D]) Q E s :=
  joinS N hm hy ((by decide +kernel : ∀ z ∈ WORDS, z.length ≤ 1000) _ hl) fun t' k => h _ t' k ⟨_, hl, rfl⟩
end
end
section
local macro_rules | `(tactic| walk_at "mine none") => `(tactic| skip)
theorem b12 (a : Int) : 1 ≤ 1 + Int.fmod a 2 ∧ 1 + Int.fmod a 2 ≤ 2 := by
  rw [Int.fmod_eq_emod_of_nonneg _ (by omega)]; omega
/-- the contract of the def that gives back a new tuple of an int, a word and an int -/
def tup3 (a : Int) (ta : Tok) (w : Str) (tw : Tok) (b : Int) (tb : Tok) : Obj := { cls := .type "tuple", data := .seq #[.int a ta, .str w tw, .int b tb] }
noncomputable abbrev KCT (w : World) (mean : ExcName → Option Value) (mg mb : Str → Option Value) (rm ru : Nat) (f : Addr) (vs : List Value) (a b : Int) : Prop :=
  ∀ (dp un : Nat) (gd : Option (List Code)) (cn : Str) (cs : Scope) (ad : Addr) (ccd : Value) (cl : List (Str × Addr)) (outer : List Env) (A₀ : Around) (base h₀ : Heap) (L : Addr) (m : Str → Option Value) (s : Shared) (Q E : Value → Shared → Prop),
    Below A₀ base outer h₀ → Fr h₀ L s.heap m → (hd.heap_39 w.params).In h₀ → Top VW LO mean mg mb h₀ → cs.kind = .function → dp + rm < recursionLimit → un + ru < cLine →
    (∀ (D : Addr) (ta tb tw : Tok) (y : Str) (h' : Heap) (tk' : Nat), Keeps s.heap h' → s.heap.get? D = none → h'.get? D = some (tup3 a ta y tw b tb) → isWord y → Q (.ref D) { s with heap := h', toks := tk' }) →
    wpAny (model PR w) (ktrTop dp un gd cn cs L ad ccd cl outer) (call (.ref f) vs) Q E s
local macro_rules | `(tactic| walk_at "eval ListComp") => `(tactic| (k_here; k_dflt (refine LCg.ListComp_U (F₀ := by k_asm) (by with_unfolding_all rfl) (by decide) (by rfl) (by decide) (by rfl) ?_)))
local macro_rules | `(tactic| walk_at "CompSrc") => `(tactic| (k_here; ((k_dflt (refine' src_R ?a1 ?a2 ?a3 ?a4 ?a5 ?a6 (fun k' t' I' oI' C' oC' D' m' ys' h' tk' E' hk' hC' hx' F' N' off' ne' => ?_) ?_; (case a1 => exact rfl); (case a2 => k_asm); (case a3 => k_asm); (case a4 => assumption); (case a5 => exact (b12 _).1); (case a6 => exact (b12 _).2)); (all_goals (try (simp only [LCg.Off3, and_true] at off'))); (all_goals (try (rcases hk' with e1 | e1 <;> subst e1)))))))
local macro_rules | `(tactic| walk_at "call builtin:str.join") => `(tactic| (k_here; (refine joinW (by k_asm) (by k_mem) (by assumption) (by assumption) ?_); intro _ _ _ _))
theorem kt_go {s : Shared} {Q : Value → Shared → Prop} {a b : Int} (hret : ∀ (D : Addr) (ta tb tw : Tok) (y : Str) (h' : Heap) (tk' : Nat), Keeps s.heap h' → s.heap.get? D = none → h'.get? D = some (tup3 a ta y tw b tb) → isWord y → Q (.ref D) { s with heap := h', toks := tk' }) :
    ∀ ⦃g h' : Heap⦄ ⦃L' D : Addr⦄ ⦃m' : Str → Option Value⦄ ⦃news : List (Addr × Obj)⦄ ⦃y : Str⦄ ⦃ta tb tw : Tok⦄ ⦃tk' : Nat⦄, Keeps s.heap g → Fr g L' h' m' → News g L' h' news → (D, tup3 a ta y tw b tb) ∈ news → isWord y → Q (.ref D) { s with heap := h', toks := tk' } := by
  intro g h' L' D m' news y ta tb tw tk' kg F N hm hy
  have z := N _ hm
  refine hret D ta tb tw y h' tk' (kg.trans F.keep) ?_ z.1 hy
  cases e : s.heap.get? D with
  | none => rfl
  | some o => have := kg _ _ e; rw [z.2.2] at this; cases this
set_option maxRecDepth 100000 in
set_option maxHeartbeats 8000000 in
set_option rowWalk.seconds 0 in
theorem lawField_c (w : World) (mean : ExcName → Option Value) (mg mb : Str → Option Value) (x : Int) (t : Tok) :
    KCT w mean mg mb 20 300 121 [.int x t] (x.fmod 4) ((x.fdiv 4).fmod 4) := by
  dsimp only [KCT, PR, VW, LO]
  k_fill
  intros
  rename_i hret
  replace hret := kt_go hret
  refine wpAny_call ?_
  walk_at "mine enterC"
  k_with_none
  k_steps
  all_goals first
    | exact ⟨rfl, 97, _, by decide, rfl⟩
    | exact ⟨rfl, 61, _, by decide, rfl⟩
    | exact ⟨rfl, 95, _, by decide, rfl⟩
    | exact ⟨rfl, 46, _, by decide, rfl⟩
    | exact ⟨rfl, 233, _, by decide, rfl⟩
    | exact hret (by assumption) (by assumption) (by assumption) (by exact List.mem_cons_self) (by assumption)
end
end Mine
end
section
open PySem PySem.W PyProof.Rows
namespace Mine
theorem keeps_add {h₀ h h' : Heap} {L D : Addr} {m : Str → Option Value} {news : List (Addr × Obj)} {o : Obj} (F : Fr h₀ L h m) (N : News h₀ L h news) (k : Keeps h h') (hD : h.get? D = none) (hg : h'.get? D = some o) : News h₀ L h' ((D, o) :: news) := by
  intro p hp
  rcases List.mem_cons.mp hp with rfl | hp
  · refine ⟨hg, ?_, ?_⟩
    · obtain ⟨oL, a1, a2, hL, a3⟩ := F.ns
      rintro rfl
      rw [hD] at hL; cases hL
    · cases e : h₀.get? D with
      | none => rfl
      | some o' => have := F.keep _ _ e; rw [hD] at this; cases this
  · exact keeps_news N k p hp
theorem gm_encode {M : Model} {A : Around} {E : Value → Shared → Prop} {s : Shared} {pl : Sem Bool} {x : Str} {t : Tok} {Q : Value × List Value → Shared → Prop} (h : Q (.builtin "str.encode", [.str x t]) s) : wpAny M A (getMethod (.str x t) "encode" pl) Q E s := by
  with_reducible exact GM.of (.str x t) (typeIs_str _ _ _) PySem.F.slot_str_encode PySem.F.type_str_encode GM.noRef h
end Mine
end
section
open PySem PySem.W PyProof.Rows
set_option maxRecDepth 10000
namespace Mine
theorem lpA_run (cs : List Nat) : ∀ n l d, (∀ i, i < d → cs[l + i]? = some 32) → cs[l + d]? ≠ some 32 → lpA cs n l = (l + min n d, n - min n d)
  | 0, l, d, _, _ => by simp [lpA]
  | n + 1, l, 0, _, h => by
    rw [lpA, if_neg (by simpa using h)]; simp
  | n + 1, l, d + 1, h, h' => by
    rw [lpA, if_pos (by simpa using h 0 (by omega)), lpA_run cs n (l + 1) d (fun i hi => by rw [show l + 1 + i = l + (i + 1) by omega]; exact h (i + 1) (by omega)) (by rw [show l + 1 + d = l + (d + 1) by omega]; exact h')]
    refine Prod.ext ?_ ?_ <;> simp only <;> omega
theorem rpA_run (cs : List Nat) : ∀ n r d, d < r → (∀ i, i < d → cs[r - 1 - i]? = some 32) → cs[r - 1 - d]? ≠ some 32 → rpA cs n r = r - min n d
  | 0, r, d, _, _, _ => by simp [rpA]
  | n + 1, r, 0, _, _, h => by
    rw [rpA, if_neg (by simpa using h)]; simp
  | n + 1, r, d + 1, hd, h, h' => by
    rw [rpA, if_pos (by simpa using h 0 (by omega)), rpA_run cs n (r - 1) d (by omega) (fun i hi => by rw [show r - 1 - 1 - i = r - 1 - (i + 1) by omega]; exact h (i + 1) (by omega)) (by rw [show r - 1 - 1 - d = r - 1 - (d + 1) by omega]; exact h')]
    omega
theorem slice_nat {x : Str} {i j : Nat} (h : i ≤ j) (hj : j ≤ x.length) : Txt.slice x (some (i : Int)) (some (j : Int)) = mkS ((x.cps.toList.drop i).take (j - i)) := by
  have := eq_of_beq (slice_closes (x := x) (i := (i : Int)) (j := (j : Int)) ⟨by omega, by omega, by rw [len_toList]; omega⟩)
  rw [this, Int.toNat_natCast, show ((j : Int) - (i : Int)).toNat = j - i by omega]
  rfl
theorem strip_core {a b n : Nat} {c : List Nat} (h0 : 0 < c.length) (hf : c[0]? ≠ some 32) (hl : c[c.length - 1]? ≠ some 32) : stripF (mkS (bl a ++ c ++ bl b)) (n : Int) = mkS (bl (a - n) ++ c ++ bl (b - (n - a))) := by
  have hlen : (mkS (bl a ++ c ++ bl b)).length = a + c.length + b := by simp [mkS, Str.length, bl]; omega
  have hc : (mkS (bl a ++ c ++ bl b)).cps.toList = bl a ++ c ++ bl b := rfl
  have e1 : lpA (bl a ++ c ++ bl b) n 0 = (0 + min n a, n - min n a) := lpA_run _ n 0 a (fun i hi => by
      rw [List.append_assoc, List.getElem?_append_left (by simp [bl]; omega)]; simp [bl, List.getElem?_replicate]; omega) (by
      rw [List.append_assoc, List.getElem?_append_right (by simp [bl]), List.getElem?_append_left (by simp [bl]; omega)]; simpa [bl] using hf)
  have e2 : ∀ k, rpA (bl a ++ c ++ bl b) k (a + c.length + b) = a + c.length + b - min k b := fun k => rpA_run _ k _ b (by omega) (fun i hi => by
      rw [List.getElem?_append_right (by simp [bl]; omega)]; simp [bl, List.getElem?_replicate]; omega) (by
      rw [List.getElem?_append_left (by simp [bl]; omega), List.getElem?_append_right (by simp [bl]; omega)]
      rw [show a + c.length + b - 1 - b - (bl a).length = c.length - 1 by simp [bl]; omega]
      exact hl)
  unfold stripF
  rw [hlen, hc, Int.toNat_natCast, e1]
  dsimp only
  rw [e2, slice_nat (by omega) (by rw [hlen]; omega), hc]
  congr 1
  have e3 : (bl a ++ c ++ bl b).drop (0 + min n a) = bl (a - n) ++ c ++ bl b := by
    rw [List.append_assoc, List.drop_append_of_le_length (by simp [bl]; omega), ← List.append_assoc]
    congr 2
    simp only [bl, List.drop_replicate]
    congr 1
    omega
  rw [e3, show a + c.length + b - min (n - min n a) b - (0 + min n a) = (a - n + c.length) + (b - (n - a)) by omega]
  rw [List.take_append, List.take_of_length_le (by simp [bl])]
  congr 1
  simp [bl]
end Mine
end
section
open PySem PySem.W PyProof.Rows
set_option maxRecDepth 100000
namespace Mine
abbrev sp (a : Int) : Str := Txt.mul (Str.ofString " ") a
abbrev TX (a : Int) (y : Str) (b : Int) : Str := sp a ++ y ++ sp b
def ENDF (b : Int) : Str := if 0 < b then sp (b - 1) ++ Str.ofString "=20" else Str.ofString ""
def COD (a : Int) (y : Str) (b : Int) : Str := sp a ++ lawBodyF y ++ ENDF b
def A4 : List Int := [0, 1, 2, 3]
def edge (c : List Nat) : Bool := decide (0 < c.length) && (c[0]? != some 32) && (c[c.length - 1]? != some 32)
def okT (a b : Int) (y : Str) : Bool :=
  hencOK (TX a y b) && (TX a y b).cps.toList.all (fun c => decide (c < 256)) && hdecOK (H (TX a y b)) && (hdecF (H (TX a y b)) == TX a y b) && bodyOK (TX a y b) && (bodyF (TX a y b) == COD a y b) && decOK (COD a y b) && (decF (COD a y b) == TX a y b) && edge (H (TX a y b)).cps.toList
def okW (b : Int) (y : Str) : Bool := decide (y.length ≤ 2) && decide ((lawBodyF y).length ≤ 20) && decide ((ENDF b).length ≤ 20) && edge y.cps.toList && edge (lawBodyF y ++ ENDF b).cps.toList
set_option maxHeartbeats 8000000 in
set_option rowWalk.seconds 0 in
theorem t00 : ∀ w ∈ WORDS, okT 0 0 (mkS w) = true := by decide +kernel
set_option maxHeartbeats 8000000 in
set_option rowWalk.seconds 0 in
theorem t01 : ∀ w ∈ WORDS, okT 0 1 (mkS w) = true := by decide +kernel
set_option maxHeartbeats 8000000 in
set_option rowWalk.seconds 0 in
theorem t02 : ∀ w ∈ WORDS, okT 0 2 (mkS w) = true := by decide +kernel
set_option maxHeartbeats 8000000 in
set_option rowWalk.seconds 0 in
theorem t03 : ∀ w ∈ WORDS, okT 0 3 (mkS w) = true := by decide +kernel
set_option maxHeartbeats 8000000 in
set_option rowWalk.seconds 0 in
theorem t10 : ∀ w ∈ WORDS, okT 1 0 (mkS w) = true := by decide +kernel
set_option maxHeartbeats 8000000 in
set_option rowWalk.seconds 0 in
theorem t11 : ∀ w ∈ WORDS, okT 1 1 (mkS w) = true := by decide +kernel
set_option maxHeartbeats 8000000 in
set_option rowWalk.seconds 0 in
theorem t12 : ∀ w ∈ WORDS, okT 1 2 (mkS w) = true := by decide +kernel
set_option maxHeartbeats 8000000 in
set_option rowWalk.seconds 0 in
theorem t13 : ∀ w ∈ WORDS, okT 1 3 (mkS w) = true := by decide +kernel
set_option maxHeartbeats 8000000 in
set_option rowWalk.seconds 0 in
theorem t20 : ∀ w ∈ WORDS, okT 2 0 (mkS w) = true := by decide +kernel
set_option maxHeartbeats 8000000 in
set_option rowWalk.seconds 0 in
theorem t21 : ∀ w ∈ WORDS, okT 2 1 (mkS w) = true := by decide +kernel
set_option maxHeartbeats 8000000 in
set_option rowWalk.seconds 0 in
theorem t22 : ∀ w ∈ WORDS, okT 2 2 (mkS w) = true := by decide +kernel
set_option maxHeartbeats 8000000 in
set_option rowWalk.seconds 0 in
theorem t23 : ∀ w ∈ WORDS, okT 2 3 (mkS w) = true := by decide +kernel
set_option maxHeartbeats 8000000 in
set_option rowWalk.seconds 0 in
theorem t30 : ∀ w ∈ WORDS, okT 3 0 (mkS w) = true := by decide +kernel
set_option maxHeartbeats 8000000 in
set_option rowWalk.seconds 0 in
theorem t31 : ∀ w ∈ WORDS, okT 3 1 (mkS w) = true := by decide +kernel
set_option maxHeartbeats 8000000 in
set_option rowWalk.seconds 0 in
theorem t32 : ∀ w ∈ WORDS, okT 3 2 (mkS w) = true := by decide +kernel
set_option maxHeartbeats 8000000 in
set_option rowWalk.seconds 0 in
theorem t33 : ∀ w ∈ WORDS, okT 3 3 (mkS w) = true := by decide +kernel
theorem all_T : ∀ a ∈ A4, ∀ b ∈ A4, ∀ w ∈ WORDS, okT a b (mkS w) = true := by
  intro a ha b hb
  simp only [A4, List.mem_cons, List.not_mem_nil, or_false] at ha hb
  rcases ha with rfl | rfl | rfl | rfl <;> rcases hb with rfl | rfl | rfl | rfl
  · exact t00
  · exact t01
  · exact t02
  · exact t03
  · exact t10
  · exact t11
  · exact t12
  · exact t13
  · exact t20
  · exact t21
  · exact t22
  · exact t23
  · exact t30
  · exact t31
  · exact t32
  · exact t33
set_option maxHeartbeats 8000000 in
set_option rowWalk.seconds 0 in
theorem all_W : ∀ b ∈ A4, ∀ w ∈ WORDS, okW b (mkS w) = true := by decide +kernel
end Mine
end
section
open PySem PySem.W PyProof.Rows
set_option maxRecDepth 100000
namespace Mine
theorem sp_bl : ∀ a ∈ A4, sp a = mkS (bl a.toNat) := by decide +kernel
theorem mem4 {a : Int} (h0 : 0 ≤ a) (h3 : a ≤ 3) : a ∈ A4 := by
  have : a = 0 ∨ a = 1 ∨ a = 2 ∨ a = 3 := by omega
  simp only [A4, List.mem_cons, List.not_mem_nil, or_false]; exact this
theorem edge_of {c : List Nat} (h : edge c = true) : 0 < c.length ∧ c[0]? ≠ some 32 ∧ c[c.length - 1]? ≠ some 32 := by
  simp only [edge, Bool.and_eq_true, decide_eq_true_eq, bne_iff_ne, ne_eq] at h
  exact ⟨h.1.1, h.1.2, h.2⟩
theorem mkS_cat (x y : Str) : x ++ y = mkS (x.cps.toList ++ y.cps.toList) := by
  apply Str.ext'
  show x.cps ++ y.cps = _
  apply Array.toList_inj.mp
  simp [mkS]
theorem mkS_self (x : Str) : mkS x.cps.toList = x := rfl
theorem core_P {a b : Nat} {n : Int} {c : List Nat} (h : edge c = true) (hl : a + c.length + b ≤ 1000) (h0 : 0 ≤ n) (h1 : n < 1000) : stripP (mkS (bl a ++ c ++ bl b)) n := by
  obtain ⟨e0, e1, _⟩ := edge_of h
  have hlen : (mkS (bl a ++ c ++ bl b)).length = a + c.length + b := by simp [mkS, Str.length, bl]; omega
  refine ⟨h0, h1, by omega, a, by omega, ?_⟩
  show (bl a ++ c ++ bl b)[a]? ≠ some 32
  rw [List.append_assoc, List.getElem?_append_right (by simp [bl]), List.getElem?_append_left (by simp [bl]; omega)]
  simpa [bl] using e1
theorem tx_eq {a b : Int} {y : Str} (ha : a ∈ A4) (hb : b ∈ A4) : TX a y b = mkS (bl a.toNat ++ y.cps.toList ++ bl b.toNat) := by
  show sp a ++ y ++ sp b = _
  rw [sp_bl a ha, sp_bl b hb, mkS_cat, mkS_cat]; rfl
theorem left_eq {a b n : Int} {y : Str} : lawLeftF a y b n = TX (if 0 > a - n then 0 else a - n) y (if 0 > b - (n - (a - if 0 > a - n then 0 else a - n)) then 0 else b - (n - (a - if 0 > a - n then 0 else a - n))) := rfl
structure LawF (a b n : Int) (y : Str) : Prop where
  a0 : 0 ≤ a
  a3 : a ≤ 3
  b0 : 0 ≤ b
  b3 : b ≤ 3
  n0 : 0 ≤ n
  n7 : n ≤ 7
  w : isWord y
  yl : y.length ≤ 2
  bl20 : (lawBodyF y).length ≤ 20
  lP : leftP a y b n
  s1 : stripP (TX a y b) n
  s1e : stripF (TX a y b) n = lawLeftF a y b n
  s2 : stripP (lawLeftF a y b n) 0
  s2e : stripF (lawLeftF a y b n) 0 = lawLeftF a y b n
  he : hencOK (TX a y b) = true
  lt : ∀ c ∈ (TX a y b).cps.toList, c < 256
  len : (TX a y b).length ≤ 1000
  hd : hdecOK (H (TX a y b)) = true
  hde : hdecF (H (TX a y b)) = TX a y b
  s3 : stripP (H (TX a y b)) n
  s3e : stripF (H (TX a y b)) n = H (TX a y b)
  hl : (H (TX a y b)).length ≤ 100
  be : bodyOK (TX a y b) = true
  bee : bodyF (TX a y b) = COD a y b
  dc : decOK (COD a y b) = true
  dce : decF (COD a y b) = TX a y b
  be2 : bodyOK (lawLeftF a y b n) = true
  dc2 : decOK (bodyF (lawLeftF a y b n)) = true
  dc2e : decF (bodyF (lawLeftF a y b n)) = lawLeftF a y b n
  s4 : stripP (COD a y b) n
  s4e : stripF (COD a y b) n = sp (if 0 > a - n then 0 else a - n) ++ lawBodyF y ++ ENDF b
theorem lawF_of {a b n : Int} {y : Str} (a0 : 0 ≤ a) (a3 : a ≤ 3) (b0 : 0 ≤ b) (b3 : b ≤ 3) (n0 : 0 ≤ n) (n7 : n ≤ 7) (hw : isWord y) : LawF a b n y := by
  obtain ⟨w, hw', rfl⟩ := hw
  obtain ⟨nn, rfl⟩ := Int.eq_ofNat_of_zero_le n0
  have ha := mem4 a0 a3
  have hb := mem4 b0 b3
  have T := all_T a ha b hb w hw'
  have W := all_W b hb w hw'
  simp only [okT, Bool.and_eq_true, decide_eq_true_eq, beq_iff_eq, List.all_eq_true] at T
  simp only [okW, Bool.and_eq_true, decide_eq_true_eq] at W
  obtain ⟨⟨⟨⟨⟨⟨⟨⟨t1, t2⟩, t3⟩, t4⟩, t5⟩, t6⟩, t7⟩, t8⟩, t9⟩ := T
  obtain ⟨⟨⟨⟨w1, w2⟩, w3⟩, w4⟩, w5⟩ := W
  have a'0 : 0 ≤ (if 0 > a - (nn : Int) then 0 else a - (nn : Int)) := by split <;> omega
  have a'3 : (if 0 > a - (nn : Int) then 0 else a - (nn : Int)) ≤ 3 := by split <;> omega
  have ea' : (if 0 > a - (nn : Int) then 0 else a - (nn : Int)).toNat = a.toNat - (nn : Int).toNat := by split <;> omega
  generalize hA : (if 0 > a - (nn : Int) then 0 else a - (nn : Int)) = a' at a'0 a'3 ea'
  have b'0 : 0 ≤ (if 0 > b - ((nn : Int) - (a - a')) then 0 else b - ((nn : Int) - (a - a'))) := by split <;> omega
  have b'3 : (if 0 > b - ((nn : Int) - (a - a')) then 0 else b - ((nn : Int) - (a - a'))) ≤ 3 := by rw [← hA]; split <;> split <;> omega
  have eb' : (if 0 > b - ((nn : Int) - (a - a')) then 0 else b - ((nn : Int) - (a - a'))).toNat = b.toNat - ((nn : Int).toNat - a.toNat) := by rw [← hA]; split <;> split <;> omega
  have hleft : lawLeftF a (mkS w) b (nn : Int) = TX a' (mkS w) (if 0 > b - ((nn : Int) - (a - a')) then 0 else b - ((nn : Int) - (a - a'))) := by rw [left_eq, hA]
  generalize hB : (if 0 > b - ((nn : Int) - (a - a')) then 0 else b - ((nn : Int) - (a - a'))) = b' at b'0 b'3 eb' hleft
  have ha' := mem4 a'0 a'3
  have hb' := mem4 b'0 b'3
  have T' := all_T a' ha' b' hb' w hw'
  simp only [okT, Bool.and_eq_true, decide_eq_true_eq, beq_iff_eq, List.all_eq_true] at T'
  obtain ⟨⟨⟨⟨⟨⟨⟨⟨_, _⟩, _⟩, _⟩, t5'⟩, t6'⟩, t7'⟩, t8'⟩, _⟩ := T'
  obtain ⟨y0, y1, y2⟩ := edge_of w4
  obtain ⟨c0, c1, c2⟩ := edge_of w5
  obtain ⟨h0, h1, h2⟩ := edge_of t9
  rw [Int.toNat_natCast] at ea' eb'
  have hwl : w.length ≤ 2 := by simpa [mkS, Str.length] using w1
  have hlH : (H (TX a (mkS w) b)).length ≤ 100 := by
    simp only [hencOK, Bool.and_eq_true, decide_eq_true_eq] at t1; exact t1.2
  have hcod : COD a (mkS w) b = mkS (bl a.toNat ++ (lawBodyF (mkS w) ++ ENDF b).cps.toList ++ bl 0) := by
    unfold COD
    rw [sp_bl a ha, mkS_cat, mkS_cat, mkS_cat (lawBodyF _)]
    simp [mkS, bl]
  have hcl : (lawBodyF (mkS w) ++ ENDF b).cps.toList.length ≤ 40 := by
    have e : (lawBodyF (mkS w) ++ ENDF b).cps.toList = (lawBodyF (mkS w)).cps.toList ++ (ENDF b).cps.toList := by rw [mkS_cat]; rfl
    rw [e, List.length_append, len_toList, len_toList]; omega
  have hH : H (TX a (mkS w) b) = mkS (bl 0 ++ (H (TX a (mkS w) b)).cps.toList ++ bl 0) := by simp [bl, mkS_self]
  refine ⟨a0, a3, b0, b3, n0, n7, ⟨w, hw', rfl⟩, w1, w2, ⟨a0, a3, b0, b3, n0, n7, by omega⟩, ?_, ?_, ?_, ?_, t1, t2, ?_, t3, t4, ?_, ?_, hlH, t5, t6, t7, t8, ?_, ?_, ?_, ?_, ?_⟩
  · rw [tx_eq ha hb]; exact core_P w4 (by show _ + w.length + _ ≤ 1000; omega) n0 (by omega)
  · rw [hleft, tx_eq ha hb, tx_eq ha' hb', ea', eb', strip_core y0 y1 y2]
  · rw [hleft, tx_eq ha' hb']; exact core_P w4 (by show _ + w.length + _ ≤ 1000; omega) (by omega) (by omega)
  · rw [hleft, tx_eq ha' hb']; have q := strip_core (a := a'.toNat) (b := b'.toNat) (n := 0) y0 y1 y2; rw [Nat.sub_zero, Nat.zero_sub, Nat.sub_zero] at q; exact q
  · simp only [hencOK, Bool.and_eq_true, decide_eq_true_eq] at t1; omega
  · rw [hH]; exact core_P t9 (by rw [len_toList]; omega) n0 (by omega)
  · conv => lhs; rw [hH]
    rw [strip_core h0 h1 h2]
    simp [bl, mkS_self]
  · rw [hleft]; exact t5'
  · rw [hleft, t6']; exact t7'
  · rw [hleft, t6']; exact t8'
  · rw [hcod]; exact core_P w5 (by omega) n0 (by omega)
  · rw [hcod, strip_core c0 c1 c2]
    rw [hA, sp_bl a' ha', ea', mkS_cat (lawBodyF (mkS w)) (ENDF b), mkS_cat (mkS _ ++ lawBodyF (mkS w)) (ENDF b), mkS_cat (mkS _) (lawBodyF (mkS w))]
    simp [mkS, bl]
theorem lawF_k (k : Int) {y : Str} (hw : isWord y) : LawF (k.fmod 4) ((k.fdiv 4).fmod 4) ((k.fdiv 3).fmod 8) y := by
  rw [Int.fmod_eq_emod_of_nonneg _ (by omega), Int.fmod_eq_emod_of_nonneg _ (by omega), Int.fmod_eq_emod_of_nonneg _ (by omega)]
  exact lawF_of (by omega) (by omega) (by omega) (by omega) (by omega) (by omega) hw
end Mine
end
section
open PySem PySem.W PyProof.Rows
namespace Mine
def Lb (k : Nat) (s : Str) : Prop := s.length ≤ k
theorem Lb.cat {j k : Nat} {x y : Str} (hx : Lb j x) (hy : Lb k y) : Lb (j + k) (x ++ y) := by
  unfold Lb at *
  rw [mkS_cat]
  simp only [mkS, Str.length, List.size_toArray, List.length_append, Array.length_toList] at *
  omega
theorem Lb.mul {k : Int} (h : k ≤ 4) : Lb 5 (Txt.mul (Str.ofString " ") k) := by
  by_cases h1 : k < 1
  · unfold Txt.mul; rw [if_pos h1]; show Str.empty.length ≤ 5; decide
  · have : k = 1 ∨ k = 2 ∨ k = 3 ∨ k = 4 := by omega
    rcases this with rfl | rfl | rfl | rfl <;> (unfold Lb; decide +kernel)
theorem Lb.y {a b n : Int} {y : Str} (f : LawF a b n y) : Lb 2 y := f.yl
theorem Lb.body {a b n : Int} {y : Str} (f : LawF a b n y) : Lb 20 (lawBodyF y) := f.bl20
theorem Lb.head {a b n : Int} {y : Str} (f : LawF a b n y) : Lb 100 (H (TX a y b)) := f.hl
theorem Lb.lit {s : Str} (h : s.length ≤ 100) : Lb 100 s := h
theorem cod1 {a b : Int} {y : Str} (h : 0 < b) : COD a y b = sp a ++ lawBodyF y ++ (sp (b - 1) ++ Str.ofString "=20") := by unfold COD ENDF; rw [if_pos h]
theorem cod0 {a b : Int} {y : Str} (h : ¬ 0 < b) : COD a y b = sp a ++ lawBodyF y ++ Str.ofString "" := by unfold COD ENDF; rw [if_neg h]
section
variable {a b n : Int} {y : Str}
theorem LawF.bee1 (f : LawF a b n y) (h : 0 < b) : bodyF (TX a y b) = sp a ++ lawBodyF y ++ (sp (b - 1) ++ Str.ofString "=20") := by rw [← cod1 h]; exact f.bee
theorem LawF.bee0 (f : LawF a b n y) (h : ¬ 0 < b) : bodyF (TX a y b) = sp a ++ lawBodyF y ++ Str.ofString "" := by rw [← cod0 h]; exact f.bee
theorem LawF.dc1 (f : LawF a b n y) (h : 0 < b) : decOK (sp a ++ lawBodyF y ++ (sp (b - 1) ++ Str.ofString "=20")) = true := by rw [← cod1 h]; exact f.dc
theorem LawF.dc0 (f : LawF a b n y) (h : ¬ 0 < b) : decOK (sp a ++ lawBodyF y ++ Str.ofString "") = true := by rw [← cod0 h]; exact f.dc
theorem LawF.dce1 (f : LawF a b n y) (h : 0 < b) : decF (sp a ++ lawBodyF y ++ (sp (b - 1) ++ Str.ofString "=20")) = TX a y b := by rw [← cod1 h]; exact f.dce
theorem LawF.dce0 (f : LawF a b n y) (h : ¬ 0 < b) : decF (sp a ++ lawBodyF y ++ Str.ofString "") = TX a y b := by rw [← cod0 h]; exact f.dce
theorem LawF.s41 (f : LawF a b n y) (h : 0 < b) : stripP (sp a ++ lawBodyF y ++ (sp (b - 1) ++ Str.ofString "=20")) n := by rw [← cod1 h]; exact f.s4
theorem LawF.s40 (f : LawF a b n y) (h : ¬ 0 < b) : stripP (sp a ++ lawBodyF y ++ Str.ofString "") n := by rw [← cod0 h]; exact f.s4
theorem LawF.s4e1 (f : LawF a b n y) (h : 0 < b) : stripF (sp a ++ lawBodyF y ++ (sp (b - 1) ++ Str.ofString "=20")) n = sp (if 0 > a - n then 0 else a - n) ++ lawBodyF y ++ (sp (b - 1) ++ Str.ofString "=20") := by
  rw [← cod1 h, f.s4e]; unfold ENDF; rw [if_pos h]
theorem LawF.s4e0 (f : LawF a b n y) (h : ¬ 0 < b) : stripF (sp a ++ lawBodyF y ++ Str.ofString "") n = sp (if 0 > a - n then 0 else a - n) ++ lawBodyF y ++ Str.ofString "" := by
  rw [← cod0 h, f.s4e]; unfold ENDF; rw [if_neg h]
end
noncomputable abbrev KCF (w : World) (mean : ExcName → Option Value) (mg mb : Str → Option Value) (rm ru : Nat) (f : Addr) (x : Int) (t : Tok) : Prop :=
  ∀ (dp un : Nat) (gd : Option (List Code)) (cn : Str) (cs : Scope) (ad : Addr) (ccd : Value) (cl : List (Str × Addr)) (outer : List Env) (A₀ : Around) (base h₀ : Heap) (L : Addr) (m : Str → Option Value) (s : Shared) (Q E : Value → Shared → Prop),
    Below A₀ base outer h₀ → Fr h₀ L s.heap m → (hd.heap_39 w.params).In h₀ → Top VW LO mean mg mb h₀ → cs.kind = .function → dp + rm < recursionLimit → un + ru < cLine →
    (∀ (D : Addr) (ta tb tw : Tok) (y : Str) (h' : Heap) (tk' : Nat), Keeps s.heap h' → s.heap.get? D = none → h'.get? D = some (tup3 (x.fmod 4) ta y tw ((x.fdiv 4).fmod 4) tb) → LawF (x.fmod 4) ((x.fdiv 4).fmod 4) ((x.fdiv 3).fmod 8) y → Q (.ref D) { s with heap := h', toks := tk' }) →
    wpAny (model PR w) (ktrTop dp un gd cn cs L ad ccd cl outer) (call (.ref f) [.int x t]) Q E s
theorem lawField_f (w : World) (mean : ExcName → Option Value) (mg mb : Str → Option Value) (x : Int) (t : Tok) : KCF w mean mg mb 20 300 121 x t := by
  intro dp un gd cn cs ad ccd cl outer A₀ base h₀ L m s Q E B F X T hk hd hu hret
  exact lawField_c w mean mg mb x t dp un gd cn cs ad ccd cl outer A₀ base h₀ L m s Q E B F X T hk hd hu fun D ta tb tw y h' tk' k1 k2 k3 k4 => hret D ta tb tw y h' tk' k1 k2 k3 (lawF_k x k4)
end Mine
namespace Mine
theorem ne_same {prog : Program} {w : World} {A : Around} {E : Value → Shared → Prop} {s : Shared} {x y : Str} {t u : Tok} {Q : Value → Shared → Prop} (e : x = y) (h : Q (.bool false) s) : wpAny (model prog w) A (compareOp .NotEq (.str x t) (.str y u)) Q E s := by
  subst e
  exact PyProof.Rows.ne_str (by rw [bne_self_eq_false]; exact h)
theorem addL {prog : Program} {w : World} {A : Around} {E : Value → Shared → Prop} {s : Shared} {x y : Str} {t u : Tok} {Q : Value → Shared → Prop} {j k : Nat} (hx : Lb j x) (hy : Lb k y) (hs : j + k ≤ 16777216) (h : ∀ t' k, Q (.str (x ++ y) t') { s with toks := k }) : wpAny (model prog w) A (binaryOp .Add (.str x t) (.str y u)) Q E s :=
  PyProof.Rows.add_str h (by unfold Lb at hx hy; rw [sizeLine_eq]; omega)
end Mine
end
section
open PySem PySem.W PyProof.Rows
namespace Mine
@[irreducible] def aP (s : Str) (n : Int) : Prop := stripP s n
@[irreducible] def aF (s : Str) (n : Int) : Str := stripF s n
@[irreducible] def aL (l : Int) (x : Str) (r a : Int) : Str := lawLeftF l x r a
@[irreducible] def aLP (l : Int) (x : Str) (r a : Int) : Prop := leftP l x r a
@[irreducible] def aD (x : Str) : Str := hdecF x
@[irreducible] def aDO (x : Str) : Bool := hdecOK x
@[irreducible] def aB (x : Str) : Str := bodyF x
@[irreducible] def aBO (x : Str) : Bool := bodyOK x
@[irreducible] def aE (x : Str) : Str := decF x
@[irreducible] def aEO (x : Str) : Bool := decOK x
@[irreducible] def aH (x : Str) : Str := H x
@[irreducible] def aHO (x : Str) : Bool := hencOK x
@[irreducible] def aW (x : Str) : Str := lawBodyF x
theorem strip_k (w : World) (mean : ExcName → Option Value) (mg mb : Str → Option Value) (x : Str) (t : Tok) (n : Int) (u : Tok) : KCS w mean mg mb 5 50 38 (aP x n) [.str x t, .int n u] (aF x n) := by
  delta aP aF
  exact strip_c w mean mg mb x t n u
theorem lawBody_k (w : World) (mean : ExcName → Option Value) (mg mb : Str → Option Value) (x : Str) (t : Tok) : KCS w mean mg mb 5 50 140 (isWord x) [.str x t] (aW x) := by
  delta aW
  exact lawBody_c w mean mg mb x t
theorem lawLeft_k (w : World) (mean : ExcName → Option Value) (mg mb : Str → Option Value) (l : Int) (tl : Tok) (x : Str) (t : Tok) (r : Int) (tr : Tok) (a : Int) (ta : Tok) : KCS w mean mg mb 5 50 128 (aLP l x r a) [.int l tl, .str x t, .int r tr, .int a ta] (aL l x r a) := by
  delta aL aLP
  exact lawLeft_c w mean mg mb l tl x t r tr a ta
theorem benc_k (w : World) (mean : ExcName → Option Value) (mg mb : Str → Option Value) (x : Str) (t : Tok) : KCS w mean mg mb 10 100 94 (aBO x = true) [.str x t] (aB x) := by
  delta aB aBO
  exact benc_c w mean mg mb x t
theorem dec_k (w : World) (mean : ExcName → Option Value) (mg mb : Str → Option Value) (x : Str) (t : Tok) : KCS w mean mg mb 10 100 102 (aEO x = true) [.str x t] (aE x) := by
  delta aE aEO
  exact dec_c w mean mg mb x t
theorem hdec_k (w : World) (mean : ExcName → Option Value) (mg mb : Str → Option Value) (x : Str) (t : Tok) : KCS w mean mg mb 20 300 116 (aDO x = true) [.str x t] (aD x) := by
  delta aD aDO
  exact hdec_c w mean mg mb x t
theorem lawHead_k (w : World) (mean : ExcName → Option Value) (mg mb : Str → Option Value) (x : Str) (t : Tok) : KCS w mean mg mb 20 300 133 (aHO x = true) [.str x t] (aH x) := by
  delta aH aHO
  exact lawHead_c w mean mg mb x t
theorem henc_k (w : World) (mean : ExcName → Option Value) (mg mb : Str → Option Value) (x : Str) (t : Tok) : KCS w mean mg mb 10 100 81 (aHO x = true) [.bytes (latB x) t] (Str.ofString "=?iso-8859-1?q?" ++ aH x ++ Str.ofString "?=") := by
  delta aH aHO
  exact henc_c w mean mg mb x t
structure LawG (a b n : Int) (y : Str) : Prop where
  a0 : 0 ≤ a
  a3 : a ≤ 3
  b0 : 0 ≤ b
  b3 : b ≤ 3
  n0 : 0 ≤ n
  n7 : n ≤ 7
  w : isWord y
  yl : y.length ≤ 2
  bl20 : (aW y).length ≤ 20
  lP : aLP a y b n
  s1 : aP (TX a y b) n
  s1e : aF (TX a y b) n = aL a y b n
  s2 : aP (aL a y b n) 0
  s2e : aF (aL a y b n) 0 = aL a y b n
  he : aHO (TX a y b) = true
  lt : ∀ c ∈ (TX a y b).cps.toList, c < 256
  len : (TX a y b).length ≤ 1000
  hd : aDO (aH (TX a y b)) = true
  hde : aD (aH (TX a y b)) = TX a y b
  s3 : aP (aH (TX a y b)) n
  s3e : aF (aH (TX a y b)) n = aH (TX a y b)
  hl : (aH (TX a y b)).length ≤ 100
  be : aBO (TX a y b) = true
  be2 : aBO (aL a y b n) = true
  dc2 : aEO (aB (aL a y b n)) = true
  dc2e : aE (aB (aL a y b n)) = aL a y b n
  bee1 : 0 < b → aB (TX a y b) = sp a ++ aW y ++ (sp (b - 1) ++ Str.ofString "=20")
  dc1 : 0 < b → aEO (sp a ++ aW y ++ (sp (b - 1) ++ Str.ofString "=20")) = true
  dce1 : 0 < b → aE (sp a ++ aW y ++ (sp (b - 1) ++ Str.ofString "=20")) = TX a y b
  s41 : 0 < b → aP (sp a ++ aW y ++ (sp (b - 1) ++ Str.ofString "=20")) n
  s4e1 : 0 < b → aF (sp a ++ aW y ++ (sp (b - 1) ++ Str.ofString "=20")) n = sp (if 0 > a - n then 0 else a - n) ++ aW y ++ (sp (b - 1) ++ Str.ofString "=20")
  bee0 : ¬ 0 < b → aB (TX a y b) = sp a ++ aW y ++ Str.ofString ""
  dc0 : ¬ 0 < b → aEO (sp a ++ aW y ++ Str.ofString "") = true
  dce0 : ¬ 0 < b → aE (sp a ++ aW y ++ Str.ofString "") = TX a y b
  s40 : ¬ 0 < b → aP (sp a ++ aW y ++ Str.ofString "") n
  s4e0 : ¬ 0 < b → aF (sp a ++ aW y ++ Str.ofString "") n = sp (if 0 > a - n then 0 else a - n) ++ aW y ++ Str.ofString ""
theorem lawG_of {a b n : Int} {y : Str} (f : LawF a b n y) : LawG a b n y := by
  refine ⟨?_, ?_, ?_, ?_, ?_, ?_, ?_, ?_, ?_, ?_, ?_, ?_, ?_, ?_, ?_, ?_, ?_, ?_, ?_, ?_, ?_, ?_, ?_, ?_, ?_, ?_, ?_, ?_, ?_, ?_, ?_, ?_, ?_, ?_, ?_, ?_⟩
  · exact f.a0
  · exact f.a3
  · exact f.b0
  · exact f.b3
  · exact f.n0
  · exact f.n7
  · exact f.w
  · exact f.yl
  · delta aW; exact f.bl20
  · delta aLP; exact f.lP
  · delta aP; exact f.s1
  · delta aF aL; exact f.s1e
  · delta aP aL; exact f.s2
  · delta aF aL; exact f.s2e
  · delta aHO; exact f.he
  · exact f.lt
  · exact f.len
  · delta aDO aH; exact f.hd
  · delta aD aH; exact f.hde
  · delta aP aH; exact f.s3
  · delta aF aH; exact f.s3e
  · delta aH; exact f.hl
  · delta aBO; exact f.be
  · delta aL aBO; exact f.be2
  · delta aL aB aEO; exact f.dc2
  · delta aL aB aE; exact f.dc2e
  · delta aB aW; exact f.bee1
  · delta aEO aW; exact f.dc1
  · delta aE aW; exact f.dce1
  · delta aP aW; exact f.s41
  · delta aF aW; exact f.s4e1
  · delta aB aW; exact f.bee0
  · delta aEO aW; exact f.dc0
  · delta aE aW; exact f.dce0
  · delta aP aW; exact f.s40
  · delta aF aW; exact f.s4e0
theorem LawG.bounds {a b n : Int} {y : Str} (f : LawG a b n y) : 0 ≤ a ∧ a ≤ 3 ∧ 0 ≤ b ∧ b ≤ 3 ∧ 0 ≤ n ∧ n ≤ 7 := ⟨f.a0, f.a3, f.b0, f.b3, f.n0, f.n7⟩
theorem Lg.y {a b n : Int} {y : Str} (f : LawG a b n y) : Lb 2 y := f.yl
theorem Lg.body {a b n : Int} {y : Str} (f : LawG a b n y) : Lb 20 (aW y) := f.bl20
theorem Lg.head {a b n : Int} {y : Str} (f : LawG a b n y) : Lb 100 (aH (TX a y b)) := f.hl
noncomputable abbrev KCG (w : World) (mean : ExcName → Option Value) (mg mb : Str → Option Value) (rm ru : Nat) (f : Addr) (x : Int) (t : Tok) : Prop :=
  ∀ (dp un : Nat) (gd : Option (List Code)) (cn : Str) (cs : Scope) (ad : Addr) (ccd : Value) (cl : List (Str × Addr)) (outer : List Env) (A₀ : Around) (base h₀ : Heap) (L : Addr) (m : Str → Option Value) (s : Shared) (Q E : Value → Shared → Prop),
    Below A₀ base outer h₀ → Fr h₀ L s.heap m → (hd.heap_39 w.params).In h₀ → Top VW LO mean mg mb h₀ → cs.kind = .function → dp + rm < recursionLimit → un + ru < cLine →
    (∀ (D : Addr) (ta tb tw : Tok) (y : Str) (h' : Heap) (tk' : Nat), Keeps s.heap h' → s.heap.get? D = none → h'.get? D = some (tup3 (x.fmod 4) ta y tw ((x.fdiv 4).fmod 4) tb) → LawG (x.fmod 4) ((x.fdiv 4).fmod 4) ((x.fdiv 3).fmod 8) y → Q (.ref D) { s with heap := h', toks := tk' }) →
    wpAny (model PR w) (ktrTop dp un gd cn cs L ad ccd cl outer) (call (.ref f) [.int x t]) Q E s
theorem KCG.use {w : World} {mean : ExcName → Option Value} {mg mb : Str → Option Value} {rm ru : Nat} {f : Addr} {x : Int} {t : Tok} (c : KCG w mean mg mb rm ru f x t)
    {dp un : Nat} {gd : Option (List Code)} {cn : Str} {cs : Scope} {a : Addr} {ccd : Value} {cl : List (Str × Addr)} {outer : List Env} {A₀ : Around} {base h₀ : Heap} {L : Addr} {m : Str → Option Value} {s : Shared} {Q E : Value → Shared → Prop}
    (k1 : Below A₀ base outer h₀) (k2 : Fr h₀ L s.heap m) (k3 : (hd.heap_39 w.params).In h₀) (k5 : Top VW LO mean mg mb h₀) (kK : cs.kind = .function) (kd : dp + rm < recursionLimit) (ku : un + ru < cLine)
    (kR : ∀ (D : Addr) (ta tb tw : Tok) (y : Str) (h' : Heap) (tk' : Nat), Keeps s.heap h' → s.heap.get? D = none → h'.get? D = some (tup3 (x.fmod 4) ta y tw ((x.fdiv 4).fmod 4) tb) → LawG (x.fmod 4) ((x.fdiv 4).fmod 4) ((x.fdiv 3).fmod 8) y → Q (.ref D) { s with heap := h', toks := tk' }) :
    wpAny (model PR w) (ktrTop dp un gd cn cs L a ccd cl outer) (call (.ref f) [.int x t]) Q E s :=
  c dp un gd cn cs a ccd cl outer A₀ base h₀ L m s Q E k1 k2 k3 k5 kK kd ku kR
theorem lawField_g (w : World) (mean : ExcName → Option Value) (mg mb : Str → Option Value) (x : Int) (t : Tok) : KCG w mean mg mb 20 300 121 x t := by
  intro dp un gd cn cs ad ccd cl outer A₀ base h₀ L m s Q E B F X T hk hd hu hret
  exact lawField_c w mean mg mb x t dp un gd cn cs ad ccd cl outer A₀ base h₀ L m s Q E B F X T hk hd hu fun D ta tb tw y h' tk' k1 k2 k3 k4 => hret D ta tb tw y h' tk' k1 k2 k3 (lawG_of (lawF_k x k4))
end Mine
end
section
open PySem PySem.W PyProof.Rows Mine Mine.Hd
local macro_rules | `(tactic| walk_at "exec For Name BinOp cons nil") => `(tactic| (k_here; (rename Fr _ _ _ _ => lF'); (with_unfolding_all refine' For_invVF lF' ?k1 ?k2 ?_; (case k1 => exact rfl); (case k2 => exact rfl); k_whole)))
local macro_rules | `(tactic| walk_at "call ref") => `(tactic| (k_here; (with_reducible show wpAny _ _ (call (Value.ref 38) [Value.str _ _, Value.int _ _]) _ _ _); k_dflt (refine' strip_k _ _ _ _ _ _ _ _ _ _ _ _ _ _ _ _ _ _ _ _ _ _ _ _ _ ?k1 ?k2 ?k3 ?k5 ?kK ?kp ?kd ?ku ?_; (case k1 => k_asm); (case k2 => k_asm); (case k3 => k_asm); (case k5 => k_asm); (case kK => first | exact rfl | assumption); (case kp => first | ((with_reducible refine' LawG.s1 ?e1); (case e1 => assumption)) | ((with_reducible refine' LawG.s2 ?e1); (case e1 => assumption)) | ((with_reducible refine' LawG.s3 ?e1); (case e1 => assumption)) | ((with_reducible refine' LawG.s41 ?e1 ?e2); (case e1 => assumption); (case e2 => omega)) | ((with_reducible refine' LawG.s40 ?e1 ?e2); (case e1 => assumption); (case e2 => omega))); (case kd => ktr_room); (case ku => ktr_units)); (rename Fr _ _ _ _ => F'); (rename News _ _ _ _ => N'); intro t9 h9 tk9 k9; (have F9 := keeps_fr F' k9); (have N9 := keeps_news N' k9); clear F' N'; (try dsimp only); (try k_fold)))
local macro_rules | `(tactic| walk_at "call ref") => `(tactic| (k_here; (with_reducible show wpAny _ _ (call (Value.ref 140) [Value.str _ _]) _ _ _); k_dflt (refine' lawBody_k _ _ _ _ _ _ _ _ _ _ _ _ _ _ _ _ _ _ _ _ _ _ _ ?k1 ?k2 ?k3 ?k5 ?kK ?kp ?kd ?ku ?_; (case k1 => k_asm); (case k2 => k_asm); (case k3 => k_asm); (case k5 => k_asm); (case kK => first | exact rfl | assumption); (case kp => ((with_reducible refine' LawG.w ?e1); (case e1 => assumption))); (case kd => ktr_room); (case ku => ktr_units)); (rename Fr _ _ _ _ => F'); (rename News _ _ _ _ => N'); intro t9 h9 tk9 k9; (have F9 := keeps_fr F' k9); (have N9 := keeps_news N' k9); clear F' N'; (try dsimp only); (try k_fold)))
local macro_rules | `(tactic| walk_at "call ref") => `(tactic| (k_here; (with_reducible show wpAny _ _ (call (Value.ref 128) [Value.int _ _, Value.str _ _, Value.int _ _, Value.int _ _]) _ _ _); k_dflt (refine' lawLeft_k _ _ _ _ _ _ _ _ _ _ _ _ _ _ _ _ _ _ _ _ _ _ _ _ _ _ _ _ _ ?k1 ?k2 ?k3 ?k5 ?kK ?kp ?kd ?ku ?_; (case k1 => k_asm); (case k2 => k_asm); (case k3 => k_asm); (case k5 => k_asm); (case kK => first | exact rfl | assumption); (case kp => ((with_reducible refine' LawG.lP ?e1); (case e1 => assumption))); (case kd => ktr_room); (case ku => ktr_units)); (rename Fr _ _ _ _ => F'); (rename News _ _ _ _ => N'); intro t9 h9 tk9 k9; (have F9 := keeps_fr F' k9); (have N9 := keeps_news N' k9); clear F' N'; (try dsimp only); (try k_fold)))
local macro_rules | `(tactic| walk_at "call ref") => `(tactic| (k_here; (with_reducible show wpAny _ _ (call (Value.ref 94) [Value.str _ _]) _ _ _); k_dflt (refine' benc_k _ _ _ _ _ _ _ _ _ _ _ _ _ _ _ _ _ _ _ _ _ _ _ ?k1 ?k2 ?k3 ?k5 ?kK ?kp ?kd ?ku ?_; (case k1 => k_asm); (case k2 => k_asm); (case k3 => k_asm); (case k5 => k_asm); (case kK => first | exact rfl | assumption); (case kp => first | ((with_reducible refine' LawG.be ?e1); (case e1 => assumption)) | ((with_reducible refine' LawG.be2 ?e1); (case e1 => assumption))); (case kd => ktr_room); (case ku => ktr_units)); (rename Fr _ _ _ _ => F'); (rename News _ _ _ _ => N'); intro t9 h9 tk9 k9; (have F9 := keeps_fr F' k9); (have N9 := keeps_news N' k9); clear F' N'; (try dsimp only); (try k_fold)))
local macro_rules | `(tactic| walk_at "call ref") => `(tactic| (k_here; (with_reducible show wpAny _ _ (call (Value.ref 102) [Value.str _ _]) _ _ _); k_dflt (refine' dec_k _ _ _ _ _ _ _ _ _ _ _ _ _ _ _ _ _ _ _ _ _ _ _ ?k1 ?k2 ?k3 ?k5 ?kK ?kp ?kd ?ku ?_; (case k1 => k_asm); (case k2 => k_asm); (case k3 => k_asm); (case k5 => k_asm); (case kK => first | exact rfl | assumption); (case kp => first | ((with_reducible refine' LawG.dc2 ?e1); (case e1 => assumption)) | ((with_reducible refine' LawG.dc1 ?e1 ?e2); (case e1 => assumption); (case e2 => omega)) | ((with_reducible refine' LawG.dc0 ?e1 ?e2); (case e1 => assumption); (case e2 => omega))); (case kd => ktr_room); (case ku => ktr_units)); (rename Fr _ _ _ _ => F'); (rename News _ _ _ _ => N'); intro t9 h9 tk9 k9; (have F9 := keeps_fr F' k9); (have N9 := keeps_news N' k9); clear F' N'; (try dsimp only); (try k_fold)))
local macro_rules | `(tactic| walk_at "call ref") => `(tactic| (k_here; (with_reducible show wpAny _ _ (call (Value.ref 116) [Value.str _ _]) _ _ _); k_dflt (refine' hdec_k _ _ _ _ _ _ _ _ _ _ _ _ _ _ _ _ _ _ _ _ _ _ _ ?k1 ?k2 ?k3 ?k5 ?kK ?kp ?kd ?ku ?_; (case k1 => k_asm); (case k2 => k_asm); (case k3 => k_asm); (case k5 => k_asm); (case kK => first | exact rfl | assumption); (case kp => ((with_reducible refine' LawG.hd ?e1); (case e1 => assumption))); (case kd => ktr_room); (case ku => ktr_units)); (rename Fr _ _ _ _ => F'); (rename News _ _ _ _ => N'); intro t9 h9 tk9 k9; (have F9 := keeps_fr F' k9); (have N9 := keeps_news N' k9); clear F' N'; (try dsimp only); (try k_fold)))
local macro_rules | `(tactic| walk_at "call ref") => `(tactic| (k_here; (with_reducible show wpAny _ _ (call (Value.ref 133) [Value.str _ _]) _ _ _); k_dflt (refine' lawHead_k _ _ _ _ _ _ _ _ _ _ _ _ _ _ _ _ _ _ _ _ _ _ _ ?k1 ?k2 ?k3 ?k5 ?kK ?kp ?kd ?ku ?_; (case k1 => k_asm); (case k2 => k_asm); (case k3 => k_asm); (case k5 => k_asm); (case kK => first | exact rfl | assumption); (case kp => ((with_reducible refine' LawG.he ?e1); (case e1 => assumption))); (case kd => ktr_room); (case ku => ktr_units)); (rename Fr _ _ _ _ => F'); (rename News _ _ _ _ => N'); intro t9 h9 tk9 k9; (have F9 := keeps_fr F' k9); (have N9 := keeps_news N' k9); clear F' N'; (try dsimp only); (try k_fold)))
local macro_rules | `(tactic| walk_at "call ref") => `(tactic| (k_here; (with_reducible show wpAny _ _ (call (Value.ref 81) [Value.bytes (latB _) _]) _ _ _); k_dflt (refine' henc_k _ _ _ _ _ _ _ _ _ _ _ _ _ _ _ _ _ _ _ _ _ _ _ ?k1 ?k2 ?k3 ?k5 ?kK ?kp ?kd ?ku ?_; (case k1 => k_asm); (case k2 => k_asm); (case k3 => k_asm); (case k5 => k_asm); (case kK => first | exact rfl | assumption); (case kp => ((with_reducible refine' LawG.he ?e1); (case e1 => assumption))); (case kd => ktr_room); (case ku => ktr_units)); (rename Fr _ _ _ _ => F'); (rename News _ _ _ _ => N'); intro t9 h9 tk9 k9; (have F9 := keeps_fr F' k9); (have N9 := keeps_news N' k9); clear F' N'; (try dsimp only); (try k_fold)))
local macro_rules | `(tactic| walk_at "call ref") => `(tactic| (k_here; (with_reducible show wpAny _ _ (call (Value.ref 121) [Value.int _ _]) _ _ _); k_dflt (refine' lawField_g _ _ _ _ _ _ _ _ _ _ _ _ _ _ _ _ _ _ _ _ _ _ _ ?k1 ?k2 ?k3 ?k5 ?kK ?kd ?ku ?_; (case k1 => k_asm); (case k2 => k_asm); (case k3 => k_asm); (case k5 => k_asm); (case kK => first | exact rfl | assumption); (case kd => ktr_room); (case ku => ktr_units)); (rename Fr _ _ _ _ => F'); (rename News _ _ _ _ => N'); intro D9 ta9 tb9 tw9 y9 h9 tk9 k9 hD9 hg9 hw9; (have F9 := keeps_fr F' k9); (have N9 := keeps_add F' N' k9 hD9 hg9); clear F' N' k9 hD9 hg9; (have q1 := LawG.a0 hw9); (have q2 := LawG.a3 hw9); (have q3 := LawG.b0 hw9); (have q4 := LawG.b3 hw9); (have q5 := LawG.n0 hw9); (have q6 := LawG.n7 hw9); (try dsimp only); (try k_fold)))
local macro_rules | `(tactic| walk_at "getMethod str") => `(tactic| (k_here; (with_reducible refine gm_encode ?_)))
local macro_rules | `(tactic| walk_at "call builtin:str.encode") => `(tactic| (k_here; k_dflt (refine' call_enc ?e1 ?e2 ?_; (case e1 => ((with_reducible refine' LawG.lt ?e1); (case e1 => assumption))); (case e2 => ((with_reducible refine' LawG.len ?e1); (case e1 => assumption)))); intro _ _))
local macro_rules | `(tactic| walk_at "binaryOp Add str str") => `(tactic| (k_here; (with_reducible show wpAny _ _ (binaryOp Operator.Add (Value.str _ _) (Value.str _ _)) _ _ _); (k_dflt (first | ((with_reducible refine' addL (Lb.mul ?m1) (Lg.y ?m2) ?mz ?_); (case m1 => first | omega | (split <;> omega)); (case m2 => assumption); (case mz => exact Nat.le_of_ble_eq_true rfl)) | ((with_reducible refine' addL (Lb.cat (Lb.mul ?m1) (Lg.y ?m2)) (Lb.mul ?m3) ?mz ?_); (case m1 => first | omega | (split <;> omega)); (case m2 => assumption); (case m3 => first | omega | (split <;> omega)); (case mz => exact Nat.le_of_ble_eq_true rfl)) | ((with_reducible refine' addL (Lb.lit ?m1) (Lg.head ?m2) ?mz ?_); (case m1 => decide); (case m2 => assumption); (case mz => exact Nat.le_of_ble_eq_true rfl)) | ((with_reducible refine' addL (Lb.cat (Lb.lit ?m1) (Lg.head ?m2)) (Lb.lit ?m3) ?mz ?_); (case m1 => decide); (case m2 => assumption); (case m3 => decide); (case mz => exact Nat.le_of_ble_eq_true rfl)) | ((with_reducible refine' addL (Lb.mul ?m1) (Lg.body ?m2) ?mz ?_); (case m1 => first | omega | (split <;> omega)); (case m2 => assumption); (case mz => exact Nat.le_of_ble_eq_true rfl)) | ((with_reducible refine' addL (Lb.mul ?m1) (Lb.lit ?m2) ?mz ?_); (case m1 => first | omega | (split <;> omega)); (case m2 => decide); (case mz => exact Nat.le_of_ble_eq_true rfl)) | ((with_reducible refine' addL (Lb.cat (Lb.mul ?m1) (Lg.body ?m2)) (Lb.cat (Lb.mul ?m3) (Lb.lit ?m4)) ?mz ?_); (case m1 => first | omega | (split <;> omega)); (case m2 => assumption); (case m3 => first | omega | (split <;> omega)); (case m4 => decide); (case mz => exact Nat.le_of_ble_eq_true rfl)) | ((with_reducible refine' addL (Lb.cat (Lb.mul ?m1) (Lg.body ?m2)) (Lb.lit ?m3) ?mz ?_); (case m1 => first | omega | (split <;> omega)); (case m2 => assumption); (case m3 => decide); (case mz => exact Nat.le_of_ble_eq_true rfl)))); intro _ _))
local macro_rules | `(tactic| walk_at "compareOp NotEq str str") => `(tactic| (k_here; k_dflt (refine' ne_same ?m1 ?_; (case m1 => first | ((with_reducible refine' LawG.s1e ?e1); (case e1 => assumption)) | ((with_reducible refine' LawG.s2e ?e1); (case e1 => assumption)) | ((with_reducible refine' LawG.s3e ?e1); (case e1 => assumption)) | ((with_reducible refine' LawG.hde ?e1); (case e1 => assumption)) | (with_reducible rfl) | ((with_reducible refine' LawG.bee1 ?e1 ?e2); (case e1 => assumption); (case e2 => omega)) | ((with_reducible refine' LawG.bee0 ?e1 ?e2); (case e1 => assumption); (case e2 => omega)) | ((with_reducible refine' LawG.dce1 ?e1 ?e2); (case e1 => assumption); (case e2 => omega)) | ((with_reducible refine' LawG.dce0 ?e1 ?e2); (case e1 => assumption); (case e2 => omega)) | ((with_reducible refine' LawG.dc2e ?e1); (case e1 => assumption)) | ((with_reducible refine' LawG.s4e1 ?e1 ?e2); (case e1 => assumption); (case e2 => omega)) | ((with_reducible refine' LawG.s4e0 ?e1 ?e2); (case e1 => assumption); (case e2 => omega))))))
set_option maxRecDepth 100000 in
set_option maxHeartbeats 8000000 in
set_option rowWalk.seconds 0 in
theorem PySem.Challenge.cw_nb0210_01_holds : PySem.Challenge.rw_nb0210_01.Holds := by
  w_on
  o_law
  refine holds_open (q := hd.view_39) (loose := LS) (Xt := XT) (XP := XL hd.view_39 LV) (Yf := Hook.obs HK) (Ya := Hook.val HK) (YP := Hook.says HK) (N := 35662) left (Hook.of HK) (Hook.keeps HK) (fun s e => xl_of s (Bool.and_eq_true_iff.mp e).1) XL.keeps (by rfl) (by rfl) (by rfl) (fun s e => recFacts_of (Bool.and_eq_true_iff.mp e).2) (by rfl) (by first | assumption | decide +kernel) (by decide +kernel) ⟨rfl, rfl, rfl, rfl, rfl, by decide +kernel⟩ ?hw ?hc
  (case hw => w_witness2)
  rename_i said; clear said
  dsimp only [HK, LS, LV, AS]
  k_with "pyIter ref" => k_search (fun _ => True)
  w_strict (k_go0; (all_goals try k_fold); k_steps)
end
