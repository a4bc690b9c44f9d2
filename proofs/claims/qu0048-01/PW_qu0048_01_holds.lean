import PyProof.Rows.All
import Wide.All
import OpenK.AllK
import Wide.FinOn
import PySem.Sre
import PyProof.Rows.KernelRfl
import PySem.Challenge.RW_qu0048_01
set_option Elab.async false
set_option maxRecDepth 100000
set_option maxHeartbeats 40000000
set_option linter.unusedVariables false
set_option linter.unusedSimpArgs false
set_option compiler.extract_closed false
section
open PySem PySem.W PyProof.Rows
namespace Hd
noncomputable def st (l : List Nat) : Str := ⟨⟨l⟩⟩
/-- the statements behind the first line, and what a def among them bears -/
noncomputable def bd : List Stmt := behindTheImports PySem.Challenge.pw_qu0048_01
noncomputable def fP (i : Nat) : Arguments := match bd.drop i with | .FunctionDef _ a _ _ _ _ _ _ _ _ :: _ => a | _ => ⟨[],[],none,[],[],none,[]⟩
noncomputable def fB (i : Nat) : List Stmt := match bd.drop i with | .FunctionDef _ _ b _ _ _ _ _ _ _ :: _ => b | _ => []
noncomputable def fS (i : Nat) : Scope := match bd.drop i with | .FunctionDef _ _ _ _ _ _ s _ _ _ :: _ => s | _ => default
end Hd
namespace Mine
open Hd
/-- what the top leaves, as far as the calls look at it -/
noncomputable def hK (P : Params) : Frag :=
  ⟨nat_lit 2,⟨Value.none,Option.none,(Data.dict ⟨[⟨(PyData.keyHash P (Hd.st [105,109,112,111,114,116,46,108,111,97,100,101,100,46,95,115,114,101])),(Value.str (Hd.st [105,109,112,111,114,116,46,108,111,97,100,101,100,46,95,115,114,101]) 183),(Value.bool Bool.true)⟩,⟨(PyData.keyHash P (Hd.st [99,108,97,115,115,46,95,102,114,111,122,101,110,95,105,109,112,111,114,116,108,105,98,46,66,117,105,108,116,105,110,73,109,112,111,114,116,101,114])),(Value.str (Hd.st [99,108,97,115,115,46,95,102,114,111,122,101,110,95,105,109,112,111,114,116,108,105,98,46,66,117,105,108,116,105,110,73,109,112,111,114,116,101,114]) 185),(Value.ref 14)⟩,⟨(PyData.keyHash P (Hd.st [119,97,116,99,104,101,100,46,105,109,112,111,114,116])),(Value.str (Hd.st [119,97,116,99,104,101,100,46,105,109,112,111,114,116]) 206),(Value.ref 18)⟩,⟨(PyData.keyHash P (Hd.st [99,108,97,115,115,46,95,102,114,111,122,101,110,95,105,109,112,111,114,116,108,105,98,46,77,111,100,117,108,101,83,112,101,99])),(Value.str (Hd.st [99,108,97,115,115,46,95,102,114,111,122,101,110,95,105,109,112,111,114,116,108,105,98,46,77,111,100,117,108,101,83,112,101,99]) 216),(Value.ref 22)⟩,⟨(PyData.keyHash P (Str.ofString "sys.modules.booked-epoch")),(Value.str (Str.ofString "sys.modules.booked-epoch") 245),(Value.int 3 0)⟩,⟨(PyData.keyHash P (Hd.st [105,109,112,111,114,116,46,108,97,116,101,114,45,108,97,105,100,46,95,115,114,101])),(Value.str (Hd.st [105,109,112,111,114,116,46,108,97,116,101,114,45,108,97,105,100,46,95,115,114,101]) 270),(Value.bool Bool.true)⟩,⟨(PyData.keyHash P (Str.ofString "watched.library")),(Value.str (Str.ofString "watched.library") 272),(Value.ref 27)⟩,⟨(PyData.keyHash P (Str.ofString "watched.library-objects")),(Value.str (Str.ofString "watched.library-objects") 0),(Value.str (Str.ofString "\x0c") 0)⟩,⟨(PyData.keyHash P (Str.ofString "watched.library-deep._sre")),(Value.str (Str.ofString "watched.library-deep._sre") 273),(Value.str (Str.ofString "\x04\x00\x00\x0b\x04\x00\x00\x0b\x04\x00\x00\x03\x04\x00\x00\x0b\x08\x04dict\x02") 0)⟩]⟩ 9),⟨[]⟩⟩⟩ ::
  ⟨nat_lit 3,⟨(Value.type "dict"),Option.none,(Data.dict ⟨[⟨(PyData.keyHash P (Str.ofString "__name__")),(Value.str (Str.ofString "__name__") 165),(Value.str (Str.ofString "law_qu0048_01") 2142)⟩,⟨(PyData.keyHash P (Str.ofString "__doc__")),(Value.str (Str.ofString "__doc__") 166),Value.none⟩,⟨(PyData.keyHash P (Str.ofString "__package__")),(Value.str (Str.ofString "__package__") 167),Value.none⟩,⟨(PyData.keyHash P (Str.ofString "__loader__")),(Value.str (Str.ofString "__loader__") 168),(Value.builtin "__main__.__loader__#opaque")⟩,⟨(PyData.keyHash P (Str.ofString "__spec__")),(Value.str (Str.ofString "__spec__") 169),Value.none⟩,⟨(PyData.keyHash P (Str.ofString "__annotations__")),(Value.str (Str.ofString "__annotations__") 170),(Value.ref 6)⟩,⟨(PyData.keyHash P (Str.ofString "__builtins__")),(Value.str (Str.ofString "__builtins__") 171),(Value.ref 4)⟩,⟨(PyData.keyHash P (Str.ofString "__file__")),(Value.str (Str.ofString "__file__") 173),(Value.str (Str.ofString "/claim/cut.py") 172)⟩,⟨(PyData.keyHash P (Str.ofString "__cached__")),(Value.str (Str.ofString "__cached__") 174),Value.none⟩,⟨(PyData.keyHash P (Str.ofString "_sre")),(Value.str (Str.ofString "_sre") 275),(Value.ref 12)⟩,⟨(PyData.keyHash P (Str.ofString "CRLF")),(Value.str (Str.ofString "CRLF") 283),(Value.str (Str.ofString "\x0d\n") 282)⟩,⟨(PyData.keyHash P (Str.ofString "NL")),(Value.str (Str.ofString "NL") 285),(Value.str (Str.ofString "\n") 284)⟩,⟨(PyData.keyHash P (Str.ofString "_QUOPRI_MAP")),(Value.str (Str.ofString "_QUOPRI_MAP") 1313),(Value.ref 34)⟩,⟨(PyData.keyHash P (Str.ofString "_QUOPRI_HEADER_MAP")),(Value.str (Str.ofString "_QUOPRI_HEADER_MAP") 1314),(Value.ref 39)⟩,⟨(PyData.keyHash P (Str.ofString "_QUOPRI_BODY_MAP")),(Value.str (Str.ofString "_QUOPRI_BODY_MAP") 1315),(Value.ref 41)⟩,⟨(PyData.keyHash P (Str.ofString "ascii_lowercase")),(Value.str (Str.ofString "ascii_lowercase") 1317),(Value.str (Str.ofString "abcdefghijklmnopqrstuvwxyz") 1316)⟩,⟨(PyData.keyHash P (Str.ofString "ascii_uppercase")),(Value.str (Str.ofString "ascii_uppercase") 1319),(Value.str (Str.ofString "ABCDEFGHIJKLMNOPQRSTUVWXYZ") 1318)⟩,⟨(PyData.keyHash P (Str.ofString "ascii_letters")),(Value.str (Str.ofString "ascii_letters") 1321),(Value.str (Str.ofString "abcdefghijklmnopqrstuvwxyzABCDEFGHIJKLMNOPQRSTUVWXYZ") 1320)⟩,⟨(PyData.keyHash P (Str.ofString "digits")),(Value.str (Str.ofString "digits") 1323),(Value.str (Str.ofString "0123456789") 1322)⟩,⟨(PyData.keyHash P (Str.ofString "hexdigits")),(Value.str (Str.ofString "hexdigits") 1328),(Value.str (Str.ofString "0123456789abcdefABCDEF") 1327)⟩,⟨(PyData.keyHash P (Str.ofString "unquote")),(Value.str (Str.ofString "unquote") 1834),(Value.ref 54)⟩,⟨(PyData.keyHash P (Str.ofString "quote")),(Value.str (Str.ofString "quote") 1841),(Value.ref 61)⟩,⟨(PyData.keyHash P (Str.ofString "_QUOPRI_BODY_ENCODE_MAP")),(Value.str (Str.ofString "_QUOPRI_BODY_ENCODE_MAP") 1842),(Value.ref 63)⟩,⟨(PyData.keyHash P (Str.ofString "body_encode")),(Value.str (Str.ofString "body_encode") 1869),(Value.ref 74)⟩,⟨(PyData.keyHash P (Str.ofString "decode")),(Value.str (Str.ofString "decode") 1882),(Value.ref 82)⟩,⟨(PyData.keyHash P (Str.ofString "_twin_re_5")),(Value.str (Str.ofString "_twin_re_5") 1912),(Value.ref 87)⟩,⟨(PyData.keyHash P (Str.ofString "unmatched")),(Value.str (Str.ofString "unmatched") 1921),(Value.ref 94)⟩,⟨(PyData.keyHash P (Str.ofString "HEADER_TOKEN_RE")),(Value.str (Str.ofString "HEADER_TOKEN_RE") 1969),(Value.ref 99)⟩,⟨(PyData.keyHash P (Str.ofString "HEADER_QUOTED_VALUE_RE")),(Value.str (Str.ofString "HEADER_QUOTED_VALUE_RE") 2047),(Value.ref 104)⟩,⟨(PyData.keyHash P (Str.ofString "HEADER_VALUE_RE")),(Value.str (Str.ofString "HEADER_VALUE_RE") 2102),(Value.ref 109)⟩,⟨(PyData.keyHash P (Str.ofString "HEADER_ESCAPE_RE")),(Value.str (Str.ofString "HEADER_ESCAPE_RE") 2125),(Value.ref 114)⟩,⟨(PyData.keyHash P (Str.ofString "split_header_words")),(Value.str (Str.ofString "split_header_words") 2141),(Value.ref 121)⟩,⟨(PyData.keyHash P (Str.ofString "_law_text")),(Value.str (Str.ofString "_law_text") 2153),(Value.ref 128)⟩,⟨(PyData.keyHash P (Str.ofString "_law_rows")),(Value.str (Str.ofString "_law_rows") 2169),(Value.ref 135)⟩,⟨(PyData.keyHash P (Str.ofString "_law_reading")),(Value.str (Str.ofString "_law_reading") 2177),(Value.ref 142)⟩,⟨(PyData.keyHash P (Str.ofString "_law_row")),(Value.str (Str.ofString "_law_row") 2187),(Value.ref 149)⟩,⟨(PyData.keyHash P (Str.ofString "law")),(Value.str (Str.ofString "law") 2193),(Value.ref 154)⟩]⟩ 39),⟨[]⟩⟩⟩ ::
  ⟨nat_lit 6,⟨(Value.type "dict"),Option.none,(Data.dict ⟨[]⟩ 0),⟨[]⟩⟩⟩ ::
  ⟨nat_lit 11,⟨(Value.type "dict"),Option.none,(Data.dict ⟨[⟨(PyData.keyHash P (Str.ofString "__name__")),(Value.str (Str.ofString "__name__") 247),(Value.str (Str.ofString "_sre") 246)⟩,⟨(PyData.keyHash P (Str.ofString "__doc__")),(Value.str (Str.ofString "__doc__") 248),Value.none⟩,⟨(PyData.keyHash P (Str.ofString "__package__")),(Value.str (Str.ofString "__package__") 250),(Value.str (Str.ofString "") 249)⟩,⟨(PyData.keyHash P (Str.ofString "__loader__")),(Value.str (Str.ofString "__loader__") 251),(Value.builtin "off-the-table:_sre.__loader__:shared#opaque")⟩,⟨(PyData.keyHash P (Str.ofString "__spec__")),(Value.str (Str.ofString "__spec__") 252),(Value.builtin "off-the-table:_sre.__spec__:shared#opaque")⟩,⟨(PyData.keyHash P (Str.ofString "compile")),(Value.str (Str.ofString "compile") 253),(Value.builtin "_sre.compile")⟩,⟨(PyData.keyHash P (Str.ofString "template")),(Value.str (Str.ofString "template") 254),(Value.builtin "off-the-table:_sre.template:shared#opaque")⟩,⟨(PyData.keyHash P (Str.ofString "getcodesize")),(Value.str (Str.ofString "getcodesize") 255),(Value.builtin "off-the-table:_sre.getcodesize:shared#opaque")⟩,⟨(PyData.keyHash P (Str.ofString "ascii_iscased")),(Value.str (Str.ofString "ascii_iscased") 256),(Value.builtin "off-the-table:_sre.ascii_iscased:shared#opaque")⟩,⟨(PyData.keyHash P (Str.ofString "unicode_iscased")),(Value.str (Str.ofString "unicode_iscased") 257),(Value.builtin "off-the-table:_sre.unicode_iscased:shared#opaque")⟩,⟨(PyData.keyHash P (Str.ofString "ascii_tolower")),(Value.str (Str.ofString "ascii_tolower") 258),(Value.builtin "off-the-table:_sre.ascii_tolower:shared#opaque")⟩,⟨(PyData.keyHash P (Str.ofString "unicode_tolower")),(Value.str (Str.ofString "unicode_tolower") 259),(Value.builtin "off-the-table:_sre.unicode_tolower:shared#opaque")⟩,⟨(PyData.keyHash P (Str.ofString "MAGIC")),(Value.str (Str.ofString "MAGIC") 261),(Value.int 20230612 260)⟩,⟨(PyData.keyHash P (Str.ofString "CODESIZE")),(Value.str (Str.ofString "CODESIZE") 263),(Value.int 4 262)⟩,⟨(PyData.keyHash P (Str.ofString "MAXREPEAT")),(Value.str (Str.ofString "MAXREPEAT") 265),(Value.int 4294967295 264)⟩,⟨(PyData.keyHash P (Str.ofString "MAXGROUPS")),(Value.str (Str.ofString "MAXGROUPS") 267),(Value.int 1073741823 266)⟩,⟨(PyData.keyHash P (Str.ofString "copyright")),(Value.str (Str.ofString "copyright") 269),(Value.str (Str.ofString " SRE 2.2.2 Copyright (c) 1997-2002 by Secret Labs AB ") 268)⟩]⟩ 17),⟨[]⟩⟩⟩ ::
  ⟨nat_lit 12,⟨(Value.type "module"),(Option.some 11),Data.plain,⟨[]⟩⟩⟩ ::
  ⟨nat_lit 34,⟨(Value.type "list"),Option.none,(Data.seq ⟨[(Value.str (Str.ofString "=00") 292),(Value.str (Str.ofString "=01") 296),(Value.str (Str.ofString "=02") 300),(Value.str (Str.ofString "=03") 304),(Value.str (Str.ofString "=04") 308),(Value.str (Str.ofString "=05") 312),(Value.str (Str.ofString "=06") 316),(Value.str (Str.ofString "=07") 320),(Value.str (Str.ofString "=08") 324),(Value.str (Str.ofString "=09") 328),(Value.str (Str.ofString "=0A") 332),(Value.str (Str.ofString "=0B") 336),(Value.str (Str.ofString "=0C") 340),(Value.str (Str.ofString "=0D") 344),(Value.str (Str.ofString "=0E") 348),(Value.str (Str.ofString "=0F") 352),(Value.str (Str.ofString "=10") 356),(Value.str (Str.ofString "=11") 360),(Value.str (Str.ofString "=12") 364),(Value.str (Str.ofString "=13") 368),(Value.str (Str.ofString "=14") 372),(Value.str (Str.ofString "=15") 376),(Value.str (Str.ofString "=16") 380),(Value.str (Str.ofString "=17") 384),(Value.str (Str.ofString "=18") 388),(Value.str (Str.ofString "=19") 392),(Value.str (Str.ofString "=1A") 396),(Value.str (Str.ofString "=1B") 400),(Value.str (Str.ofString "=1C") 404),(Value.str (Str.ofString "=1D") 408),(Value.str (Str.ofString "=1E") 412),(Value.str (Str.ofString "=1F") 416),(Value.str (Str.ofString "=20") 420),(Value.str (Str.ofString "=21") 424),(Value.str (Str.ofString "=22") 428),(Value.str (Str.ofString "=23") 432),(Value.str (Str.ofString "=24") 436),(Value.str (Str.ofString "=25") 440),(Value.str (Str.ofString "=26") 444),(Value.str (Str.ofString "=27") 448),(Value.str (Str.ofString "=28") 452),(Value.str (Str.ofString "=29") 456),(Value.str (Str.ofString "=2A") 460),(Value.str (Str.ofString "=2B") 464),(Value.str (Str.ofString "=2C") 468),(Value.str (Str.ofString "=2D") 472),(Value.str (Str.ofString "=2E") 476),(Value.str (Str.ofString "=2F") 480),(Value.str (Str.ofString "=30") 484),(Value.str (Str.ofString "=31") 488),(Value.str (Str.ofString "=32") 492),(Value.str (Str.ofString "=33") 496),(Value.str (Str.ofString "=34") 500),(Value.str (Str.ofString "=35") 504),(Value.str (Str.ofString "=36") 508),(Value.str (Str.ofString "=37") 512),(Value.str (Str.ofString "=38") 516),(Value.str (Str.ofString "=39") 520),(Value.str (Str.ofString "=3A") 524),(Value.str (Str.ofString "=3B") 528),(Value.str (Str.ofString "=3C") 532),(Value.str (Str.ofString "=3D") 536),(Value.str (Str.ofString "=3E") 540),(Value.str (Str.ofString "=3F") 544),(Value.str (Str.ofString "=40") 548),(Value.str (Str.ofString "=41") 552),(Value.str (Str.ofString "=42") 556),(Value.str (Str.ofString "=43") 560),(Value.str (Str.ofString "=44") 564),(Value.str (Str.ofString "=45") 568),(Value.str (Str.ofString "=46") 572),(Value.str (Str.ofString "=47") 576),(Value.str (Str.ofString "=48") 580),(Value.str (Str.ofString "=49") 584),(Value.str (Str.ofString "=4A") 588),(Value.str (Str.ofString "=4B") 592),(Value.str (Str.ofString "=4C") 596),(Value.str (Str.ofString "=4D") 600),(Value.str (Str.ofString "=4E") 604),(Value.str (Str.ofString "=4F") 608),(Value.str (Str.ofString "=50") 612),(Value.str (Str.ofString "=51") 616),(Value.str (Str.ofString "=52") 620),(Value.str (Str.ofString "=53") 624),(Value.str (Str.ofString "=54") 628),(Value.str (Str.ofString "=55") 632),(Value.str (Str.ofString "=56") 636),(Value.str (Str.ofString "=57") 640),(Value.str (Str.ofString "=58") 644),(Value.str (Str.ofString "=59") 648),(Value.str (Str.ofString "=5A") 652),(Value.str (Str.ofString "=5B") 656),(Value.str (Str.ofString "=5C") 660),(Value.str (Str.ofString "=5D") 664),(Value.str (Str.ofString "=5E") 668),(Value.str (Str.ofString "=5F") 672),(Value.str (Str.ofString "=60") 676),(Value.str (Str.ofString "=61") 680),(Value.str (Str.ofString "=62") 684),(Value.str (Str.ofString "=63") 688),(Value.str (Str.ofString "=64") 692),(Value.str (Str.ofString "=65") 696),(Value.str (Str.ofString "=66") 700),(Value.str (Str.ofString "=67") 704),(Value.str (Str.ofString "=68") 708),(Value.str (Str.ofString "=69") 712),(Value.str (Str.ofString "=6A") 716),(Value.str (Str.ofString "=6B") 720),(Value.str (Str.ofString "=6C") 724),(Value.str (Str.ofString "=6D") 728),(Value.str (Str.ofString "=6E") 732),(Value.str (Str.ofString "=6F") 736),(Value.str (Str.ofString "=70") 740),(Value.str (Str.ofString "=71") 744),(Value.str (Str.ofString "=72") 748),(Value.str (Str.ofString "=73") 752),(Value.str (Str.ofString "=74") 756),(Value.str (Str.ofString "=75") 760),(Value.str (Str.ofString "=76") 764),(Value.str (Str.ofString "=77") 768),(Value.str (Str.ofString "=78") 772),(Value.str (Str.ofString "=79") 776),(Value.str (Str.ofString "=7A") 780),(Value.str (Str.ofString "=7B") 784),(Value.str (Str.ofString "=7C") 788),(Value.str (Str.ofString "=7D") 792),(Value.str (Str.ofString "=7E") 796),(Value.str (Str.ofString "=7F") 800),(Value.str (Str.ofString "=80") 804),(Value.str (Str.ofString "=81") 808),(Value.str (Str.ofString "=82") 812),(Value.str (Str.ofString "=83") 816),(Value.str (Str.ofString "=84") 820),(Value.str (Str.ofString "=85") 824),(Value.str (Str.ofString "=86") 828),(Value.str (Str.ofString "=87") 832),(Value.str (Str.ofString "=88") 836),(Value.str (Str.ofString "=89") 840),(Value.str (Str.ofString "=8A") 844),(Value.str (Str.ofString "=8B") 848),(Value.str (Str.ofString "=8C") 852),(Value.str (Str.ofString "=8D") 856),(Value.str (Str.ofString "=8E") 860),(Value.str (Str.ofString "=8F") 864),(Value.str (Str.ofString "=90") 868),(Value.str (Str.ofString "=91") 872),(Value.str (Str.ofString "=92") 876),(Value.str (Str.ofString "=93") 880),(Value.str (Str.ofString "=94") 884),(Value.str (Str.ofString "=95") 888),(Value.str (Str.ofString "=96") 892),(Value.str (Str.ofString "=97") 896),(Value.str (Str.ofString "=98") 900),(Value.str (Str.ofString "=99") 904),(Value.str (Str.ofString "=9A") 908),(Value.str (Str.ofString "=9B") 912),(Value.str (Str.ofString "=9C") 916),(Value.str (Str.ofString "=9D") 920),(Value.str (Str.ofString "=9E") 924),(Value.str (Str.ofString "=9F") 928),(Value.str (Str.ofString "=A0") 932),(Value.str (Str.ofString "=A1") 936),(Value.str (Str.ofString "=A2") 940),(Value.str (Str.ofString "=A3") 944),(Value.str (Str.ofString "=A4") 948),(Value.str (Str.ofString "=A5") 952),(Value.str (Str.ofString "=A6") 956),(Value.str (Str.ofString "=A7") 960),(Value.str (Str.ofString "=A8") 964),(Value.str (Str.ofString "=A9") 968),(Value.str (Str.ofString "=AA") 972),(Value.str (Str.ofString "=AB") 976),(Value.str (Str.ofString "=AC") 980),(Value.str (Str.ofString "=AD") 984),(Value.str (Str.ofString "=AE") 988),(Value.str (Str.ofString "=AF") 992),(Value.str (Str.ofString "=B0") 996),(Value.str (Str.ofString "=B1") 1000),(Value.str (Str.ofString "=B2") 1004),(Value.str (Str.ofString "=B3") 1008),(Value.str (Str.ofString "=B4") 1012),(Value.str (Str.ofString "=B5") 1016),(Value.str (Str.ofString "=B6") 1020),(Value.str (Str.ofString "=B7") 1024),(Value.str (Str.ofString "=B8") 1028),(Value.str (Str.ofString "=B9") 1032),(Value.str (Str.ofString "=BA") 1036),(Value.str (Str.ofString "=BB") 1040),(Value.str (Str.ofString "=BC") 1044),(Value.str (Str.ofString "=BD") 1048),(Value.str (Str.ofString "=BE") 1052),(Value.str (Str.ofString "=BF") 1056),(Value.str (Str.ofString "=C0") 1060),(Value.str (Str.ofString "=C1") 1064),(Value.str (Str.ofString "=C2") 1068),(Value.str (Str.ofString "=C3") 1072),(Value.str (Str.ofString "=C4") 1076),(Value.str (Str.ofString "=C5") 1080),(Value.str (Str.ofString "=C6") 1084),(Value.str (Str.ofString "=C7") 1088),(Value.str (Str.ofString "=C8") 1092),(Value.str (Str.ofString "=C9") 1096),(Value.str (Str.ofString "=CA") 1100),(Value.str (Str.ofString "=CB") 1104),(Value.str (Str.ofString "=CC") 1108),(Value.str (Str.ofString "=CD") 1112),(Value.str (Str.ofString "=CE") 1116),(Value.str (Str.ofString "=CF") 1120),(Value.str (Str.ofString "=D0") 1124),(Value.str (Str.ofString "=D1") 1128),(Value.str (Str.ofString "=D2") 1132),(Value.str (Str.ofString "=D3") 1136),(Value.str (Str.ofString "=D4") 1140),(Value.str (Str.ofString "=D5") 1144),(Value.str (Str.ofString "=D6") 1148),(Value.str (Str.ofString "=D7") 1152),(Value.str (Str.ofString "=D8") 1156),(Value.str (Str.ofString "=D9") 1160),(Value.str (Str.ofString "=DA") 1164),(Value.str (Str.ofString "=DB") 1168),(Value.str (Str.ofString "=DC") 1172),(Value.str (Str.ofString "=DD") 1176),(Value.str (Str.ofString "=DE") 1180),(Value.str (Str.ofString "=DF") 1184),(Value.str (Str.ofString "=E0") 1188),(Value.str (Str.ofString "=E1") 1192),(Value.str (Str.ofString "=E2") 1196),(Value.str (Str.ofString "=E3") 1200),(Value.str (Str.ofString "=E4") 1204),(Value.str (Str.ofString "=E5") 1208),(Value.str (Str.ofString "=E6") 1212),(Value.str (Str.ofString "=E7") 1216),(Value.str (Str.ofString "=E8") 1220),(Value.str (Str.ofString "=E9") 1224),(Value.str (Str.ofString "=EA") 1228),(Value.str (Str.ofString "=EB") 1232),(Value.str (Str.ofString "=EC") 1236),(Value.str (Str.ofString "=ED") 1240),(Value.str (Str.ofString "=EE") 1244),(Value.str (Str.ofString "=EF") 1248),(Value.str (Str.ofString "=F0") 1252),(Value.str (Str.ofString "=F1") 1256),(Value.str (Str.ofString "=F2") 1260),(Value.str (Str.ofString "=F3") 1264),(Value.str (Str.ofString "=F4") 1268),(Value.str (Str.ofString "=F5") 1272),(Value.str (Str.ofString "=F6") 1276),(Value.str (Str.ofString "=F7") 1280),(Value.str (Str.ofString "=F8") 1284),(Value.str (Str.ofString "=F9") 1288),(Value.str (Str.ofString "=FA") 1292),(Value.str (Str.ofString "=FB") 1296),(Value.str (Str.ofString "=FC") 1300),(Value.str (Str.ofString "=FD") 1304),(Value.str (Str.ofString "=FE") 1308),(Value.str (Str.ofString "=FF") 1312)]⟩ 256),⟨[]⟩⟩⟩ ::
  ⟨nat_lit 39,⟨(Value.type "list"),Option.none,(Data.seq ⟨[(Value.str (Str.ofString "=00") 292),(Value.str (Str.ofString "=01") 296),(Value.str (Str.ofString "=02") 300),(Value.str (Str.ofString "=03") 304),(Value.str (Str.ofString "=04") 308),(Value.str (Str.ofString "=05") 312),(Value.str (Str.ofString "=06") 316),(Value.str (Str.ofString "=07") 320),(Value.str (Str.ofString "=08") 324),(Value.str (Str.ofString "=09") 328),(Value.str (Str.ofString "=0A") 332),(Value.str (Str.ofString "=0B") 336),(Value.str (Str.ofString "=0C") 340),(Value.str (Str.ofString "=0D") 344),(Value.str (Str.ofString "=0E") 348),(Value.str (Str.ofString "=0F") 352),(Value.str (Str.ofString "=10") 356),(Value.str (Str.ofString "=11") 360),(Value.str (Str.ofString "=12") 364),(Value.str (Str.ofString "=13") 368),(Value.str (Str.ofString "=14") 372),(Value.str (Str.ofString "=15") 376),(Value.str (Str.ofString "=16") 380),(Value.str (Str.ofString "=17") 384),(Value.str (Str.ofString "=18") 388),(Value.str (Str.ofString "=19") 392),(Value.str (Str.ofString "=1A") 396),(Value.str (Str.ofString "=1B") 400),(Value.str (Str.ofString "=1C") 404),(Value.str (Str.ofString "=1D") 408),(Value.str (Str.ofString "=1E") 412),(Value.str (Str.ofString "=1F") 416),(Value.str (Str.ofString "_") 1539),(Value.str (Str.ofString "!") 1343),(Value.str (Str.ofString "=22") 428),(Value.str (Str.ofString "=23") 432),(Value.str (Str.ofString "=24") 436),(Value.str (Str.ofString "=25") 440),(Value.str (Str.ofString "=26") 444),(Value.str (Str.ofString "=27") 448),(Value.str (Str.ofString "=28") 452),(Value.str (Str.ofString "=29") 456),(Value.str (Str.ofString "*") 1346),(Value.str (Str.ofString "+") 1349),(Value.str (Str.ofString "=2C") 468),(Value.str (Str.ofString "-") 1340),(Value.str (Str.ofString "=2E") 476),(Value.str (Str.ofString "/") 1352),(Value.str (Str.ofString "0") 1511),(Value.str (Str.ofString "1") 1514),(Value.str (Str.ofString "2") 1517),(Value.str (Str.ofString "3") 1520),(Value.str (Str.ofString "4") 1523),(Value.str (Str.ofString "5") 1526),(Value.str (Str.ofString "6") 1529),(Value.str (Str.ofString "7") 1532),(Value.str (Str.ofString "8") 1535),(Value.str (Str.ofString "9") 1538),(Value.str (Str.ofString "=3A") 524),(Value.str (Str.ofString "=3B") 528),(Value.str (Str.ofString "=3C") 532),(Value.str (Str.ofString "=3D") 536),(Value.str (Str.ofString "=3E") 540),(Value.str (Str.ofString "=3F") 544),(Value.str (Str.ofString "=40") 548),(Value.str (Str.ofString "A") 1433),(Value.str (Str.ofString "B") 1436),(Value.str (Str.ofString "C") 1439),(Value.str (Str.ofString "D") 1442),(Value.str (Str.ofString "E") 1445),(Value.str (Str.ofString "F") 1448),(Value.str (Str.ofString "G") 1451),(Value.str (Str.ofString "H") 1454),(Value.str (Str.ofString "I") 1457),(Value.str (Str.ofString "J") 1460),(Value.str (Str.ofString "K") 1463),(Value.str (Str.ofString "L") 1466),(Value.str (Str.ofString "M") 1469),(Value.str (Str.ofString "N") 1472),(Value.str (Str.ofString "O") 1475),(Value.str (Str.ofString "P") 1478),(Value.str (Str.ofString "Q") 1481),(Value.str (Str.ofString "R") 1484),(Value.str (Str.ofString "S") 1487),(Value.str (Str.ofString "T") 1490),(Value.str (Str.ofString "U") 1493),(Value.str (Str.ofString "V") 1496),(Value.str (Str.ofString "W") 1499),(Value.str (Str.ofString "X") 1502),(Value.str (Str.ofString "Y") 1505),(Value.str (Str.ofString "Z") 1508),(Value.str (Str.ofString "=5B") 656),(Value.str (Str.ofString "=5C") 660),(Value.str (Str.ofString "=5D") 664),(Value.str (Str.ofString "=5E") 668),(Value.str (Str.ofString "=5F") 672),(Value.str (Str.ofString "=60") 676),(Value.str (Str.ofString "a") 1355),(Value.str (Str.ofString "b") 1358),(Value.str (Str.ofString "c") 1361),(Value.str (Str.ofString "d") 1364),(Value.str (Str.ofString "e") 1367),(Value.str (Str.ofString "f") 1370),(Value.str (Str.ofString "g") 1373),(Value.str (Str.ofString "h") 1376),(Value.str (Str.ofString "i") 1379),(Value.str (Str.ofString "j") 1382),(Value.str (Str.ofString "k") 1385),(Value.str (Str.ofString "l") 1388),(Value.str (Str.ofString "m") 1391),(Value.str (Str.ofString "n") 1394),(Value.str (Str.ofString "o") 1397),(Value.str (Str.ofString "p") 1400),(Value.str (Str.ofString "q") 1403),(Value.str (Str.ofString "r") 1406),(Value.str (Str.ofString "s") 1409),(Value.str (Str.ofString "t") 1412),(Value.str (Str.ofString "u") 1415),(Value.str (Str.ofString "v") 1418),(Value.str (Str.ofString "w") 1421),(Value.str (Str.ofString "x") 1424),(Value.str (Str.ofString "y") 1427),(Value.str (Str.ofString "z") 1430),(Value.str (Str.ofString "=7B") 784),(Value.str (Str.ofString "=7C") 788),(Value.str (Str.ofString "=7D") 792),(Value.str (Str.ofString "=7E") 796),(Value.str (Str.ofString "=7F") 800),(Value.str (Str.ofString "=80") 804),(Value.str (Str.ofString "=81") 808),(Value.str (Str.ofString "=82") 812),(Value.str (Str.ofString "=83") 816),(Value.str (Str.ofString "=84") 820),(Value.str (Str.ofString "=85") 824),(Value.str (Str.ofString "=86") 828),(Value.str (Str.ofString "=87") 832),(Value.str (Str.ofString "=88") 836),(Value.str (Str.ofString "=89") 840),(Value.str (Str.ofString "=8A") 844),(Value.str (Str.ofString "=8B") 848),(Value.str (Str.ofString "=8C") 852),(Value.str (Str.ofString "=8D") 856),(Value.str (Str.ofString "=8E") 860),(Value.str (Str.ofString "=8F") 864),(Value.str (Str.ofString "=90") 868),(Value.str (Str.ofString "=91") 872),(Value.str (Str.ofString "=92") 876),(Value.str (Str.ofString "=93") 880),(Value.str (Str.ofString "=94") 884),(Value.str (Str.ofString "=95") 888),(Value.str (Str.ofString "=96") 892),(Value.str (Str.ofString "=97") 896),(Value.str (Str.ofString "=98") 900),(Value.str (Str.ofString "=99") 904),(Value.str (Str.ofString "=9A") 908),(Value.str (Str.ofString "=9B") 912),(Value.str (Str.ofString "=9C") 916),(Value.str (Str.ofString "=9D") 920),(Value.str (Str.ofString "=9E") 924),(Value.str (Str.ofString "=9F") 928),(Value.str (Str.ofString "=A0") 932),(Value.str (Str.ofString "=A1") 936),(Value.str (Str.ofString "=A2") 940),(Value.str (Str.ofString "=A3") 944),(Value.str (Str.ofString "=A4") 948),(Value.str (Str.ofString "=A5") 952),(Value.str (Str.ofString "=A6") 956),(Value.str (Str.ofString "=A7") 960),(Value.str (Str.ofString "=A8") 964),(Value.str (Str.ofString "=A9") 968),(Value.str (Str.ofString "=AA") 972),(Value.str (Str.ofString "=AB") 976),(Value.str (Str.ofString "=AC") 980),(Value.str (Str.ofString "=AD") 984),(Value.str (Str.ofString "=AE") 988),(Value.str (Str.ofString "=AF") 992),(Value.str (Str.ofString "=B0") 996),(Value.str (Str.ofString "=B1") 1000),(Value.str (Str.ofString "=B2") 1004),(Value.str (Str.ofString "=B3") 1008),(Value.str (Str.ofString "=B4") 1012),(Value.str (Str.ofString "=B5") 1016),(Value.str (Str.ofString "=B6") 1020),(Value.str (Str.ofString "=B7") 1024),(Value.str (Str.ofString "=B8") 1028),(Value.str (Str.ofString "=B9") 1032),(Value.str (Str.ofString "=BA") 1036),(Value.str (Str.ofString "=BB") 1040),(Value.str (Str.ofString "=BC") 1044),(Value.str (Str.ofString "=BD") 1048),(Value.str (Str.ofString "=BE") 1052),(Value.str (Str.ofString "=BF") 1056),(Value.str (Str.ofString "=C0") 1060),(Value.str (Str.ofString "=C1") 1064),(Value.str (Str.ofString "=C2") 1068),(Value.str (Str.ofString "=C3") 1072),(Value.str (Str.ofString "=C4") 1076),(Value.str (Str.ofString "=C5") 1080),(Value.str (Str.ofString "=C6") 1084),(Value.str (Str.ofString "=C7") 1088),(Value.str (Str.ofString "=C8") 1092),(Value.str (Str.ofString "=C9") 1096),(Value.str (Str.ofString "=CA") 1100),(Value.str (Str.ofString "=CB") 1104),(Value.str (Str.ofString "=CC") 1108),(Value.str (Str.ofString "=CD") 1112),(Value.str (Str.ofString "=CE") 1116),(Value.str (Str.ofString "=CF") 1120),(Value.str (Str.ofString "=D0") 1124),(Value.str (Str.ofString "=D1") 1128),(Value.str (Str.ofString "=D2") 1132),(Value.str (Str.ofString "=D3") 1136),(Value.str (Str.ofString "=D4") 1140),(Value.str (Str.ofString "=D5") 1144),(Value.str (Str.ofString "=D6") 1148),(Value.str (Str.ofString "=D7") 1152),(Value.str (Str.ofString "=D8") 1156),(Value.str (Str.ofString "=D9") 1160),(Value.str (Str.ofString "=DA") 1164),(Value.str (Str.ofString "=DB") 1168),(Value.str (Str.ofString "=DC") 1172),(Value.str (Str.ofString "=DD") 1176),(Value.str (Str.ofString "=DE") 1180),(Value.str (Str.ofString "=DF") 1184),(Value.str (Str.ofString "=E0") 1188),(Value.str (Str.ofString "=E1") 1192),(Value.str (Str.ofString "=E2") 1196),(Value.str (Str.ofString "=E3") 1200),(Value.str (Str.ofString "=E4") 1204),(Value.str (Str.ofString "=E5") 1208),(Value.str (Str.ofString "=E6") 1212),(Value.str (Str.ofString "=E7") 1216),(Value.str (Str.ofString "=E8") 1220),(Value.str (Str.ofString "=E9") 1224),(Value.str (Str.ofString "=EA") 1228),(Value.str (Str.ofString "=EB") 1232),(Value.str (Str.ofString "=EC") 1236),(Value.str (Str.ofString "=ED") 1240),(Value.str (Str.ofString "=EE") 1244),(Value.str (Str.ofString "=EF") 1248),(Value.str (Str.ofString "=F0") 1252),(Value.str (Str.ofString "=F1") 1256),(Value.str (Str.ofString "=F2") 1260),(Value.str (Str.ofString "=F3") 1264),(Value.str (Str.ofString "=F4") 1268),(Value.str (Str.ofString "=F5") 1272),(Value.str (Str.ofString "=F6") 1276),(Value.str (Str.ofString "=F7") 1280),(Value.str (Str.ofString "=F8") 1284),(Value.str (Str.ofString "=F9") 1288),(Value.str (Str.ofString "=FA") 1292),(Value.str (Str.ofString "=FB") 1296),(Value.str (Str.ofString "=FC") 1300),(Value.str (Str.ofString "=FD") 1304),(Value.str (Str.ofString "=FE") 1308),(Value.str (Str.ofString "=FF") 1312)]⟩ 0),⟨[]⟩⟩⟩ ::
  ⟨nat_lit 41,⟨(Value.type "list"),Option.none,(Data.seq ⟨[(Value.str (Str.ofString "=00") 292),(Value.str (Str.ofString "=01") 296),(Value.str (Str.ofString "=02") 300),(Value.str (Str.ofString "=03") 304),(Value.str (Str.ofString "=04") 308),(Value.str (Str.ofString "=05") 312),(Value.str (Str.ofString "=06") 316),(Value.str (Str.ofString "=07") 320),(Value.str (Str.ofString "=08") 324),(Value.str (Str.ofString "\t") 1827),(Value.str (Str.ofString "=0A") 332),(Value.str (Str.ofString "=0B") 336),(Value.str (Str.ofString "=0C") 340),(Value.str (Str.ofString "=0D") 344),(Value.str (Str.ofString "=0E") 348),(Value.str (Str.ofString "=0F") 352),(Value.str (Str.ofString "=10") 356),(Value.str (Str.ofString "=11") 360),(Value.str (Str.ofString "=12") 364),(Value.str (Str.ofString "=13") 368),(Value.str (Str.ofString "=14") 372),(Value.str (Str.ofString "=15") 376),(Value.str (Str.ofString "=16") 380),(Value.str (Str.ofString "=17") 384),(Value.str (Str.ofString "=18") 388),(Value.str (Str.ofString "=19") 392),(Value.str (Str.ofString "=1A") 396),(Value.str (Str.ofString "=1B") 400),(Value.str (Str.ofString "=1C") 404),(Value.str (Str.ofString "=1D") 408),(Value.str (Str.ofString "=1E") 412),(Value.str (Str.ofString "=1F") 416),(Value.str (Str.ofString " ") 1545),(Value.str (Str.ofString "!") 1548),(Value.str (Str.ofString "\"") 1551),(Value.str (Str.ofString "#") 1554),(Value.str (Str.ofString "$") 1557),(Value.str (Str.ofString "%") 1560),(Value.str (Str.ofString "&") 1563),(Value.str (Str.ofString "'") 1566),(Value.str (Str.ofString "(") 1569),(Value.str (Str.ofString ")") 1572),(Value.str (Str.ofString "*") 1575),(Value.str (Str.ofString "+") 1578),(Value.str (Str.ofString ",") 1581),(Value.str (Str.ofString "-") 1584),(Value.str (Str.ofString ".") 1587),(Value.str (Str.ofString "/") 1590),(Value.str (Str.ofString "0") 1593),(Value.str (Str.ofString "1") 1596),(Value.str (Str.ofString "2") 1599),(Value.str (Str.ofString "3") 1602),(Value.str (Str.ofString "4") 1605),(Value.str (Str.ofString "5") 1608),(Value.str (Str.ofString "6") 1611),(Value.str (Str.ofString "7") 1614),(Value.str (Str.ofString "8") 1617),(Value.str (Str.ofString "9") 1620),(Value.str (Str.ofString ":") 1623),(Value.str (Str.ofString ";") 1626),(Value.str (Str.ofString "<") 1629),(Value.str (Str.ofString "=3D") 536),(Value.str (Str.ofString ">") 1632),(Value.str (Str.ofString "?") 1635),(Value.str (Str.ofString "@") 1638),(Value.str (Str.ofString "A") 1641),(Value.str (Str.ofString "B") 1644),(Value.str (Str.ofString "C") 1647),(Value.str (Str.ofString "D") 1650),(Value.str (Str.ofString "E") 1653),(Value.str (Str.ofString "F") 1656),(Value.str (Str.ofString "G") 1659),(Value.str (Str.ofString "H") 1662),(Value.str (Str.ofString "I") 1665),(Value.str (Str.ofString "J") 1668),(Value.str (Str.ofString "K") 1671),(Value.str (Str.ofString "L") 1674),(Value.str (Str.ofString "M") 1677),(Value.str (Str.ofString "N") 1680),(Value.str (Str.ofString "O") 1683),(Value.str (Str.ofString "P") 1686),(Value.str (Str.ofString "Q") 1689),(Value.str (Str.ofString "R") 1692),(Value.str (Str.ofString "S") 1695),(Value.str (Str.ofString "T") 1698),(Value.str (Str.ofString "U") 1701),(Value.str (Str.ofString "V") 1704),(Value.str (Str.ofString "W") 1707),(Value.str (Str.ofString "X") 1710),(Value.str (Str.ofString "Y") 1713),(Value.str (Str.ofString "Z") 1716),(Value.str (Str.ofString "[") 1719),(Value.str (Str.ofString "\\") 1722),(Value.str (Str.ofString "]") 1725),(Value.str (Str.ofString "^") 1728),(Value.str (Str.ofString "_") 1731),(Value.str (Str.ofString "`") 1734),(Value.str (Str.ofString "a") 1737),(Value.str (Str.ofString "b") 1740),(Value.str (Str.ofString "c") 1743),(Value.str (Str.ofString "d") 1746),(Value.str (Str.ofString "e") 1749),(Value.str (Str.ofString "f") 1752),(Value.str (Str.ofString "g") 1755),(Value.str (Str.ofString "h") 1758),(Value.str (Str.ofString "i") 1761),(Value.str (Str.ofString "j") 1764),(Value.str (Str.ofString "k") 1767),(Value.str (Str.ofString "l") 1770),(Value.str (Str.ofString "m") 1773),(Value.str (Str.ofString "n") 1776),(Value.str (Str.ofString "o") 1779),(Value.str (Str.ofString "p") 1782),(Value.str (Str.ofString "q") 1785),(Value.str (Str.ofString "r") 1788),(Value.str (Str.ofString "s") 1791),(Value.str (Str.ofString "t") 1794),(Value.str (Str.ofString "u") 1797),(Value.str (Str.ofString "v") 1800),(Value.str (Str.ofString "w") 1803),(Value.str (Str.ofString "x") 1806),(Value.str (Str.ofString "y") 1809),(Value.str (Str.ofString "z") 1812),(Value.str (Str.ofString "{") 1815),(Value.str (Str.ofString "|") 1818),(Value.str (Str.ofString "}") 1821),(Value.str (Str.ofString "~") 1824),(Value.str (Str.ofString "=7F") 800),(Value.str (Str.ofString "=80") 804),(Value.str (Str.ofString "=81") 808),(Value.str (Str.ofString "=82") 812),(Value.str (Str.ofString "=83") 816),(Value.str (Str.ofString "=84") 820),(Value.str (Str.ofString "=85") 824),(Value.str (Str.ofString "=86") 828),(Value.str (Str.ofString "=87") 832),(Value.str (Str.ofString "=88") 836),(Value.str (Str.ofString "=89") 840),(Value.str (Str.ofString "=8A") 844),(Value.str (Str.ofString "=8B") 848),(Value.str (Str.ofString "=8C") 852),(Value.str (Str.ofString "=8D") 856),(Value.str (Str.ofString "=8E") 860),(Value.str (Str.ofString "=8F") 864),(Value.str (Str.ofString "=90") 868),(Value.str (Str.ofString "=91") 872),(Value.str (Str.ofString "=92") 876),(Value.str (Str.ofString "=93") 880),(Value.str (Str.ofString "=94") 884),(Value.str (Str.ofString "=95") 888),(Value.str (Str.ofString "=96") 892),(Value.str (Str.ofString "=97") 896),(Value.str (Str.ofString "=98") 900),(Value.str (Str.ofString "=99") 904),(Value.str (Str.ofString "=9A") 908),(Value.str (Str.ofString "=9B") 912),(Value.str (Str.ofString "=9C") 916),(Value.str (Str.ofString "=9D") 920),(Value.str (Str.ofString "=9E") 924),(Value.str (Str.ofString "=9F") 928),(Value.str (Str.ofString "=A0") 932),(Value.str (Str.ofString "=A1") 936),(Value.str (Str.ofString "=A2") 940),(Value.str (Str.ofString "=A3") 944),(Value.str (Str.ofString "=A4") 948),(Value.str (Str.ofString "=A5") 952),(Value.str (Str.ofString "=A6") 956),(Value.str (Str.ofString "=A7") 960),(Value.str (Str.ofString "=A8") 964),(Value.str (Str.ofString "=A9") 968),(Value.str (Str.ofString "=AA") 972),(Value.str (Str.ofString "=AB") 976),(Value.str (Str.ofString "=AC") 980),(Value.str (Str.ofString "=AD") 984),(Value.str (Str.ofString "=AE") 988),(Value.str (Str.ofString "=AF") 992),(Value.str (Str.ofString "=B0") 996),(Value.str (Str.ofString "=B1") 1000),(Value.str (Str.ofString "=B2") 1004),(Value.str (Str.ofString "=B3") 1008),(Value.str (Str.ofString "=B4") 1012),(Value.str (Str.ofString "=B5") 1016),(Value.str (Str.ofString "=B6") 1020),(Value.str (Str.ofString "=B7") 1024),(Value.str (Str.ofString "=B8") 1028),(Value.str (Str.ofString "=B9") 1032),(Value.str (Str.ofString "=BA") 1036),(Value.str (Str.ofString "=BB") 1040),(Value.str (Str.ofString "=BC") 1044),(Value.str (Str.ofString "=BD") 1048),(Value.str (Str.ofString "=BE") 1052),(Value.str (Str.ofString "=BF") 1056),(Value.str (Str.ofString "=C0") 1060),(Value.str (Str.ofString "=C1") 1064),(Value.str (Str.ofString "=C2") 1068),(Value.str (Str.ofString "=C3") 1072),(Value.str (Str.ofString "=C4") 1076),(Value.str (Str.ofString "=C5") 1080),(Value.str (Str.ofString "=C6") 1084),(Value.str (Str.ofString "=C7") 1088),(Value.str (Str.ofString "=C8") 1092),(Value.str (Str.ofString "=C9") 1096),(Value.str (Str.ofString "=CA") 1100),(Value.str (Str.ofString "=CB") 1104),(Value.str (Str.ofString "=CC") 1108),(Value.str (Str.ofString "=CD") 1112),(Value.str (Str.ofString "=CE") 1116),(Value.str (Str.ofString "=CF") 1120),(Value.str (Str.ofString "=D0") 1124),(Value.str (Str.ofString "=D1") 1128),(Value.str (Str.ofString "=D2") 1132),(Value.str (Str.ofString "=D3") 1136),(Value.str (Str.ofString "=D4") 1140),(Value.str (Str.ofString "=D5") 1144),(Value.str (Str.ofString "=D6") 1148),(Value.str (Str.ofString "=D7") 1152),(Value.str (Str.ofString "=D8") 1156),(Value.str (Str.ofString "=D9") 1160),(Value.str (Str.ofString "=DA") 1164),(Value.str (Str.ofString "=DB") 1168),(Value.str (Str.ofString "=DC") 1172),(Value.str (Str.ofString "=DD") 1176),(Value.str (Str.ofString "=DE") 1180),(Value.str (Str.ofString "=DF") 1184),(Value.str (Str.ofString "=E0") 1188),(Value.str (Str.ofString "=E1") 1192),(Value.str (Str.ofString "=E2") 1196),(Value.str (Str.ofString "=E3") 1200),(Value.str (Str.ofString "=E4") 1204),(Value.str (Str.ofString "=E5") 1208),(Value.str (Str.ofString "=E6") 1212),(Value.str (Str.ofString "=E7") 1216),(Value.str (Str.ofString "=E8") 1220),(Value.str (Str.ofString "=E9") 1224),(Value.str (Str.ofString "=EA") 1228),(Value.str (Str.ofString "=EB") 1232),(Value.str (Str.ofString "=EC") 1236),(Value.str (Str.ofString "=ED") 1240),(Value.str (Str.ofString "=EE") 1244),(Value.str (Str.ofString "=EF") 1248),(Value.str (Str.ofString "=F0") 1252),(Value.str (Str.ofString "=F1") 1256),(Value.str (Str.ofString "=F2") 1260),(Value.str (Str.ofString "=F3") 1264),(Value.str (Str.ofString "=F4") 1268),(Value.str (Str.ofString "=F5") 1272),(Value.str (Str.ofString "=F6") 1276),(Value.str (Str.ofString "=F7") 1280),(Value.str (Str.ofString "=F8") 1284),(Value.str (Str.ofString "=F9") 1288),(Value.str (Str.ofString "=FA") 1292),(Value.str (Str.ofString "=FB") 1296),(Value.str (Str.ofString "=FC") 1300),(Value.str (Str.ofString "=FD") 1304),(Value.str (Str.ofString "=FE") 1308),(Value.str (Str.ofString "=FF") 1312)]⟩ 0),⟨[]⟩⟩⟩ ::
  ⟨nat_lit 48,⟨(Value.type "tuple"),Option.none,(Data.seq ⟨[]⟩ 0),⟨[]⟩⟩⟩ ::
  ⟨nat_lit 50,⟨(Value.type "tuple"),Option.none,(Data.seq ⟨[(Value.str (Str.ofString "s") 1831)]⟩ 0),⟨[]⟩⟩⟩ ::
  ⟨nat_lit 51,⟨(Value.type "tuple"),Option.none,(Data.seq ⟨[]⟩ 0),⟨[]⟩⟩⟩ ::
  ⟨nat_lit 53,⟨(Value.type "code"),Option.none,(Data.fields ⟨[(Value.str (Str.ofString "unquote") 1828),(Value.str (Str.ofString "unquote") 1829),(Value.str (Str.ofString "/claim/cut.py") 1830),(Value.int 18 0),(Value.int 1 0),(Value.int 0 0),(Value.int 0 0),(Value.int 3 0),(Value.ref 48),(Value.bool Bool.true),(Value.int 276 0),(Value.ref 49),Value.none,(Value.ref 50),(Value.ref 51),(Value.ref 52),(Value.int 1832 0),(Value.int 18 0),(Value.str (Str.ofString "/claim/cut.py") 1833)]⟩),⟨[]⟩⟩⟩ ::
  ⟨nat_lit 54,⟨(Value.type "function"),Option.none,(Data.func ⟨(Str.ofString "unquote"),(Str.ofString "unquote"),(fP 14),(FuncBody.stmts (fB 14)),(fS 14),3,[],Value.none,Value.none,Value.none,(Value.str (Str.ofString "cpy313.email.quoprimime") 1329),Option.none,(Value.ref 53),Value.none,0⟩),⟨[]⟩⟩⟩ ::
  ⟨nat_lit 55,⟨(Value.type "tuple"),Option.none,(Data.seq ⟨[]⟩ 0),⟨[]⟩⟩⟩ ::
  ⟨nat_lit 57,⟨(Value.type "tuple"),Option.none,(Data.seq ⟨[(Value.str (Str.ofString "c") 1838)]⟩ 0),⟨[]⟩⟩⟩ ::
  ⟨nat_lit 58,⟨(Value.type "tuple"),Option.none,(Data.seq ⟨[]⟩ 0),⟨[]⟩⟩⟩ ::
  ⟨nat_lit 60,⟨(Value.type "code"),Option.none,(Data.fields ⟨[(Value.str (Str.ofString "quote") 1835),(Value.str (Str.ofString "quote") 1836),(Value.str (Str.ofString "/claim/cut.py") 1837),(Value.int 20 0),(Value.int 1 0),(Value.int 0 0),(Value.int 0 0),(Value.int 3 0),(Value.ref 55),(Value.bool Bool.true),(Value.int 276 0),(Value.ref 56),Value.none,(Value.ref 57),(Value.ref 58),(Value.ref 59),(Value.int 1839 0),(Value.int 20 0),(Value.str (Str.ofString "/claim/cut.py") 1840)]⟩),⟨[]⟩⟩⟩ ::
  ⟨nat_lit 61,⟨(Value.type "function"),Option.none,(Data.func ⟨(Str.ofString "quote"),(Str.ofString "quote"),(fP 15),(FuncBody.stmts (fB 15)),(fS 15),3,[],Value.none,Value.none,Value.none,(Value.str (Str.ofString "cpy313.email.quoprimime") 1329),Option.none,(Value.ref 60),Value.none,0⟩),⟨[]⟩⟩⟩ ::
  ⟨nat_lit 63,⟨(Value.type "list"),Option.none,(Data.seq ⟨[(Value.str (Str.ofString "=00") 292),(Value.str (Str.ofString "=01") 296),(Value.str (Str.ofString "=02") 300),(Value.str (Str.ofString "=03") 304),(Value.str (Str.ofString "=04") 308),(Value.str (Str.ofString "=05") 312),(Value.str (Str.ofString "=06") 316),(Value.str (Str.ofString "=07") 320),(Value.str (Str.ofString "=08") 324),(Value.str (Str.ofString "\t") 1827),(Value.str (Str.ofString "\n") 1849),(Value.str (Str.ofString "=0B") 336),(Value.str (Str.ofString "=0C") 340),(Value.str (Str.ofString "\x0d") 1846),(Value.str (Str.ofString "=0E") 348),(Value.str (Str.ofString "=0F") 352),(Value.str (Str.ofString "=10") 356),(Value.str (Str.ofString "=11") 360),(Value.str (Str.ofString "=12") 364),(Value.str (Str.ofString "=13") 368),(Value.str (Str.ofString "=14") 372),(Value.str (Str.ofString "=15") 376),(Value.str (Str.ofString "=16") 380),(Value.str (Str.ofString "=17") 384),(Value.str (Str.ofString "=18") 388),(Value.str (Str.ofString "=19") 392),(Value.str (Str.ofString "=1A") 396),(Value.str (Str.ofString "=1B") 400),(Value.str (Str.ofString "=1C") 404),(Value.str (Str.ofString "=1D") 408),(Value.str (Str.ofString "=1E") 412),(Value.str (Str.ofString "=1F") 416),(Value.str (Str.ofString " ") 1545),(Value.str (Str.ofString "!") 1548),(Value.str (Str.ofString "\"") 1551),(Value.str (Str.ofString "#") 1554),(Value.str (Str.ofString "$") 1557),(Value.str (Str.ofString "%") 1560),(Value.str (Str.ofString "&") 1563),(Value.str (Str.ofString "'") 1566),(Value.str (Str.ofString "(") 1569),(Value.str (Str.ofString ")") 1572),(Value.str (Str.ofString "*") 1575),(Value.str (Str.ofString "+") 1578),(Value.str (Str.ofString ",") 1581),(Value.str (Str.ofString "-") 1584),(Value.str (Str.ofString ".") 1587),(Value.str (Str.ofString "/") 1590),(Value.str (Str.ofString "0") 1593),(Value.str (Str.ofString "1") 1596),(Value.str (Str.ofString "2") 1599),(Value.str (Str.ofString "3") 1602),(Value.str (Str.ofString "4") 1605),(Value.str (Str.ofString "5") 1608),(Value.str (Str.ofString "6") 1611),(Value.str (Str.ofString "7") 1614),(Value.str (Str.ofString "8") 1617),(Value.str (Str.ofString "9") 1620),(Value.str (Str.ofString ":") 1623),(Value.str (Str.ofString ";") 1626),(Value.str (Str.ofString "<") 1629),(Value.str (Str.ofString "=3D") 536),(Value.str (Str.ofString ">") 1632),(Value.str (Str.ofString "?") 1635),(Value.str (Str.ofString "@") 1638),(Value.str (Str.ofString "A") 1641),(Value.str (Str.ofString "B") 1644),(Value.str (Str.ofString "C") 1647),(Value.str (Str.ofString "D") 1650),(Value.str (Str.ofString "E") 1653),(Value.str (Str.ofString "F") 1656),(Value.str (Str.ofString "G") 1659),(Value.str (Str.ofString "H") 1662),(Value.str (Str.ofString "I") 1665),(Value.str (Str.ofString "J") 1668),(Value.str (Str.ofString "K") 1671),(Value.str (Str.ofString "L") 1674),(Value.str (Str.ofString "M") 1677),(Value.str (Str.ofString "N") 1680),(Value.str (Str.ofString "O") 1683),(Value.str (Str.ofString "P") 1686),(Value.str (Str.ofString "Q") 1689),(Value.str (Str.ofString "R") 1692),(Value.str (Str.ofString "S") 1695),(Value.str (Str.ofString "T") 1698),(Value.str (Str.ofString "U") 1701),(Value.str (Str.ofString "V") 1704),(Value.str (Str.ofString "W") 1707),(Value.str (Str.ofString "X") 1710),(Value.str (Str.ofString "Y") 1713),(Value.str (Str.ofString "Z") 1716),(Value.str (Str.ofString "[") 1719),(Value.str (Str.ofString "\\") 1722),(Value.str (Str.ofString "]") 1725),(Value.str (Str.ofString "^") 1728),(Value.str (Str.ofString "_") 1731),(Value.str (Str.ofString "`") 1734),(Value.str (Str.ofString "a") 1737),(Value.str (Str.ofString "b") 1740),(Value.str (Str.ofString "c") 1743),(Value.str (Str.ofString "d") 1746),(Value.str (Str.ofString "e") 1749),(Value.str (Str.ofString "f") 1752),(Value.str (Str.ofString "g") 1755),(Value.str (Str.ofString "h") 1758),(Value.str (Str.ofString "i") 1761),(Value.str (Str.ofString "j") 1764),(Value.str (Str.ofString "k") 1767),(Value.str (Str.ofString "l") 1770),(Value.str (Str.ofString "m") 1773),(Value.str (Str.ofString "n") 1776),(Value.str (Str.ofString "o") 1779),(Value.str (Str.ofString "p") 1782),(Value.str (Str.ofString "q") 1785),(Value.str (Str.ofString "r") 1788),(Value.str (Str.ofString "s") 1791),(Value.str (Str.ofString "t") 1794),(Value.str (Str.ofString "u") 1797),(Value.str (Str.ofString "v") 1800),(Value.str (Str.ofString "w") 1803),(Value.str (Str.ofString "x") 1806),(Value.str (Str.ofString "y") 1809),(Value.str (Str.ofString "z") 1812),(Value.str (Str.ofString "{") 1815),(Value.str (Str.ofString "|") 1818),(Value.str (Str.ofString "}") 1821),(Value.str (Str.ofString "~") 1824),(Value.str (Str.ofString "=7F") 800),(Value.str (Str.ofString "=80") 804),(Value.str (Str.ofString "=81") 808),(Value.str (Str.ofString "=82") 812),(Value.str (Str.ofString "=83") 816),(Value.str (Str.ofString "=84") 820),(Value.str (Str.ofString "=85") 824),(Value.str (Str.ofString "=86") 828),(Value.str (Str.ofString "=87") 832),(Value.str (Str.ofString "=88") 836),(Value.str (Str.ofString "=89") 840),(Value.str (Str.ofString "=8A") 844),(Value.str (Str.ofString "=8B") 848),(Value.str (Str.ofString "=8C") 852),(Value.str (Str.ofString "=8D") 856),(Value.str (Str.ofString "=8E") 860),(Value.str (Str.ofString "=8F") 864),(Value.str (Str.ofString "=90") 868),(Value.str (Str.ofString "=91") 872),(Value.str (Str.ofString "=92") 876),(Value.str (Str.ofString "=93") 880),(Value.str (Str.ofString "=94") 884),(Value.str (Str.ofString "=95") 888),(Value.str (Str.ofString "=96") 892),(Value.str (Str.ofString "=97") 896),(Value.str (Str.ofString "=98") 900),(Value.str (Str.ofString "=99") 904),(Value.str (Str.ofString "=9A") 908),(Value.str (Str.ofString "=9B") 912),(Value.str (Str.ofString "=9C") 916),(Value.str (Str.ofString "=9D") 920),(Value.str (Str.ofString "=9E") 924),(Value.str (Str.ofString "=9F") 928),(Value.str (Str.ofString "=A0") 932),(Value.str (Str.ofString "=A1") 936),(Value.str (Str.ofString "=A2") 940),(Value.str (Str.ofString "=A3") 944),(Value.str (Str.ofString "=A4") 948),(Value.str (Str.ofString "=A5") 952),(Value.str (Str.ofString "=A6") 956),(Value.str (Str.ofString "=A7") 960),(Value.str (Str.ofString "=A8") 964),(Value.str (Str.ofString "=A9") 968),(Value.str (Str.ofString "=AA") 972),(Value.str (Str.ofString "=AB") 976),(Value.str (Str.ofString "=AC") 980),(Value.str (Str.ofString "=AD") 984),(Value.str (Str.ofString "=AE") 988),(Value.str (Str.ofString "=AF") 992),(Value.str (Str.ofString "=B0") 996),(Value.str (Str.ofString "=B1") 1000),(Value.str (Str.ofString "=B2") 1004),(Value.str (Str.ofString "=B3") 1008),(Value.str (Str.ofString "=B4") 1012),(Value.str (Str.ofString "=B5") 1016),(Value.str (Str.ofString "=B6") 1020),(Value.str (Str.ofString "=B7") 1024),(Value.str (Str.ofString "=B8") 1028),(Value.str (Str.ofString "=B9") 1032),(Value.str (Str.ofString "=BA") 1036),(Value.str (Str.ofString "=BB") 1040),(Value.str (Str.ofString "=BC") 1044),(Value.str (Str.ofString "=BD") 1048),(Value.str (Str.ofString "=BE") 1052),(Value.str (Str.ofString "=BF") 1056),(Value.str (Str.ofString "=C0") 1060),(Value.str (Str.ofString "=C1") 1064),(Value.str (Str.ofString "=C2") 1068),(Value.str (Str.ofString "=C3") 1072),(Value.str (Str.ofString "=C4") 1076),(Value.str (Str.ofString "=C5") 1080),(Value.str (Str.ofString "=C6") 1084),(Value.str (Str.ofString "=C7") 1088),(Value.str (Str.ofString "=C8") 1092),(Value.str (Str.ofString "=C9") 1096),(Value.str (Str.ofString "=CA") 1100),(Value.str (Str.ofString "=CB") 1104),(Value.str (Str.ofString "=CC") 1108),(Value.str (Str.ofString "=CD") 1112),(Value.str (Str.ofString "=CE") 1116),(Value.str (Str.ofString "=CF") 1120),(Value.str (Str.ofString "=D0") 1124),(Value.str (Str.ofString "=D1") 1128),(Value.str (Str.ofString "=D2") 1132),(Value.str (Str.ofString "=D3") 1136),(Value.str (Str.ofString "=D4") 1140),(Value.str (Str.ofString "=D5") 1144),(Value.str (Str.ofString "=D6") 1148),(Value.str (Str.ofString "=D7") 1152),(Value.str (Str.ofString "=D8") 1156),(Value.str (Str.ofString "=D9") 1160),(Value.str (Str.ofString "=DA") 1164),(Value.str (Str.ofString "=DB") 1168),(Value.str (Str.ofString "=DC") 1172),(Value.str (Str.ofString "=DD") 1176),(Value.str (Str.ofString "=DE") 1180),(Value.str (Str.ofString "=DF") 1184),(Value.str (Str.ofString "=E0") 1188),(Value.str (Str.ofString "=E1") 1192),(Value.str (Str.ofString "=E2") 1196),(Value.str (Str.ofString "=E3") 1200),(Value.str (Str.ofString "=E4") 1204),(Value.str (Str.ofString "=E5") 1208),(Value.str (Str.ofString "=E6") 1212),(Value.str (Str.ofString "=E7") 1216),(Value.str (Str.ofString "=E8") 1220),(Value.str (Str.ofString "=E9") 1224),(Value.str (Str.ofString "=EA") 1228),(Value.str (Str.ofString "=EB") 1232),(Value.str (Str.ofString "=EC") 1236),(Value.str (Str.ofString "=ED") 1240),(Value.str (Str.ofString "=EE") 1244),(Value.str (Str.ofString "=EF") 1248),(Value.str (Str.ofString "=F0") 1252),(Value.str (Str.ofString "=F1") 1256),(Value.str (Str.ofString "=F2") 1260),(Value.str (Str.ofString "=F3") 1264),(Value.str (Str.ofString "=F4") 1268),(Value.str (Str.ofString "=F5") 1272),(Value.str (Str.ofString "=F6") 1276),(Value.str (Str.ofString "=F7") 1280),(Value.str (Str.ofString "=F8") 1284),(Value.str (Str.ofString "=F9") 1288),(Value.str (Str.ofString "=FA") 1292),(Value.str (Str.ofString "=FB") 1296),(Value.str (Str.ofString "=FC") 1300),(Value.str (Str.ofString "=FD") 1304),(Value.str (Str.ofString "=FE") 1308),(Value.str (Str.ofString "=FF") 1312)]⟩ 0),⟨[]⟩⟩⟩ ::
  ⟨nat_lit 67,⟨(Value.type "tuple"),Option.none,(Data.seq ⟨[(Value.int 76 1850),(Value.str (Str.ofString "\n") 284)]⟩ 0),⟨[]⟩⟩⟩ ::
  ⟨nat_lit 68,⟨(Value.type "tuple"),Option.none,(Data.seq ⟨[]⟩ 0),⟨[]⟩⟩⟩ ::
  ⟨nat_lit 70,⟨(Value.type "tuple"),Option.none,(Data.seq ⟨[(Value.str (Str.ofString "body") 1854),(Value.str (Str.ofString "maxlinelen") 1855),(Value.str (Str.ofString "eol") 1856),(Value.str (Str.ofString "soft_break") 1857),(Value.str (Str.ofString "maxlinelen1") 1858),(Value.str (Str.ofString "encoded_body") 1859),(Value.str (Str.ofString "append") 1860),(Value.str (Str.ofString "line") 1861),(Value.str (Str.ofString "start") 1862),(Value.str (Str.ofString "laststart") 1863),(Value.str (Str.ofString "stop") 1864),(Value.str (Str.ofString "room") 1865),(Value.str (Str.ofString "q") 1866)]⟩ 0),⟨[]⟩⟩⟩ ::
  ⟨nat_lit 71,⟨(Value.type "tuple"),Option.none,(Data.seq ⟨[]⟩ 0),⟨[]⟩⟩⟩ ::
  ⟨nat_lit 73,⟨(Value.type "code"),Option.none,(Data.fields ⟨[(Value.str (Str.ofString "body_encode") 1851),(Value.str (Str.ofString "body_encode") 1852),(Value.str (Str.ofString "/claim/cut.py") 1853),(Value.int 26 0),(Value.int 3 0),(Value.int 0 0),(Value.int 0 0),(Value.int 3 0),(Value.ref 68),(Value.bool Bool.true),(Value.int 276 0),(Value.ref 69),Value.none,(Value.ref 70),(Value.ref 71),(Value.ref 72),(Value.int 1867 0),(Value.int 26 0),(Value.str (Str.ofString "/claim/cut.py") 1868)]⟩),⟨[]⟩⟩⟩ ::
  ⟨nat_lit 74,⟨(Value.type "function"),Option.none,(Data.func ⟨(Str.ofString "body_encode"),(Str.ofString "body_encode"),(fP 19),(FuncBody.stmts (fB 19)),(fS 19),3,[],(Value.ref 67),Value.none,Value.none,(Value.str (Str.ofString "cpy313.email.quoprimime") 1329),Option.none,(Value.ref 73),Value.none,0⟩),⟨[]⟩⟩⟩ ::
  ⟨nat_lit 75,⟨(Value.type "tuple"),Option.none,(Data.seq ⟨[(Value.str (Str.ofString "\n") 284)]⟩ 0),⟨[]⟩⟩⟩ ::
  ⟨nat_lit 76,⟨(Value.type "tuple"),Option.none,(Data.seq ⟨[]⟩ 0),⟨[]⟩⟩⟩ ::
  ⟨nat_lit 78,⟨(Value.type "tuple"),Option.none,(Data.seq ⟨[(Value.str (Str.ofString "encoded") 1873),(Value.str (Str.ofString "eol") 1874),(Value.str (Str.ofString "decoded") 1875),(Value.str (Str.ofString "line") 1876),(Value.str (Str.ofString "i") 1877),(Value.str (Str.ofString "n") 1878),(Value.str (Str.ofString "c") 1879)]⟩ 0),⟨[]⟩⟩⟩ ::
  ⟨nat_lit 79,⟨(Value.type "tuple"),Option.none,(Data.seq ⟨[]⟩ 0),⟨[]⟩⟩⟩ ::
  ⟨nat_lit 81,⟨(Value.type "code"),Option.none,(Data.fields ⟨[(Value.str (Str.ofString "decode") 1870),(Value.str (Str.ofString "decode") 1871),(Value.str (Str.ofString "/claim/cut.py") 1872),(Value.int 64 0),(Value.int 2 0),(Value.int 0 0),(Value.int 0 0),(Value.int 3 0),(Value.ref 76),(Value.bool Bool.true),(Value.int 276 0),(Value.ref 77),Value.none,(Value.ref 78),(Value.ref 79),(Value.ref 80),(Value.int 1880 0),(Value.int 64 0),(Value.str (Str.ofString "/claim/cut.py") 1881)]⟩),⟨[]⟩⟩⟩ ::
  ⟨nat_lit 82,⟨(Value.type "function"),Option.none,(Data.func ⟨(Str.ofString "decode"),(Str.ofString "decode"),(fP 20),(FuncBody.stmts (fB 20)),(fS 20),3,[],(Value.ref 75),Value.none,Value.none,(Value.str (Str.ofString "cpy313.email.quoprimime") 1329),Option.none,(Value.ref 81),Value.none,0⟩),⟨[]⟩⟩⟩ ::
  ⟨nat_lit 86,⟨(Value.type "tuple"),Option.none,(Data.seq ⟨[(Value.int 14 0),(Value.int 4 0),(Value.int 0 0),(Value.int 0 0),(Value.int 4294967295 0),(Value.int 6 0),(Value.int 0 0),(Value.int 24 0),(Value.int 13 0),(Value.int 0 0),(Value.int 4294967295 0),(Value.int 13 0),(Value.int 8 0),(Value.int 16 0),(Value.int 61 0),(Value.int 8 0),(Value.int 12 0),(Value.int 16 0),(Value.int 59 0),(Value.int 0 0),(Value.int 1 0),(Value.int 1 0)]⟩ 0),⟨[]⟩⟩⟩ ::
  ⟨nat_lit 87,⟨(Value.type "re.Pattern"),Option.none,(Data.fields ⟨[(Value.str (Str.ofString "^[=\\s;]*") 1886),(Value.int 32 1911),(Value.int 0 0),Value.none,Value.none,(Value.ref 86),(Value.int 0 0)]⟩),⟨[]⟩⟩⟩ ::
  ⟨nat_lit 88,⟨(Value.type "tuple"),Option.none,(Data.seq ⟨[]⟩ 0),⟨[]⟩⟩⟩ ::
  ⟨nat_lit 90,⟨(Value.type "tuple"),Option.none,(Data.seq ⟨[(Value.str (Str.ofString "match") 1916),(Value.str (Str.ofString "start") 1917),(Value.str (Str.ofString "end") 1918)]⟩ 0),⟨[]⟩⟩⟩ ::
  ⟨nat_lit 91,⟨(Value.type "tuple"),Option.none,(Data.seq ⟨[]⟩ 0),⟨[]⟩⟩⟩ ::
  ⟨nat_lit 93,⟨(Value.type "code"),Option.none,(Data.fields ⟨[(Value.str (Str.ofString "unmatched") 1913),(Value.str (Str.ofString "unmatched") 1914),(Value.str (Str.ofString "/claim/cut.py") 1915),(Value.int 96 0),(Value.int 1 0),(Value.int 0 0),(Value.int 0 0),(Value.int 3 0),(Value.ref 88),(Value.bool Bool.true),(Value.int 276 0),(Value.ref 89),Value.none,(Value.ref 90),(Value.ref 91),(Value.ref 92),(Value.int 1919 0),(Value.int 96 0),(Value.str (Str.ofString "/claim/cut.py") 1920)]⟩),⟨[]⟩⟩⟩ ::
  ⟨nat_lit 94,⟨(Value.type "function"),Option.none,(Data.func ⟨(Str.ofString "unmatched"),(Str.ofString "unmatched"),(fP 23),(FuncBody.stmts (fB 23)),(fS 23),3,[],Value.none,Value.none,Value.none,(Value.str (Str.ofString "cpy313.http.cookiejar") 1883),Option.none,(Value.ref 93),Value.none,0⟩),⟨[]⟩⟩⟩ ::
  ⟨nat_lit 98,⟨(Value.type "tuple"),Option.none,(Data.seq ⟨[(Value.int 14 0),(Value.int 4 0),(Value.int 0 0),(Value.int 1 0),(Value.int 4294967295 0),(Value.int 6 0),(Value.int 0 0),(Value.int 24 0),(Value.int 9 0),(Value.int 0 0),(Value.int 4294967295 0),(Value.int 13 0),(Value.int 4 0),(Value.int 8 0),(Value.int 12 0),(Value.int 0 0),(Value.int 1 0),(Value.int 17 0),(Value.int 0 0),(Value.int 24 0),(Value.int 19 0),(Value.int 1 0),(Value.int 4294967295 0),(Value.int 13 0),(Value.int 14 0),(Value.int 21 0),(Value.int 9 0),(Value.int 0 0),(Value.int 671092736 0),(Value.int 0 0),(Value.int 0 0),(Value.int 0 0),(Value.int 0 0),(Value.int 0 0),(Value.int 0 0),(Value.int 8 0),(Value.int 12 0),(Value.int 0 0),(Value.int 1 0),(Value.int 17 0),(Value.int 1 0),(Value.int 1 0)]⟩ 0),⟨[]⟩⟩⟩ ::
  ⟨nat_lit 99,⟨(Value.type "re.Pattern"),Option.none,(Data.fields ⟨[(Value.str (Str.ofString "^\\s*([^=\\s;,]+)") 1923),(Value.int 32 1968),(Value.int 1 0),Value.none,Value.none,(Value.ref 98),(Value.int 0 0)]⟩),⟨[]⟩⟩⟩ ::
  ⟨nat_lit 103,⟨(Value.type "tuple"),Option.none,(Data.seq ⟨[(Value.int 14 0),(Value.int 4 0),(Value.int 0 0),(Value.int 3 0),(Value.int 4294967295 0),(Value.int 6 0),(Value.int 0 0),(Value.int 24 0),(Value.int 9 0),(Value.int 0 0),(Value.int 4294967295 0),(Value.int 13 0),(Value.int 4 0),(Value.int 8 0),(Value.int 12 0),(Value.int 0 0),(Value.int 1 0),(Value.int 16 0),(Value.int 61 0),(Value.int 24 0),(Value.int 9 0),(Value.int 0 0),(Value.int 4294967295 0),(Value.int 13 0),(Value.int 4 0),(Value.int 8 0),(Value.int 12 0),(Value.int 0 0),(Value.int 1 0),(Value.int 16 0),(Value.int 34 0),(Value.int 17 0),(Value.int 0 0),(Value.int 24 0),(Value.int 12 0),(Value.int 0 0),(Value.int 4294967295 0),(Value.int 13 0),(Value.int 7 0),(Value.int 21 0),(Value.int 16 0),(Value.int 34 0),(Value.int 16 0),(Value.int 92 0),(Value.int 0 0),(Value.int 1 0),(Value.int 23 0),(Value.int 19 0),(Value.int 0 0),(Value.int 4294967295 0),(Value.int 16 0),(Value.int 92 0),(Value.int 2 0),(Value.int 24 0),(Value.int 12 0),(Value.int 0 0),(Value.int 4294967295 0),(Value.int 13 0),(Value.int 7 0),(Value.int 21 0),(Value.int 16 0),(Value.int 34 0),(Value.int 16 0),(Value.int 92 0),(Value.int 0 0),(Value.int 1 0),(Value.int 18 0),(Value.int 17 0),(Value.int 1 0),(Value.int 16 0),(Value.int 34 0),(Value.int 1 0)]⟩ 0),⟨[]⟩⟩⟩ ::
  ⟨nat_lit 104,⟨(Value.type "re.Pattern"),Option.none,(Data.fields ⟨[(Value.str (Str.ofString "^\\s*=\\s*\\\"([^\\\"\\\\]*(?:\\\\.[^\\\"\\\\]*)*)\\\"") 1971),(Value.int 32 2046),(Value.int 1 0),Value.none,Value.none,(Value.ref 103),(Value.int 0 0)]⟩),⟨[]⟩⟩⟩ ::
  ⟨nat_lit 108,⟨(Value.type "tuple"),Option.none,(Data.seq ⟨[(Value.int 14 0),(Value.int 4 0),(Value.int 0 0),(Value.int 1 0),(Value.int 4294967295 0),(Value.int 6 0),(Value.int 0 0),(Value.int 24 0),(Value.int 9 0),(Value.int 0 0),(Value.int 4294967295 0),(Value.int 13 0),(Value.int 4 0),(Value.int 8 0),(Value.int 12 0),(Value.int 0 0),(Value.int 1 0),(Value.int 16 0),(Value.int 61 0),(Value.int 24 0),(Value.int 9 0),(Value.int 0 0),(Value.int 4294967295 0),(Value.int 13 0),(Value.int 4 0),(Value.int 8 0),(Value.int 12 0),(Value.int 0 0),(Value.int 1 0),(Value.int 17 0),(Value.int 0 0),(Value.int 24 0),(Value.int 14 0),(Value.int 0 0),(Value.int 4294967295 0),(Value.int 13 0),(Value.int 9 0),(Value.int 21 0),(Value.int 8 0),(Value.int 12 0),(Value.int 16 0),(Value.int 59 0),(Value.int 16 0),(Value.int 44 0),(Value.int 0 0),(Value.int 1 0),(Value.int 17 0),(Value.int 1 0),(Value.int 1 0)]⟩ 0),⟨[]⟩⟩⟩ ::
  ⟨nat_lit 109,⟨(Value.type "re.Pattern"),Option.none,(Data.fields ⟨[(Value.str (Str.ofString "^\\s*=\\s*([^\\s;,]*)") 2049),(Value.int 32 2101),(Value.int 1 0),Value.none,Value.none,(Value.ref 108),(Value.int 0 0)]⟩),⟨[]⟩⟩⟩ ::
  ⟨nat_lit 113,⟨(Value.type "tuple"),Option.none,(Data.seq ⟨[(Value.int 14 0),(Value.int 8 0),(Value.int 1 0),(Value.int 2 0),(Value.int 2 0),(Value.int 1 0),(Value.int 1 0),(Value.int 92 0),(Value.int 0 0),(Value.int 16 0),(Value.int 92 0),(Value.int 17 0),(Value.int 0 0),(Value.int 2 0),(Value.int 17 0),(Value.int 1 0),(Value.int 1 0)]⟩ 0),⟨[]⟩⟩⟩ ::
  ⟨nat_lit 114,⟨(Value.type "re.Pattern"),Option.none,(Data.fields ⟨[(Value.str (Str.ofString "\\\\(.)") 2104),(Value.int 32 2124),(Value.int 1 0),Value.none,Value.none,(Value.ref 113),(Value.int 0 0)]⟩),⟨[]⟩⟩⟩ ::
  ⟨nat_lit 115,⟨(Value.type "tuple"),Option.none,(Data.seq ⟨[]⟩ 0),⟨[]⟩⟩⟩ ::
  ⟨nat_lit 117,⟨(Value.type "tuple"),Option.none,(Data.seq ⟨[(Value.str (Str.ofString "header_values") 2129),(Value.str (Str.ofString "result") 2130),(Value.str (Str.ofString "text") 2131),(Value.str (Str.ofString "orig_text") 2132),(Value.str (Str.ofString "pairs") 2133),(Value.str (Str.ofString "m") 2134),(Value.str (Str.ofString "name") 2135),(Value.str (Str.ofString "value") 2136),(Value.str (Str.ofString "non_junk") 2137),(Value.str (Str.ofString "nr_junk_chars") 2138)]⟩ 0),⟨[]⟩⟩⟩ ::
  ⟨nat_lit 118,⟨(Value.type "tuple"),Option.none,(Data.seq ⟨[]⟩ 0),⟨[]⟩⟩⟩ ::
  ⟨nat_lit 120,⟨(Value.type "code"),Option.none,(Data.fields ⟨[(Value.str (Str.ofString "split_header_words") 2126),(Value.str (Str.ofString "split_header_words") 2127),(Value.str (Str.ofString "/claim/cut.py") 2128),(Value.int 103 0),(Value.int 1 0),(Value.int 0 0),(Value.int 0 0),(Value.int 3 0),(Value.ref 115),(Value.bool Bool.true),(Value.int 276 0),(Value.ref 116),Value.none,(Value.ref 117),(Value.ref 118),(Value.ref 119),(Value.int 2139 0),(Value.int 103 0),(Value.str (Str.ofString "/claim/cut.py") 2140)]⟩),⟨[]⟩⟩⟩ ::
  ⟨nat_lit 121,⟨(Value.type "function"),Option.none,(Data.func ⟨(Str.ofString "split_header_words"),(Str.ofString "split_header_words"),(fP 28),(FuncBody.stmts (fB 28)),(fS 28),3,[],Value.none,Value.none,Value.none,(Value.str (Str.ofString "cpy313.http.cookiejar") 1883),Option.none,(Value.ref 120),Value.none,0⟩),⟨[]⟩⟩⟩ ::
  ⟨nat_lit 122,⟨(Value.type "tuple"),Option.none,(Data.seq ⟨[]⟩ 0),⟨[]⟩⟩⟩ ::
  ⟨nat_lit 124,⟨(Value.type "tuple"),Option.none,(Data.seq ⟨[(Value.str (Str.ofString "script") 2147),(Value.str (Str.ofString "bare") 2148),(Value.str (Str.ofString "signs") 2149),(Value.str (Str.ofString "x") 2150)]⟩ 0),⟨[]⟩⟩⟩ ::
  ⟨nat_lit 125,⟨(Value.type "tuple"),Option.none,(Data.seq ⟨[]⟩ 0),⟨[]⟩⟩⟩ ::
  ⟨nat_lit 127,⟨(Value.type "code"),Option.none,(Data.fields ⟨[(Value.str (Str.ofString "_law_text") 2144),(Value.str (Str.ofString "_law_text") 2145),(Value.str (Str.ofString "/claim/cut.py") 2146),(Value.int 141 0),(Value.int 1 0),(Value.int 0 0),(Value.int 0 0),(Value.int 3 0),(Value.ref 122),(Value.bool Bool.true),(Value.int 276 0),(Value.ref 123),Value.none,(Value.ref 124),(Value.ref 125),(Value.ref 126),(Value.int 2151 0),(Value.int 141 0),(Value.str (Str.ofString "/claim/cut.py") 2152)]⟩),⟨[]⟩⟩⟩ ::
  ⟨nat_lit 128,⟨(Value.type "function"),Option.none,(Data.func ⟨(Str.ofString "_law_text"),(Str.ofString "_law_text"),(fP 30),(FuncBody.stmts (fB 30)),(fS 30),3,[],Value.none,Value.none,Value.none,(Value.str (Str.ofString "law_qu0048_01") 2142),Option.none,(Value.ref 127),Value.none,0⟩),⟨[]⟩⟩⟩ ::
  ⟨nat_lit 129,⟨(Value.type "tuple"),Option.none,(Data.seq ⟨[]⟩ 0),⟨[]⟩⟩⟩ ::
  ⟨nat_lit 131,⟨(Value.type "tuple"),Option.none,(Data.seq ⟨[(Value.str (Str.ofString "text") 2157),(Value.str (Str.ofString "width") 2158),(Value.str (Str.ofString "figures") 2159),(Value.str (Str.ofString "rows") 2160),(Value.str (Str.ofString "line") 2161),(Value.str (Str.ofString "pieces") 2162),(Value.str (Str.ofString "sign") 2163),(Value.str (Str.ofString "left") 2164),(Value.str (Str.ofString "row") 2165),(Value.str (Str.ofString "piece") 2166)]⟩ 0),⟨[]⟩⟩⟩ ::
  ⟨nat_lit 132,⟨(Value.type "tuple"),Option.none,(Data.seq ⟨[]⟩ 0),⟨[]⟩⟩⟩ ::
  ⟨nat_lit 134,⟨(Value.type "code"),Option.none,(Data.fields ⟨[(Value.str (Str.ofString "_law_rows") 2154),(Value.str (Str.ofString "_law_rows") 2155),(Value.str (Str.ofString "/claim/cut.py") 2156),(Value.int 156 0),(Value.int 2 0),(Value.int 0 0),(Value.int 0 0),(Value.int 3 0),(Value.ref 129),(Value.bool Bool.true),(Value.int 276 0),(Value.ref 130),Value.none,(Value.ref 131),(Value.ref 132),(Value.ref 133),(Value.int 2167 0),(Value.int 156 0),(Value.str (Str.ofString "/claim/cut.py") 2168)]⟩),⟨[]⟩⟩⟩ ::
  ⟨nat_lit 135,⟨(Value.type "function"),Option.none,(Data.func ⟨(Str.ofString "_law_rows"),(Str.ofString "_law_rows"),(fP 31),(FuncBody.stmts (fB 31)),(fS 31),3,[],Value.none,Value.none,Value.none,(Value.str (Str.ofString "law_qu0048_01") 2142),Option.none,(Value.ref 134),Value.none,0⟩),⟨[]⟩⟩⟩ ::
  ⟨nat_lit 136,⟨(Value.type "tuple"),Option.none,(Data.seq ⟨[]⟩ 0),⟨[]⟩⟩⟩ ::
  ⟨nat_lit 138,⟨(Value.type "tuple"),Option.none,(Data.seq ⟨[(Value.str (Str.ofString "row") 2173),(Value.str (Str.ofString "bare") 2174)]⟩ 0),⟨[]⟩⟩⟩ ::
  ⟨nat_lit 139,⟨(Value.type "tuple"),Option.none,(Data.seq ⟨[]⟩ 0),⟨[]⟩⟩⟩ ::
  ⟨nat_lit 141,⟨(Value.type "code"),Option.none,(Data.fields ⟨[(Value.str (Str.ofString "_law_reading") 2170),(Value.str (Str.ofString "_law_reading") 2171),(Value.str (Str.ofString "/claim/cut.py") 2172),(Value.int 176 0),(Value.int 1 0),(Value.int 0 0),(Value.int 0 0),(Value.int 3 0),(Value.ref 136),(Value.bool Bool.true),(Value.int 276 0),(Value.ref 137),Value.none,(Value.ref 138),(Value.ref 139),(Value.ref 140),(Value.int 2175 0),(Value.int 176 0),(Value.str (Str.ofString "/claim/cut.py") 2176)]⟩),⟨[]⟩⟩⟩ ::
  ⟨nat_lit 142,⟨(Value.type "function"),Option.none,(Data.func ⟨(Str.ofString "_law_reading"),(Str.ofString "_law_reading"),(fP 32),(FuncBody.stmts (fB 32)),(fS 32),3,[],Value.none,Value.none,Value.none,(Value.str (Str.ofString "law_qu0048_01") 2142),Option.none,(Value.ref 141),Value.none,0⟩),⟨[]⟩⟩⟩ ::
  ⟨nat_lit 143,⟨(Value.type "tuple"),Option.none,(Data.seq ⟨[]⟩ 0),⟨[]⟩⟩⟩ ::
  ⟨nat_lit 145,⟨(Value.type "tuple"),Option.none,(Data.seq ⟨[(Value.str (Str.ofString "reading") 2181),(Value.str (Str.ofString "name") 2182),(Value.str (Str.ofString "value") 2183),(Value.str (Str.ofString "head") 2184)]⟩ 0),⟨[]⟩⟩⟩ ::
  ⟨nat_lit 146,⟨(Value.type "tuple"),Option.none,(Data.seq ⟨[]⟩ 0),⟨[]⟩⟩⟩ ::
  ⟨nat_lit 148,⟨(Value.type "code"),Option.none,(Data.fields ⟨[(Value.str (Str.ofString "_law_row") 2178),(Value.str (Str.ofString "_law_row") 2179),(Value.str (Str.ofString "/claim/cut.py") 2180),(Value.int 183 0),(Value.int 1 0),(Value.int 0 0),(Value.int 0 0),(Value.int 3 0),(Value.ref 143),(Value.bool Bool.true),(Value.int 276 0),(Value.ref 144),Value.none,(Value.ref 145),(Value.ref 146),(Value.ref 147),(Value.int 2185 0),(Value.int 183 0),(Value.str (Str.ofString "/claim/cut.py") 2186)]⟩),⟨[]⟩⟩⟩ ::
  ⟨nat_lit 149,⟨(Value.type "function"),Option.none,(Data.func ⟨(Str.ofString "_law_row"),(Str.ofString "_law_row"),(fP 33),(FuncBody.stmts (fB 33)),(fS 33),3,[],Value.none,Value.none,Value.none,(Value.str (Str.ofString "law_qu0048_01") 2142),Option.none,(Value.ref 148),Value.none,0⟩),⟨[]⟩⟩⟩ ::
  ⟨nat_lit 150,⟨(Value.type "tuple"),Option.none,(Data.seq ⟨[]⟩ 0),⟨[]⟩⟩⟩ ::
  ⟨nat_lit 153,⟨(Value.type "code"),Option.none,(Data.fields ⟨[(Value.str (Str.ofString "law") 2188),(Value.str (Str.ofString "law") 2189),(Value.str (Str.ofString "/claim/cut.py") 2190),(Value.int 189 0),(Value.int 1 0),(Value.int 0 0),(Value.int 0 0),(Value.int 3 0),(Value.ref 150),(Value.bool Bool.true),(Value.int 276 0),(Value.ref 151),Value.none,Value.none,Value.none,(Value.ref 152),(Value.int 2191 0),(Value.int 189 0),(Value.str (Str.ofString "/claim/cut.py") 2192)]⟩),⟨[]⟩⟩⟩ ::
  ⟨nat_lit 154,⟨(Value.type "function"),Option.none,(Data.func ⟨(Str.ofString "law"),(Str.ofString "law"),(fP 34),(FuncBody.stmts (fB 34)),(fS 34),3,[],Value.none,Value.none,Value.none,(Value.str (Str.ofString "law_qu0048_01") 2142),Option.none,(Value.ref 153),Value.none,0⟩),⟨[]⟩⟩⟩ ::
  []
end Mine
end
section
namespace Mine
/-! The plain part: rows, readings, decoding, over lists of codes. -/
noncomputable def hexU (d : Nat) : Nat := if d < 10 then 48 + d else 55 + d
noncomputable def okc (c : Nat) : Bool := decide (33 ≤ c) && decide (c ≤ 126) && (c != 61)
noncomputable def piece (c : Nat) : List Nat := if okc c then [c] else [61, hexU (c / 16), hexU (c % 16)]

/-- the law's inner loop -/
noncomputable def lawLoop (w : Nat) : (left : Nat) → (row : List Nat) → List (List Nat) → List (List Nat)
  | _, row, [] => [row]
  | left, row, p :: ps =>
    if left > w ∧ row.length + p.length > w - 1 then (row ++ [61]) :: lawLoop w (left - row.length) p ps
    else lawLoop w left (row ++ p) ps

/-- the program's while: rows of what is left of the line -/
noncomputable def progLoop (w : Nat) (r : List Nat) : List (List Nat) :=
  if h : w < r.length ∧ 4 ≤ w then
    if r[w - 3]? = some 61 then r.take (w - 2) :: progLoop w (r.drop (w - 3))
    else if r[w - 2]? = some 61 then r.take (w - 1) :: progLoop w (r.drop (w - 2))
    else (r.take (w - 1) ++ [61]) :: progLoop w (r.drop (w - 1))
  else [r]
termination_by r.length
decreasing_by all_goals (simp only [List.length_drop]; omega)

/-- a piece's shape -/
noncomputable def IsPiece (p : List Nat) : Prop := (∃ c, p = [c] ∧ c ≠ 61) ∨ ∃ a b, p = [61, a, b] ∧ a ≠ 61 ∧ b ≠ 61
/-- an = stands in it with two more signs behind -/
noncomputable def Whole (row : List Nat) : Prop := ∀ i, row[i]? = some 61 → i + 2 < row.length

theorem Whole.nil : Whole [] := fun i h => by simp at h
theorem whole_piece {p : List Nat} (h : IsPiece p) : Whole p := by
  intro i hi
  rcases h with ⟨c, rfl, hc⟩ | ⟨a, b, rfl, ha, hb⟩
  · cases i with
    | zero => simp at hi; exact absurd hi hc
    | succ i => simp at hi
  · match i with
    | 0 => simp
    | 1 => simp at hi; exact absurd hi ha
    | 2 => simp at hi; exact absurd hi hb
    | i + 3 => simp at hi
theorem Whole.append {a b : List Nat} (ha : Whole a) (hb : Whole b) : Whole (a ++ b) := by
  intro i hi
  rw [List.length_append]
  by_cases h : i < a.length
  · rw [List.getElem?_append_left h] at hi
    have := ha i hi; omega
  · rw [List.getElem?_append_right (by omega)] at hi
    have := hb _ hi; omega

theorem progLoop_short {w : Nat} {r : List Nat} (h : r.length ≤ w) : progLoop w r = [r] := by
  unfold progLoop
  rw [dif_neg (by omega)]

/-- one turn of the while -/
theorem prog_step {w : Nat} {row p rest : List Nat} (hw : 4 ≤ w) (hr : Whole row) (hp : IsPiece p)
    (hlen : row.length ≤ w - 1) (hover : row.length + p.length > w - 1) (hlong : (row ++ p ++ rest).length > w) :
    progLoop w (row ++ p ++ rest) = (row ++ [61]) :: progLoop w (p ++ rest) := by
  have key : ∀ (r : List Nat), r = row ++ p ++ rest → progLoop w r = (row ++ [61]) :: progLoop w (p ++ rest) := by
    intro r er
    rw [progLoop.eq_1]
    have hl : w < r.length ∧ 4 ≤ w := ⟨by rw [er]; exact hlong, hw⟩
    rw [dif_pos hl]
    have dropAt : r.drop row.length = p ++ rest := by rw [er, List.append_assoc, List.drop_left]
    have takeAt : r.take row.length = row := by rw [er, List.append_assoc, List.take_left]
    have noEq : ∀ i, i < row.length → row.length ≤ i + 2 → r[i]? ≠ some 61 := by
      intro i hi h2 he
      rw [er, List.append_assoc, List.getElem?_append_left hi] at he
      have := hr i he; omega
    have hp1 : p.length = 1 ∨ (p.length = 3 ∧ r[row.length]? = some 61) := by
      rcases hp with ⟨c, rfl, _⟩ | ⟨a, b, rfl, _, _⟩
      · exact .inl rfl
      · refine .inr ⟨rfl, ?_⟩
        rw [er, List.append_assoc, List.getElem?_append_right (Nat.le_refl _)]; simp
    by_cases h1 : row.length = w - 1
    · rw [if_neg (noEq _ (by omega) (by omega)), if_neg (noEq _ (by omega) (by omega)), ← h1, takeAt, dropAt]
    · have h3 : p.length = 3 ∧ r[row.length]? = some 61 := by
        rcases hp1 with h | h
        · omega
        · exact h
      by_cases h2 : row.length = w - 2
      · have e1 : w - 3 < row.length := by omega
        rw [if_neg (noEq _ e1 (by omega)), ← h2, if_pos h3.2]
        have e2 : w - 1 = row.length + 1 := by omega
        rw [e2, dropAt, List.take_add_one, takeAt, h3.2]
        rfl
      · have e0 : row.length = w - 3 := by omega
        rw [← e0, if_pos h3.2]
        have e2 : w - 2 = row.length + 1 := by omega
        rw [e2, dropAt, List.take_add_one, takeAt, h3.2]
        rfl
  exact key _ rfl

theorem prog_eq_law {w : Nat} (hw : 4 ≤ w) : ∀ (ps : List (List Nat)) (row : List Nat), (∀ p ∈ ps, IsPiece p) → Whole row →
    ((row ++ ps.flatten).length > w → row.length ≤ w - 1) → progLoop w (row ++ ps.flatten) = lawLoop w (row ++ ps.flatten).length row ps := by
  intro ps
  induction ps with
  | nil =>
    intro row _ _ hinv
    simp only [List.flatten_nil, List.append_nil, lawLoop] at hinv ⊢
    exact progLoop_short (by
      by_cases h : row.length > w
      · have := hinv h; omega
      · omega)
  | cons p ps ih =>
    intro row hps hrow hinv
    have hp := hps p (.head _)
    have hps' := fun q hq => hps q (.tail _ hq)
    have hp3 : p.length ≤ 3 := by
      rcases hp with ⟨c, rfl, _⟩ | ⟨a, b, rfl, _, _⟩ <;> simp
    have e : row ++ (p :: ps).flatten = row ++ p ++ ps.flatten := by simp
    have key : ∀ n, n = (row ++ p ++ ps.flatten).length → progLoop w (row ++ p ++ ps.flatten) = lawLoop w n row (p :: ps) := by
      intro n hn
      rw [lawLoop]
      by_cases hc : n > w ∧ row.length + p.length > w - 1
      · rw [if_pos hc]
        have h1 : row.length ≤ w - 1 := hinv (by rw [e, ← hn]; exact hc.1)
        rw [prog_step hw hrow hp h1 hc.2 (by rw [← hn]; exact hc.1)]
        have hl : n - row.length = (p ++ ps.flatten).length := by rw [hn]; simp only [List.length_append]; omega
        rw [hl, ih p hps' (whole_piece hp) (fun _ => by omega)]
      · rw [if_neg hc, hn]
        refine ih (row ++ p) hps' (hrow.append (whole_piece hp)) fun h => ?_
        have : n > w := by rw [hn]; exact h
        simp only [List.length_append]; omega
    rw [e]
    exact key _ rfl
theorem hexU_ne (d : Nat) (h : d < 16) : hexU d ≠ 61 := by unfold hexU; split <;> omega
theorem isPiece_piece {c : Nat} (h : c < 256) : IsPiece (piece c) := by
  unfold piece
  by_cases hc : okc c = true
  · rw [if_pos hc]
    refine .inl ⟨c, rfl, ?_⟩
    intro e; subst e; simp [okc] at hc
  · rw [if_neg hc]
    exact .inr ⟨_, _, rfl, hexU_ne _ (by omega), hexU_ne _ (by omega)⟩
end Mine
end
section
namespace Mine
noncomputable abbrev isHexU (c : Nat) : Prop := (48 ≤ c ∧ c ≤ 57) ∨ (65 ≤ c ∧ c ≤ 70)
theorem hexU_is (d : Nat) (h : d < 16) : isHexU (hexU d) := by unfold hexU isHexU; split <;> omega

/-- the signs that the law draws, but LF -/
noncomputable def Sg (c : Nat) : Prop := c < 256 ∧ (okc c = true → c ≠ 44 ∧ c ≠ 59 ∧ ¬ isHexU c)

/-- rows as signs, with the soft break's mark -/
noncomputable def lawS (w : Nat) : (left : Nat) → (row : List Nat) → List Nat → List (List Nat × Bool)
  | _, row, [] => [(row, false)]
  | left, row, c :: cs =>
    if left > w ∧ (row.flatMap piece).length + (piece c).length > w - 1 then (row, true) :: lawS w (left - (row.flatMap piece).length) [c] cs
    else lawS w left (row ++ [c]) cs
noncomputable def render (r : List Nat × Bool) : List Nat := r.1.flatMap piece ++ (if r.2 then [61] else [])

theorem lawLoop_lawS (w : Nat) : ∀ (cs : List Nat) (left : Nat) (row : List Nat), lawLoop w left (row.flatMap piece) (cs.map piece) = (lawS w left row cs).map render := by
  intro cs
  induction cs with
  | nil => intro left row; simp [lawLoop, lawS, render]
  | cons c cs ih =>
    intro left row
    rw [List.map_cons, lawLoop, lawS]
    by_cases h : left > w ∧ (row.flatMap piece).length + (piece c).length > w - 1
    · rw [if_pos h, if_pos h, List.map_cons]
      have := ih (left - (row.flatMap piece).length) [c]
      simp only [List.flatMap_cons, List.flatMap_nil, List.append_nil] at this
      rw [this]; simp [render]
    · rw [if_neg h, if_neg h]
      have := ih left (row ++ [c])
      simp only [List.flatMap_append, List.flatMap_cons, List.flatMap_nil, List.append_nil] at this
      exact this

theorem piece_len (c : Nat) : 1 ≤ (piece c).length ∧ (piece c).length ≤ 3 := by unfold piece; split <;> simp

theorem lawS_spec (w : Nat) (hw : 4 ≤ w) : ∀ (cs : List Nat) (left : Nat) (row : List Nat), ∃ (init : List (List Nat)) (last : List Nat), lawS w left row cs = init.map (fun r => (r, true)) ++ [(last, false)] ∧
    init.flatten ++ last = row ++ cs ∧ (∀ r ∈ init, r ≠ []) ∧ (last = [] → row = [] ∧ cs = []) := by
  intro cs
  induction cs with
  | nil => intro left row; exact ⟨[], row, by simp [lawS], by simp, by simp, fun h => ⟨h, rfl⟩⟩
  | cons c cs ih =>
    intro left row
    rw [lawS]
    by_cases h : left > w ∧ (row.flatMap piece).length + (piece c).length > w - 1
    · rw [if_pos h]
      obtain ⟨init, last, e1, e2, e3, e4⟩ := ih (left - (row.flatMap piece).length) [c]
      refine ⟨row :: init, last, by rw [e1]; rfl, ?_, ?_, ?_⟩
      · rw [List.flatten_cons, List.append_assoc, e2]; simp
      · intro r hr
        rcases List.mem_cons.mp hr with rfl | hr
        · rintro rfl
          have := (piece_len c).2
          simp at h; omega
        · exact e3 r hr
      · intro hl; exact absurd (e4 hl).1 (by simp)
    · rw [if_neg h]
      obtain ⟨init, last, e1, e2, e3, e4⟩ := ih left (row ++ [c])
      refine ⟨init, last, e1, by rw [e2]; simp, e3, fun hl => ?_⟩
      exact absurd (e4 hl).1 (by simp)

/-! decoding a row -/
noncomputable def hexV (c : Nat) : Nat := if c ≤ 57 then c - 48 else if c ≤ 70 then c - 55 else c - 87
noncomputable def isHexL (c : Nat) : Bool := decide (48 ≤ c ∧ c ≤ 57) || decide (65 ≤ c ∧ c ≤ 70) || decide (97 ≤ c ∧ c ≤ 102)
noncomputable def decR (eol : List Nat) : List Nat → List Nat
  | [] => []
  | c :: t =>
    if c ≠ 61 then c :: (if t = [] then eol else decR eol t)
    else match t with
      | [] => []
      | x :: y :: u => if isHexL x && isHexL y then (hexV x * 16 + hexV y) :: (if u = [] then eol else decR eol u) else c :: decR eol (x :: y :: u)
      | [x] => c :: decR eol [x]
theorem decR_soft (eol : List Nat) : decR eol [61] = [] := by simp [decR]
theorem hexV_hexU (d : Nat) (h : d < 16) : hexV (hexU d) = d := by unfold hexV hexU; split <;> (repeat' split) <;> omega
theorem isHexL_hexU (d : Nat) (h : d < 16) : isHexL (hexU d) = true := by
  unfold isHexL hexU
  split <;> simp <;> omega
theorem decR_piece (eol : List Nat) {c : Nat} (hc : c < 256) (t : List Nat) : decR eol (piece c ++ t) = c :: (if t = [] then eol else decR eol t) := by
  unfold piece
  by_cases h : okc c = true
  · rw [if_pos h]
    have hne : c ≠ 61 := by intro e; subst e; simp [okc] at h
    simp only [List.cons_append, List.nil_append]
    rw [decR.eq_def]
    simp [hne]
  · rw [if_neg h]
    simp only [List.cons_append, List.nil_append]
    rw [decR.eq_def]
    simp only [ne_eq, not_true_eq_false, if_false]
    rw [isHexL_hexU _ (by omega), isHexL_hexU _ (by omega), hexV_hexU _ (by omega), hexV_hexU _ (by omega)]
    have : c / 16 * 16 + c % 16 = c := by omega
    simp [this]
theorem flat_ne {s : List Nat} (h : s ≠ []) : s.flatMap piece ≠ [] := by
  cases s with
  | nil => exact absurd rfl h
  | cons c s =>
    intro e
    rw [List.flatMap_cons] at e
    have h1 := (piece_len c).1
    have h2 := congrArg List.length e
    rw [List.length_append, List.length_nil] at h2
    omega
theorem decR_render (eol : List Nat) : ∀ (s : List Nat), (∀ c ∈ s, c < 256) → s ≠ [] → decR eol (render (s, true)) = s ∧ decR eol (render (s, false)) = s ++ eol := by
  intro s
  induction s with
  | nil => intro _ h; exact absurd rfl h
  | cons c s ih =>
    intro hs _
    have hc := hs c (.head _)
    have hs' := fun x hx => hs x (.tail _ hx)
    simp only [render, List.flatMap_cons, List.append_assoc, if_true, Bool.false_eq_true, if_false, List.append_nil]
    rw [decR_piece eol hc, decR_piece eol hc]
    by_cases e : s = []
    · subst e; simp [decR_soft]
    · obtain ⟨h1, h2⟩ := ih hs' e
      simp only [render, if_true, Bool.false_eq_true, if_false, List.append_nil] at h1 h2
      rw [if_neg (by simp), if_neg (flat_ne e), h1, h2]
      simp

/-! a row's shape -/
structure Good (r : List Nat) : Prop where
  print : ∀ c ∈ r, 33 ≤ c ∧ c ≤ 126 ∧ c ≠ 44 ∧ c ≠ 59
  next : ∀ i, r[i]? = some 61 → ∀ x, r[i + 1]? = some x → isHexU x
  head : r = [] ∨ (∃ x t, r = 61 :: x :: t ∧ isHexU x) ∨ (∃ x t, r = x :: t ∧ x ≠ 61 ∧ ¬ isHexU x)
theorem piece_print {c : Nat} (h : Sg c) : ∀ x ∈ piece c, 33 ≤ x ∧ x ≤ 126 ∧ x ≠ 44 ∧ x ≠ 59 := by
  intro x hx
  unfold piece at hx
  by_cases hc : okc c = true
  · rw [if_pos hc] at hx
    have := List.mem_singleton.mp hx; subst this
    have hh := h.2 hc
    simp [okc] at hc
    exact ⟨hc.1.1, hc.1.2, hh.1, hh.2.1⟩
  · rw [if_neg hc] at hx
    have a1 := hexU_is (c / 16) (by have := h.1; omega)
    have a2 := hexU_is (c % 16) (by omega)
    unfold isHexU at a1 a2
    rcases List.mem_cons.mp hx with rfl | hx
    · omega
    · rcases List.mem_cons.mp hx with rfl | hx
      · omega
      · have := List.mem_singleton.mp hx; subst this; omega
theorem piece_next {c : Nat} (h : c < 256) {t : List Nat} (ht : ∀ i, t[i]? = some 61 → ∀ x, t[i + 1]? = some x → isHexU x) :
    ∀ i, (piece c ++ t)[i]? = some 61 → ∀ x, (piece c ++ t)[i + 1]? = some x → isHexU x := by
  intro i hi x hx
  unfold piece at hi hx
  by_cases hc : okc c = true
  · rw [if_pos hc] at hi hx
    cases i with
    | zero => simp at hi; subst hi; simp [okc] at hc
    | succ i => simp at hi hx; exact ht i hi x hx
  · rw [if_neg hc] at hi hx
    have a1 := hexU_is (c / 16) (by omega)
    have a2 := hexU_is (c % 16) (by omega)
    match i with
    | 0 => simp at hx; subst hx; exact a1
    | 1 => simp at hi; exact absurd hi (hexU_ne _ (by omega))
    | 2 => simp at hi; exact absurd hi (hexU_ne _ (by omega))
    | i + 3 =>
      simp at hi hx
      exact ht i hi x (by simpa using hx)
theorem good_render {s : List Nat} {b : Bool} (hs : ∀ c ∈ s, Sg c) (hb : b = true → s ≠ []) : Good (render (s, b)) := by
  have hall : ∀ c ∈ render (s, b), 33 ≤ c ∧ c ≤ 126 ∧ c ≠ 44 ∧ c ≠ 59 := by
    intro c hc
    simp only [render, List.mem_append, List.mem_flatMap] at hc
    rcases hc with ⟨a, ha, hc⟩ | hc
    · exact piece_print (hs a ha) c hc
    · cases b <;> simp at hc
      omega
  have hnext : ∀ (u : List Nat), (∀ c ∈ u, c < 256) → ∀ i, (u.flatMap piece ++ (if b then [61] else []))[i]? = some 61 → ∀ x, (u.flatMap piece ++ (if b then [61] else []))[i + 1]? = some x → isHexU x := by
    intro u
    induction u with
    | nil =>
      intro _ i hi x hx
      cases b
      · simp at hi
      · simp at hx
    | cons c u ih =>
      intro hu
      simp only [List.flatMap_cons, List.append_assoc]
      exact piece_next (hu c (.head _)) (ih fun x hx => hu x (.tail _ hx))
  refine ⟨hall, hnext s fun c hc => (hs c hc).1, ?_⟩
  cases s with
  | nil =>
    cases b
    · left; simp [render]
    · exact absurd rfl (hb rfl)
  | cons c s =>
    right
    have hc := hs c (.head _)
    simp only [render, List.flatMap_cons]
    by_cases h : okc c = true
    · right
      refine ⟨c, s.flatMap piece ++ (if b then [61] else []), by simp [piece, h], ?_, (hc.2 h).2.2⟩
      intro e; subst e; simp [okc] at h
    · left
      exact ⟨hexU (c / 16), hexU (c % 16) :: (s.flatMap piece ++ (if b then [61] else [])), by simp [piece, h], hexU_is _ (by have := hc.1; omega)⟩

/-! readings -/
noncomputable def bareOf (r : List Nat) : List Nat := if r.head? = some 61 then r.tail else r
/-- name and value -/
noncomputable def readName (r : List Nat) : List Nat := (bareOf r).takeWhile (· != 61)
noncomputable def readVal (r : List Nat) : Option (List Nat) := match (bareOf r).dropWhile (· != 61) with
  | [] => none
  | _ :: v => some v
noncomputable def rowOf (name : List Nat) (val : Option (List Nat)) : List Nat :=
  let head := if (∃ c, name.head? = some c ∧ isHexU c) then 61 :: name else name
  match val with
  | none => head
  | some v => head ++ 61 :: v
theorem take_drop_61 : ∀ (l : List Nat), (match l.dropWhile (· != 61) with | [] => l.takeWhile (· != 61) | _ :: v => l.takeWhile (· != 61) ++ 61 :: v) = l := by
  intro l
  induction l with
  | nil => rfl
  | cons c l ih =>
    by_cases h : c = 61
    · subst h; simp
    · have hb : (c != 61) = true := by simp [h]
      rw [List.dropWhile_cons, List.takeWhile_cons, if_pos hb, if_pos hb]
      revert ih
      cases l.dropWhile (· != 61) with
      | nil => intro ih; simp only at ih ⊢; rw [ih]
      | cons a v => intro ih; simp only [List.cons_append] at ih ⊢; rw [ih]
open Classical in
theorem rowOf_read {r : List Nat} (h : Good r) (hne : r ≠ []) : rowOf (readName r) (readVal r) = r := by
  have key := take_drop_61 (bareOf r)
  have hd : ∀ c, (readName r).head? = some c → (bareOf r).head? = some c := by
    intro c hc
    unfold readName at hc
    cases e : bareOf r with
    | nil => rw [e] at hc; simp at hc
    | cons a l =>
      rw [e] at hc
      by_cases ha : (a != 61) = true
      · rw [List.takeWhile_cons, if_pos ha] at hc; simpa using hc
      · rw [List.takeWhile_cons, if_neg ha] at hc; simp at hc
  rcases h.head with h0 | ⟨x, t, rfl, hx⟩ | ⟨x, t, rfl, hx, hnx⟩
  · exact absurd h0 hne
  · have eb : bareOf (61 :: x :: t) = x :: t := by simp [bareOf]
    have hx61 : (x != 61) = true := by
      have : x ≠ 61 := by intro e; subst e; unfold isHexU at hx; omega
      simp [this]
    have hn : ∃ c, (readName (61 :: x :: t)).head? = some c ∧ isHexU c := ⟨x, by
      unfold readName; rw [eb, List.takeWhile_cons, if_pos hx61]; rfl, hx⟩
    unfold rowOf
    simp only [if_pos hn]
    unfold readVal readName at *
    rw [eb] at key ⊢
    revert key
    cases (x :: t).dropWhile (· != 61) with
    | nil => intro key; simp only at key ⊢; rw [key]
    | cons a v => intro key; simp only [List.cons_append] at key ⊢; rw [key]
  · have eb : bareOf (x :: t) = x :: t := by simp [bareOf, hx]
    have hn : ¬ ∃ c, (readName (x :: t)).head? = some c ∧ isHexU c := by
      rintro ⟨c, hc, hh⟩
      have := hd c hc
      rw [eb] at this
      simp at this; subst this
      exact hnx hh
    unfold rowOf
    simp only [if_neg hn]
    unfold readVal readName at *
    rw [eb] at key ⊢
    revert key
    cases (x :: t).dropWhile (· != 61) with
    | nil => intro key; exact key
    | cons a v => intro key; exact key
end Mine
end
section
namespace Mine
open PySem PySem.Sre

/-! The machine: a fixed code, text and limit; the rest as it turns. -/
noncomputable def mk (code text : Array Nat) (lim lastStart start pc pos handed : Nat) (om must : Bool) (marks : Array (Option Nat)) (lm li : Int) (frames : List Sre.Frame) (weight : Nat) (answer : Option Bool) (seen : Seen) : M :=
  { code, text, lim, start, lastStart, mustAdvance := must, pc, pos, handed, outermost := om, marks, lastmark := lm, lastindex := li, frames, weight, answer, seen }

theorem runFor_stop {n : Nat} {m : M} (h : m.outcome.isSome = true) : M.runFor n m = m := by
  cases n with
  | zero => rfl
  | succ n => rw [M.runFor, if_pos h]
theorem runFor_add : ∀ (a b : Nat) (m : M), M.runFor (a + b) m = M.runFor b (M.runFor a m)
  | 0, b, m => by rw [Nat.zero_add]; rfl
  | a + 1, b, m => by
    by_cases h : m.outcome.isSome = true
    · rw [runFor_stop h, runFor_stop h, runFor_stop h]
    · have e : a + 1 + b = (a + b) + 1 := by omega
      rw [e, M.runFor, if_neg h, M.runFor, if_neg h, runFor_add a b]

/-- m comes to m' in at most k steps -/
noncomputable def To (k : Nat) (m m' : M) : Prop := ∃ n, n ≤ k ∧ M.runFor n m = m'
theorem To.refl (m : M) : To 0 m m := ⟨0, Nat.le_refl _, rfl⟩
theorem To.trans {a b : Nat} {m m' m'' : M} (h : To a m m') (h' : To b m' m'') : To (a + b) m m'' := by
  obtain ⟨n, hn, e⟩ := h
  obtain ⟨n', hn', e'⟩ := h'
  exact ⟨n + n', by omega, by rw [runFor_add, e, e']⟩
theorem To.step {m m' : M} (h : m.step = m') (ho : m.outcome = none) : To 1 m m' := ⟨1, Nat.le_refl _, by
  rw [M.runFor, if_neg (by rw [ho]; simp)]; exact h⟩
theorem To.le {a b : Nat} {m m' : M} (h : To a m m') (hab : a ≤ b) : To b m m' := by
  obtain ⟨n, hn, e⟩ := h
  exact ⟨n, by omega, e⟩

/-- how many signs from p on, n at most, are taken by f -/
noncomputable def cnt (f : Nat → Bool) (text : Array Nat) : (n p : Nat) → Nat
  | 0, _ => 0
  | n + 1, p => if f (text.getD p 0) then cnt f text n (p + 1) + 1 else 0
/-- what the item at i takes -/
noncomputable def Takes (code : Array Nat) (i : Nat) (f : Nat → Bool) : Prop := ∀ c seen, ∃ seen', accepts code i c seen = .ok (f c, seen')
theorem run_cnt {code text : Array Nat} {i : Nat} {f : Nat → Bool} (h : Takes code i f) : ∀ (n p found : Nat) (seen : Seen), ∃ seen', Sre.run code text i n p found seen = .ok (found + cnt f text n p, seen')
  | 0, p, found, seen => ⟨seen, rfl⟩
  | n + 1, p, found, seen => by
    obtain ⟨s1, e1⟩ := h (text.getD p 0) seen
    rw [Sre.run, e1]
    cases hf : f (text.getD p 0) with
    | false =>
      refine ⟨s1, ?_⟩
      simp only [cnt, hf]
      rfl
    | true =>
      obtain ⟨s2, e2⟩ := run_cnt h n (p + 1) (found + 1) s1
      refine ⟨s2, ?_⟩
      show Sre.run code text i n (p + 1) (found + 1) s1 = _
      rw [e2]
      simp only [cnt, hf, if_true]
      congr 2
      omega

noncomputable def tokC : Array Nat := #[14, 4, 0, 1, 4294967295, 6, 0, 24, 9, 0, 4294967295, 13, 4, 8, 12, 0, 1, 17, 0, 24, 19, 1, 4294967295, 13, 14, 21, 9, 0, 671092736, 0, 0, 0, 0, 0, 0, 8, 12, 0, 1, 17, 1, 1]
noncomputable def quoC : Array Nat := #[14, 4, 0, 3, 4294967295, 6, 0, 24, 9, 0, 4294967295, 13, 4, 8, 12, 0, 1, 16, 61, 24, 9, 0, 4294967295, 13, 4, 8, 12, 0, 1, 16, 34, 17, 0, 24, 12, 0, 4294967295, 13, 7, 21, 16, 34, 16, 92, 0, 1, 23, 19, 0, 4294967295, 16, 92, 2, 24, 12, 0, 4294967295, 13, 7, 21, 16, 34, 16, 92, 0, 1, 18, 17, 1, 16, 34, 1]
noncomputable def valC : Array Nat := #[14, 4, 0, 1, 4294967295, 6, 0, 24, 9, 0, 4294967295, 13, 4, 8, 12, 0, 1, 16, 61, 24, 9, 0, 4294967295, 13, 4, 8, 12, 0, 1, 17, 0, 24, 14, 0, 4294967295, 13, 9, 21, 8, 12, 16, 59, 16, 44, 0, 1, 17, 1, 1]
noncomputable def twinC : Array Nat := #[14, 4, 0, 0, 4294967295, 6, 0, 24, 13, 0, 4294967295, 13, 8, 16, 61, 8, 12, 16, 59, 0, 1, 1]

noncomputable def sp (c : Nat) : Bool := Unicode.isSpace c
end Mine
end
section
namespace Mine
open PySem PySem.Sre

structure Hd (code : Array Nat) : Prop where
  h0 : code.getD 0 0 = 14
  h2 : code.getD 2 0 = 0
  h5 : code.getD 5 0 = 6
  h6 : code.getD 6 0 = 0
  sz : 5 < code.size
theorem hd_tok : Hd tokC := ⟨rfl, rfl, rfl, rfl, by decide⟩
theorem hd_quo : Hd quoC := ⟨rfl, rfl, rfl, rfl, by decide⟩
theorem hd_val : Hd valC := ⟨rfl, rfl, rfl, rfl, by decide⟩
theorem hd_twin : Hd twinC := ⟨rfl, rfl, rfl, rfl, by decide⟩

noncomputable abbrev frS (s : Nat) (om : Bool) : Sre.Frame := { wait := .nextStart, pc := 5, pos := s, outermost := om }
/-- an attempt begins at s -/
noncomputable abbrev atS (code text : Array Nat) (lim ls s : Nat) (om must : Bool) (marks : Array (Option Nat)) (seen : Seen) : M :=
  mk code text lim ls s 5 s s om must marks (-1) (-1) [frS s om] 1 none seen

noncomputable def Fails (k : Nat) (m : M) : Prop := ∃ m', To k m m' ∧ m'.outcome = some .failed
theorem Fails.from {a b : Nat} {m m' : M} (h : To a m m') (h' : Fails b m') : Fails (a + b) m := by
  obtain ⟨m'', t, o⟩ := h'
  exact ⟨m'', h.trans t, o⟩
theorem Fails.le {a b : Nat} {m : M} (h : Fails a m) (hab : a ≤ b) : Fails b m := by
  obtain ⟨m', t, o⟩ := h
  exact ⟨m', t.le hab, o⟩

section
variable {code text : Array Nat} {lim ls s : Nat} {om must : Bool} {marks : Array (Option Nat)} {seen : Seen}
theorem at_no (H : Hd code) (hs : 0 < s) : ∃ seen', (atS code text lim ls s om must marks seen).step = { atS code text lim ls s om must marks seen with answer := some false, seen := seen' } := by
  refine ⟨(seen.add 6).add 43, ?_⟩
  have e0 : (s == 0) = false := by simp; omega
  simp only [atS, mk, M.step, M.exec, M.word, M.isAt, M.say, Option.isSome_none, Bool.false_eq_true, if_false, H.h5, H.h6, if_pos H.sz, Nat.add_zero, e0]
  rfl
theorem attempt_next (H : Hd code) (m : M) (hc : m.code = code) (hpc : m.pc = 5) (hw : m.weight = 0) (s' : Nat) (om' : Bool) :
    m.attemptFrom s' om' = { m with start := s', pos := s', handed := s', lastmark := -1, lastindex := -1, frames := frS s' om' :: m.frames, weight := 1, outermost := om' } := by
  have hf : m.hasFirstSet = false := by
    unfold M.hasFirstSet
    rw [hc, H.h0, H.h2]; rfl
  unfold M.attemptFrom
  rw [hf]
  simp only [M.attemptAt, M.attempt, hw, hpc, Bool.not_false, if_true]
  rw [if_neg (by simp)]
  simp [← hpc]
/-- the attempt at s is lost: what comes next -/
theorem lost_on (H : Hd code) {m : M} (hm : m = { atS code text lim ls s om must marks seen with answer := some false, pc := m.pc, pos := m.pos, handed := m.handed, outermost := m.outermost, marks := m.marks, lastmark := m.lastmark, lastindex := m.lastindex, seen := m.seen }) (hlt : s < ls) :
    m.step = atS code text lim ls (s + 1) false false m.marks m.seen := by
  have e : m.step = M.resume { m with answer := none, frames := [], weight := 0, pc := 5, pos := s, outermost := om } (frS s om) false := by
    rw [hm]; rfl
  rw [e]
  have e2 : M.resume { m with answer := none, frames := [], weight := 0, pc := 5, pos := s, outermost := om } (frS s om) false =
      (if s < m.lastStart then { m with answer := none, frames := [], weight := 0, pc := 5, pos := s, outermost := om, mustAdvance := false }.attemptFrom (s + 1) false else
        ({ m with answer := none, frames := [], weight := 0, pc := 5, pos := s, outermost := om } : M).say false) := rfl
  rw [e2]
  have hls : m.lastStart = ls := by rw [hm]; rfl
  rw [hls, if_pos hlt, attempt_next H _ (by rw [hm]; rfl) rfl rfl]
  rw [hm]; rfl
theorem lost_end {m : M} (hm : m = { atS code text lim ls s om must marks seen with answer := some false, pc := m.pc, pos := m.pos, handed := m.handed, outermost := m.outermost, marks := m.marks, lastmark := m.lastmark, lastindex := m.lastindex, seen := m.seen }) (hlt : ¬ s < ls) :
    Fails 2 m := by
  have e : m.step = M.resume { m with answer := none, frames := [], weight := 0, pc := 5, pos := s, outermost := om } (frS s om) false := by
    rw [hm]; rfl
  have e2 : M.resume { m with answer := none, frames := [], weight := 0, pc := 5, pos := s, outermost := om } (frS s om) false =
      (if s < m.lastStart then { m with answer := none, frames := [], weight := 0, pc := 5, pos := s, outermost := om, mustAdvance := false }.attemptFrom (s + 1) false else
        ({ m with answer := none, frames := [], weight := 0, pc := 5, pos := s, outermost := om } : M).say false) := rfl
  have hls : m.lastStart = ls := by rw [hm]; rfl
  have ho : m.outcome = none := by rw [hm]; rfl
  rw [e2, hls, if_neg hlt] at e
  refine Fails.from (To.step e ho) (b := 1) ⟨_, To.step rfl ?_, ?_⟩
  · exact ho
  · rw [hm]; rfl
theorem fails_from (H : Hd code) : ∀ (d s : Nat) (om must : Bool) (marks : Array (Option Nat)) (seen : Seen), 0 < s → s + d = ls ∨ (d = 0 ∧ ls ≤ s) → Fails (2 * d + 3) (atS code text lim ls s om must marks seen)
  | 0, s, om, must, marks, seen, hs, hd => by
    obtain ⟨seen', e⟩ := at_no (code := code) (text := text) (lim := lim) (ls := ls) (s := s) (om := om) (must := must) (marks := marks) (seen := seen) H hs
    exact (Fails.from (To.step e rfl) (lost_end (s := s) (ls := ls) (om := om) (must := must) (marks := marks) (seen := seen) rfl (by omega))).le (by omega)
  | d + 1, s, om, must, marks, seen, hs, hd => by
    obtain ⟨seen', e⟩ := at_no (code := code) (text := text) (lim := lim) (ls := ls) (s := s) (om := om) (must := must) (marks := marks) (seen := seen) H hs
    have l := lost_on (code := code) (text := text) (lim := lim) (s := s) (ls := ls) (om := om) (must := must) (marks := marks) (seen := seen) H (m := { atS code text lim ls s om must marks seen with answer := some false, seen := seen' }) rfl (by omega)
    exact (Fails.from (To.step e rfl) (Fails.from (To.step l rfl) (fails_from H d (s + 1) _ _ _ _ (by omega) (by omega)))).le (by omega)
end
end Mine
end
section
namespace Mine
open PySem PySem.Sre

theorem min_room {most : Nat} {lim pos : Nat} : min most ((lim : Int) - (pos : Int)).toNat = min most (lim - pos) := by
  congr 1; omega
section
variable {m : M} {n least most skip : Nat} {seen' : Seen}
noncomputable abbrev gbF (m : M) (n : Nat) : Sre.Frame := { wait := .giveBack, pc := m.pc, pos := m.pos + n, outermost := m.outermost, count := n, kept := { lastmark := m.lastmark, lastindex := m.lastindex, whole := false, marks := #[] } }
theorem step_rep (hpc : m.pc < m.code.size) (hop : m.code.getD m.pc 0 = 24) (h1 : m.code.getD (m.pc + 1) 0 = skip) (h2 : m.code.getD (m.pc + 2) 0 = least) (h3 : m.code.getD (m.pc + 3) 0 = most)
    (ho : m.outcome = none) (ha : m.answer = none) (hi : m.inner = none) (hw : m.weight < 1000) (hroom : least ≤ m.lim - m.pos) (hle : m.pos ≤ m.lim)
    (hrun : Sre.run m.code m.text (m.pc + 4) (min most (m.lim - m.pos)) m.pos 0 ((m.seen.add 24).add (m.code.getD (m.pc + 4) 0)) = .ok (n, seen')) (hn : least ≤ n) :
    m.step = { m with seen := seen', pc := m.pc + 1 + skip, pos := m.pos + n, handed := m.pos + n, frames := gbF m n :: m.frames, weight := m.weight + 1 } := by
  have e : m.step = m.exec := by
    unfold M.step
    rw [ho, ha]
    simp only [Option.isSome_none, Bool.false_eq_true, if_false, if_pos hpc]
  rw [e]
  unfold M.exec
  have hop' : ops[m.word 0]? = some .REPEAT_ONE := by
    unfold M.word
    rw [Nat.add_zero, hop]; rfl
  simp only [hop']
  have hr : ¬ ((least : Int) > (m.lim : Int) - (m.pos : Int)) := by omega
  simp only [M.word, Nat.add_zero, h1, h2, h3, hop, if_neg hr, min_room, hrun, Bool.false_eq_true, if_false]
  rw [if_neg (by omega)]
  simp only [M.afterRun, M.attempt, M.frame, M.keep, hi, M.word, Option.isSome_none, Bool.false_eq_true, if_false, h1]
  rw [if_neg (by simp; omega)]
  rfl
theorem step_rep_few (hpc : m.pc < m.code.size) (hop : m.code.getD m.pc 0 = 24) (h2 : m.code.getD (m.pc + 2) 0 = least) (h3 : m.code.getD (m.pc + 3) 0 = most)
    (ho : m.outcome = none) (ha : m.answer = none) (hroom : least ≤ m.lim - m.pos) (hle : m.pos ≤ m.lim)
    (hrun : Sre.run m.code m.text (m.pc + 4) (min most (m.lim - m.pos)) m.pos 0 ((m.seen.add 24).add (m.code.getD (m.pc + 4) 0)) = .ok (n, seen')) (hn : n < least) :
    m.step = { m with seen := seen', answer := some false } := by
  have e : m.step = m.exec := by
    unfold M.step
    rw [ho, ha]
    simp only [Option.isSome_none, Bool.false_eq_true, if_false, if_pos hpc]
  rw [e]
  unfold M.exec
  have hop' : ops[m.word 0]? = some .REPEAT_ONE := by
    unfold M.word
    rw [Nat.add_zero, hop]; rfl
  simp only [hop']
  have hr : ¬ ((least : Int) > (m.lim : Int) - (m.pos : Int)) := by omega
  simp only [M.word, Nat.add_zero, h2, h3, hop, if_neg hr, min_room, hrun, Bool.false_eq_true, if_false]
  rw [if_pos hn]
  rfl
end

/-- signs of a row: no blank among them -/
noncomputable def Prn (c : Nat) : Prop := 33 ≤ c ∧ c ≤ 126 ∧ c ≠ 44 ∧ c ≠ 59
noncomputable def tokF (c : Nat) : Bool := !((decide (c < 256) && (tokC.getD (27 + c / 32) 0).testBit (c % 32)) || Unicode.isSpace c)
noncomputable def valF (c : Nat) : Bool := !(Unicode.isSpace c || c == 59 || c == 44)
noncomputable def twinF (c : Nat) : Bool := c == 61 || Unicode.isSpace c || c == 59
theorem classes : ∀ c : Fin 127, 33 ≤ c.val → c.val ≠ 44 → c.val ≠ 59 → sp c.val = false ∧ tokF c.val = (c.val != 61) ∧ valF c.val = true ∧ twinF c.val = (c.val == 61) := by decide +kernel
theorem Prn.cls {c : Nat} (h : Prn c) : sp c = false ∧ tokF c = (c != 61) ∧ valF c = true ∧ twinF c = (c == 61) :=
  classes ⟨c, by have := h.2.1; omega⟩ h.1 h.2.2.1 h.2.2.2

theorem Takes.of {code : Array Nat} {i : Nat} {f : Nat → Bool} (h : ∀ c seen, (accepts code i c seen).map Prod.fst = .ok (f c)) : Takes code i f := by
  intro c seen
  have := h c seen
  cases e : accepts code i c seen with
  | error w => rw [e] at this; cases this
  | ok p =>
    rw [e] at this
    obtain ⟨b, s'⟩ := p
    have hb : b = f c := by simpa [Except.map] using this
    exact ⟨s', by rw [hb]⟩
theorem takes_tok : Takes tokC 23 tokF := by
  refine Takes.of fun c seen => ?_
  have h3 : 26 + (1 + c / 32) = 27 + c / 32 := by omega
  cases h : Unicode.isSpace c <;> cases h2 : (decide (c < 256) && (tokC.getD (27 + c / 32) 0).testBit (c % 32))
  all_goals (
    simp only [tokF, h, h2]
    simp only [accepts, show tokC.getD 23 0 = 13 from rfl, show ops[13]? = some Op.IN from rfl, show tokC.size = 42 from rfl]
    simp only [inSet, show tokC.getD 25 0 = 21 from rfl, show tokC.getD 26 0 = 9 from rfl, show tokC.getD 35 0 = 8 from rfl, show tokC.getD 36 0 = 12 from rfl, show tokC.getD 37 0 = 0 from rfl, show ops[21]? = some Op.NEGATE from rfl, show ops[9]? = some Op.CHARSET from rfl, show ops[8]? = some Op.CATEGORY from rfl, show ops[0]? = some Op.FAILURE from rfl, Nat.reduceAdd, Nat.add_zero, h3, h2, category, h, Nat.reduceDiv, Nat.reduceMod, Except.map, bind, Except.bind]
    rfl)
theorem takes_sp {code : Array Nat} {i : Nat} (h0 : code.getD i 0 = 13) (h2 : code.getD (i + 2) 0 = 8) (h3 : code.getD (i + 3) 0 = 12) (h4 : code.getD (i + 4) 0 = 0) (hs : 2 ≤ code.size) : Takes code i sp := by
  refine Takes.of fun c seen => ?_
  obtain ⟨k, hk⟩ : ∃ k, code.size = k + 2 := ⟨code.size - 2, by omega⟩
  cases h : Unicode.isSpace c
  all_goals (
    simp only [sp, h]
    simp only [accepts, h0, show ops[13]? = some Op.IN from rfl, hk]
    simp only [inSet, Nat.add_zero, h2, show i + 2 + 1 = i + 3 from rfl, show i + 2 + 2 = i + 4 from rfl, h3, h4, show ops[8]? = some Op.CATEGORY from rfl, show ops[0]? = some Op.FAILURE from rfl, category, h, Nat.reduceDiv, Nat.reduceMod, Except.map, bind, Except.bind]
    rfl)
theorem takes_val : Takes valC 35 valF := by
  refine Takes.of fun c seen => ?_
  cases h : Unicode.isSpace c <;> cases h2 : (c == 59) <;> cases h3 : (c == 44)
  all_goals (
    simp only [valF, h, h2, h3]
    simp only [accepts, show valC.getD 35 0 = 13 from rfl, show ops[13]? = some Op.IN from rfl, show valC.size = 49 from rfl]
    simp only [inSet, show valC.getD 37 0 = 21 from rfl, show valC.getD 38 0 = 8 from rfl, show valC.getD 39 0 = 12 from rfl, show valC.getD 40 0 = 16 from rfl, show valC.getD 41 0 = 59 from rfl, show valC.getD 42 0 = 16 from rfl, show valC.getD 43 0 = 44 from rfl, show valC.getD 44 0 = 0 from rfl, show ops[21]? = some Op.NEGATE from rfl, show ops[16]? = some Op.LITERAL from rfl, show ops[8]? = some Op.CATEGORY from rfl, show ops[0]? = some Op.FAILURE from rfl, Nat.reduceAdd, Nat.add_zero, h2, h3, category, h, Nat.reduceDiv, Nat.reduceMod, Except.map, bind, Except.bind]
    rfl)
theorem takes_twin : Takes twinC 11 twinF := by
  refine Takes.of fun c seen => ?_
  cases h : Unicode.isSpace c <;> cases h2 : (c == 61) <;> cases h3 : (c == 59)
  all_goals (
    simp only [twinF, h, h2, h3]
    simp only [accepts, show twinC.getD 11 0 = 13 from rfl, show ops[13]? = some Op.IN from rfl, show twinC.size = 22 from rfl]
    simp only [inSet, show twinC.getD 13 0 = 16 from rfl, show twinC.getD 14 0 = 61 from rfl, show twinC.getD 15 0 = 8 from rfl, show twinC.getD 16 0 = 12 from rfl, show twinC.getD 17 0 = 16 from rfl, show twinC.getD 18 0 = 59 from rfl, show twinC.getD 19 0 = 0 from rfl, show ops[16]? = some Op.LITERAL from rfl, show ops[8]? = some Op.CATEGORY from rfl, show ops[0]? = some Op.FAILURE from rfl, Nat.reduceAdd, Nat.add_zero, h2, h3, category, h, Nat.reduceDiv, Nat.reduceMod, Except.map, bind, Except.bind]
    rfl)
end Mine
end
section
namespace Mine
open PySem PySem.Sre

theorem cnt_zero {f : Nat → Bool} {text : Array Nat} {p : Nat} (h : f (text.getD p 0) = false) : ∀ n, cnt f text n p = 0
  | 0 => rfl
  | n + 1 => by rw [cnt, h]; rfl
theorem cnt_list {f : Nat → Bool} {text : Array Nat} : ∀ (n p : Nat), p + n = text.size → cnt f text n p = ((text.toList.drop p).takeWhile f).length
  | 0, p, h => by
    rw [List.drop_eq_nil_of_le (by simp; omega)]; rfl
  | n + 1, p, h => by
    have hp : p < text.toList.length := by simp; omega
    rw [List.drop_eq_getElem_cons hp, List.takeWhile_cons, cnt]
    have e : text.getD p 0 = text.toList[p] := by
      simp [Array.getD, show p < text.size by omega]
    rw [e]
    by_cases hf : f text.toList[p] = true
    · rw [if_pos hf, if_pos hf, List.length_cons, cnt_list n (p + 1) (by omega)]
    · rw [if_neg hf, if_neg hf]; rfl

theorem seen14 : (({} : Seen).add 14) = ({} : Seen).add 14 := rfl
/-- a search begins -/
theorem search_at {code text : Array Nat} (H : Hd code) (hh : (header code).2 = 5) {groups p lim : Nat} {must : Bool} (hp : p ≤ lim) (hl : (header code).1 ≤ lim - p) :
    ∃ ls seen, (ls = if (header code).1 > 1 then max p (lim - ((header code).1 - 1)) else lim) ∧ forSearch code text groups p lim must = atS code text lim ls p true must (Array.replicate (2 * groups) none) seen := by
  have h1 : ¬ ((decide (p > lim) || decide (lim - p < (header code).1)) = true) := by
    have h1 : (decide (p > lim) = false) := decide_eq_false (by omega)
    have h2 : (decide (lim - p < (header code).1) = false) := decide_eq_false (by omega)
    rw [h1, h2]; simp
  simp only [forSearch, if_neg h1]
  have hint : ((header code).2 != 0 && code.getD 2 0 &&& 5 != 0) = false := by rw [hh, H.h2]; rfl
  refine ⟨if (header code).1 > 1 then max p (lim - ((header code).1 - 1)) else lim, if (header code).2 == 0 then {} else ({} : Seen).add 14, rfl, ?_⟩
  rw [attempt_next H _ rfl (by exact hh) rfl, hint]
  simp only [Bool.not_false, Bool.and_true, decide_eq_true_eq]
  show mk code text lim (if (header code).1 > 1 then max p (lim - ((header code).1 - 1)) else lim) p (header code).2 p p true must (Array.replicate (2 * groups) none) (-1) (-1) [frS p true] 1 none (if (header code).2 == 0 then {} else ({} : Seen).add 14) = _
  rw [hh]
theorem search_short {code text : Array Nat} {groups p lim : Nat} {must : Bool} (hl : lim - p < (header code).1) : Fails 1 (forSearch code text groups p lim must) := by
  unfold forSearch
  rw [if_pos (by simp only [Bool.or_eq_true, decide_eq_true_eq]; exact .inr hl)]
  exact ⟨_, To.step rfl rfl, rfl⟩

/-- the head of an attempt at 0: AT, and the blanks, of which there are none -/
theorem head0 {code text : Array Nat} (H : Hd code) (hsz : 11 < code.size) (h7 : code.getD 7 0 = 24) (h8 : code.getD 8 0 = 9) (h9 : code.getD 9 0 = 0) (h10 : code.getD 10 0 = 4294967295) (ht : Takes code 11 sp)
    {lim ls : Nat} {om must : Bool} {marks : Array (Option Nat)} {seen : Seen} (hc : lim = 0 ∨ sp (text.getD 0 0) = false) :
    ∃ seen', To 2 (atS code text lim ls 0 om must marks seen) (mk code text lim ls 0 17 0 0 om must marks (-1) (-1)
      [{ wait := .giveBack, pc := 7, pos := 0, outermost := om, count := 0, kept := { lastmark := -1, lastindex := -1, whole := false, marks := #[] } }, frS 0 om] 2 none seen') := by
  have e1 : (atS code text lim ls 0 om must marks seen).step = mk code text lim ls 0 7 0 0 om must marks (-1) (-1) [frS 0 om] 1 none ((seen.add 6).add 43) := by
    simp only [atS, mk, M.step, M.exec, M.word, M.isAt, M.say, Option.isSome_none, Bool.false_eq_true, if_false, H.h5, H.h6, if_pos H.sz, Nat.add_zero]
    rfl
  have hz : ∀ n, cnt sp text (min n (lim - 0)) 0 = 0 := by
    intro n
    rcases hc with h | h
    · subst h; simp [cnt]
    · exact cnt_zero h _
  obtain ⟨s2, hrun⟩ := run_cnt ht (text := text) (min 4294967295 (lim - 0)) 0 0 ((((seen.add 6).add 43).add 24).add (code.getD (7 + 4) 0))
  rw [hz] at hrun
  have e2 := step_rep (m := mk code text lim ls 0 7 0 0 om must marks (-1) (-1) [frS 0 om] 1 none ((seen.add 6).add 43)) (n := 0) (least := 0) (most := 4294967295) (skip := 9) (seen' := s2)
    (by show 7 < code.size; omega) h7 h8 h9 h10 rfl rfl rfl (by show 1 < 1000; omega) (Nat.zero_le _) (Nat.zero_le _) hrun (Nat.le_refl _)
  exact ⟨s2, (To.step e1 rfl).trans (To.step e2 rfl)⟩

noncomputable abbrev g7 : Sre.Frame := { wait := .giveBack, pc := 7, pos := 0, outermost := true, count := 0, kept := { lastmark := -1, lastindex := -1, whole := false, marks := #[] } }
noncomputable abbrev g19 (n : Nat) : Sre.Frame := { wait := .giveBack, pc := 19, pos := n, outermost := true, count := n, kept := { lastmark := 0, lastindex := -1, whole := false, marks := #[] } }
/-- TOKEN on a text that begins with an = (or is empty): nothing is found -/
theorem tok_fails {text : Array Nat} {lim : Nat} (hc : lim = 0 ∨ text.getD 0 0 = 61) : Fails (2 * lim + 20) (forSearch tokC text 1 0 lim false) := by
  by_cases h0 : lim = 0
  · exact (search_short (by rw [h0]; decide)).le (by omega)
  have hc61 : text.getD 0 0 = 61 := hc.resolve_left h0
  obtain ⟨ls, seen, hls, e⟩ := search_at (text := text) (groups := 1) (must := false) hd_tok (show (header tokC).2 = 5 from rfl) (Nat.zero_le lim) (show (header tokC).1 ≤ lim - 0 by show 1 ≤ lim - 0; omega)
  have hls' : ls = lim := by rw [hls]; rfl
  subst hls'
  rw [e]
  obtain ⟨s2, t1⟩ := head0 (code := tokC) (text := text) (lim := ls) (ls := ls) (om := true) (must := false) (marks := Array.replicate (2 * 1) none) (seen := seen) hd_tok (by decide) rfl rfl rfl rfl (takes_sp rfl rfl rfl rfl (by decide)) (.inr (by rw [hc61]; decide +kernel))
  have t2 : To 1 (mk tokC text ls ls 0 17 0 0 true false (Array.replicate (2 * 1) none) (-1) (-1) [g7, frS 0 true] 2 none s2)
     (mk tokC text ls ls 0 19 0 0 true false #[some 0, none] 0 (-1) [g7, frS 0 true] 2 none (s2.add 17)) := To.step rfl rfl
  obtain ⟨s3, hrun⟩ := run_cnt takes_tok (text := text) (min 4294967295 (ls - 0)) 0 0 (((s2.add 17).add 24).add (tokC.getD (19 + 4) 0))
  rw [cnt_zero (by rw [hc61]; decide +kernel)] at hrun
  have e3 := step_rep_few (m := mk tokC text ls ls 0 19 0 0 true false #[some 0, none] 0 (-1) [g7, frS 0 true] 2 none (s2.add 17)) (n := 0) (least := 1) (most := 4294967295) (seen' := s3)
      (by show 19 < tokC.size; decide) rfl rfl rfl rfl rfl (by show 1 ≤ ls - 0; omega) (Nat.zero_le _) hrun (by decide)
  have t3 := To.step e3 rfl
  have t4 : To 1 _ (mk tokC text ls ls 0 7 0 0 true false #[some 0, none] (-1) (-1) [frS 0 true] 1 (some false) s3) := To.step (m := { mk tokC text ls ls 0 19 0 0 true false #[some 0, none] 0 (-1) [g7, frS 0 true] 2 none (s2.add 17) with seen := s3, answer := some false }) rfl rfl
  have e5 := lost_on (code := tokC) (text := text) (lim := ls) (ls := ls) (s := 0) (om := true) (must := false) (marks := #[]) (seen := seen) hd_tok (m := mk tokC text ls ls 0 7 0 0 true false #[some 0, none] (-1) (-1) [frS 0 true] 1 (some false) s3) rfl (by omega)
  have f := fails_from (code := tokC) (text := text) (lim := ls) (ls := ls) hd_tok (ls - 1) 1 false false #[some 0, none] s3 (by omega) (by omega)
  exact (Fails.from t1 (Fails.from t2 (Fails.from t3 (Fails.from t4 (Fails.from (To.step e5 rfl) f))))).le (by omega)

/-- what a search that finds leaves -/
structure Found (m : M) (b e : Nat) (marks : Array (Option Nat)) (lm li : Int) : Prop where
  out : m.outcome = some .matched
  start : m.start = b
  handed : m.handed = e
  marks : m.marks = marks
  lm : m.lastmark = lm
  li : m.lastindex = li
noncomputable def Finds (k : Nat) (m : M) (b e : Nat) (marks : Array (Option Nat)) (lm li : Int) : Prop := ∃ m', To k m m' ∧ Found m' b e marks lm li

noncomputable def Plain (f : Sre.Frame) : Prop := f.wait = .giveBack ∨ f.wait = .nextStart
theorem unwind : ∀ (fs : List Sre.Frame) (m : M), (∀ f ∈ fs, Plain f) → m.frames = fs → m.answer = some true → m.outcome = none →
    Finds (fs.length + 1) m m.start m.handed m.marks m.lastmark m.lastindex
  | [], m, _, hf, ha, ho => by
    have e : m.step = { m with outcome := some .matched } := by
      unfold M.step
      rw [ho, ha, hf]
      rfl
    exact ⟨_, To.step e ho, rfl, rfl, rfl, rfl, rfl, rfl⟩
  | f :: fs, m, hp, hf, ha, ho => by
    have e : m.step = { m with answer := some true, frames := fs, weight := m.weight - (1 + f.kept.marks.size), pc := f.pc, pos := f.pos, outermost := f.outermost } := by
      unfold M.step
      rw [ho, ha, hf]
      simp only [Option.isSome_none, Bool.false_eq_true, if_false]
      unfold M.resume
      rcases hp f (.head _) with h | h <;> rw [h] <;> rfl
    obtain ⟨m', t, F⟩ := unwind fs { m with answer := some true, frames := fs, weight := m.weight - (1 + f.kept.marks.size), pc := f.pc, pos := f.pos, outermost := f.outermost } (fun g hg => hp g (.tail _ hg)) rfl rfl ho
    exact ⟨m', ((To.step e ho).trans t).le (by simp; omega), F⟩
theorem Finds.from {a b : Nat} {m m' : M} {x y : Nat} {mk : Array (Option Nat)} {l i : Int} (h : To a m m') (h' : Finds b m' x y mk l i) : Finds (a + b) m x y mk l i := by
  obtain ⟨m'', t, F⟩ := h'
  exact ⟨m'', h.trans t, F⟩
theorem Finds.le {a b : Nat} {m : M} {x y : Nat} {mk : Array (Option Nat)} {l i : Int} (h : Finds a m x y mk l i) (hab : a ≤ b) : Finds b m x y mk l i := by
  obtain ⟨m', t, F⟩ := h
  exact ⟨m', t.le hab, F⟩

/-- TOKEN on a text that begins with another sign -/
theorem tok_finds {text : Array Nat} {lim n : Nat} (hsmall : lim ≤ 4294967295) (h0 : 0 < lim) (hs : sp (text.getD 0 0) = false) (hn : n = cnt tokF text lim 0) (hn1 : 1 ≤ n) :
    Finds 20 (forSearch tokC text 1 0 lim false) 0 n #[some 0, some n] 1 1 := by
  obtain ⟨ls, seen, hls, e⟩ := search_at (text := text) (groups := 1) (must := false) hd_tok (show (header tokC).2 = 5 from rfl) (Nat.zero_le lim) (show (header tokC).1 ≤ lim - 0 by show 1 ≤ lim - 0; omega)
  rw [e]
  obtain ⟨s2, t1⟩ := head0 (code := tokC) (text := text) (lim := lim) (ls := ls) (om := true) (must := false) (marks := Array.replicate (2 * 1) none) (seen := seen) hd_tok (by decide) rfl rfl rfl rfl (takes_sp rfl rfl rfl rfl (by decide)) (.inr hs)
  have t2 : To 1 (mk tokC text lim ls 0 17 0 0 true false (Array.replicate (2 * 1) none) (-1) (-1) [g7, frS 0 true] 2 none s2)
     (mk tokC text lim ls 0 19 0 0 true false #[some 0, none] 0 (-1) [g7, frS 0 true] 2 none (s2.add 17)) := To.step rfl rfl
  obtain ⟨s3, hrun⟩ := run_cnt takes_tok (text := text) (min 4294967295 (lim - 0)) 0 0 (((s2.add 17).add 24).add (tokC.getD (19 + 4) 0))
  rw [show 0 + cnt tokF text (min 4294967295 (lim - 0)) 0 = n from by rw [Nat.sub_zero, Nat.min_eq_right hsmall, ← hn, Nat.zero_add]] at hrun
  have e3 := step_rep (m := mk tokC text lim ls 0 19 0 0 true false #[some 0, none] 0 (-1) [g7, frS 0 true] 2 none (s2.add 17)) (n := n) (least := 1) (most := 4294967295) (skip := 19) (seen' := s3)
      (by show 19 < tokC.size; decide) rfl rfl rfl rfl rfl rfl rfl (by show 2 < 1000; omega) (by show 1 ≤ lim - 0; omega) (Nat.zero_le _) hrun hn1
  have t3 := To.step e3 rfl
  have t3' : To 1 (mk tokC text lim ls 0 19 0 0 true false #[some 0, none] 0 (-1) [g7, frS 0 true] 2 none (s2.add 17)) (mk tokC text lim ls 0 39 n n true false #[some 0, none] 0 (-1) [g19 n, g7, frS 0 true] 3 none s3) := by
    have ep : 0 + n = n := Nat.zero_add n
    have : (mk tokC text lim ls 0 19 0 0 true false #[some 0, none] 0 (-1) [g7, frS 0 true] 2 none (s2.add 17)).pos + n = n := ep
    rw [gbF, this] at t3
    exact t3
  have t4 : To 1 (mk tokC text lim ls 0 39 n n true false #[some 0, none] 0 (-1) [g19 n, g7, frS 0 true] 3 none s3)
      (mk tokC text lim ls 0 41 n n true false #[some 0, some n] 1 1 [g19 n, g7, frS 0 true] 3 none (s3.add 17)) := To.step (by kernel_rfl!) rfl
  have t5 : To 1 (mk tokC text lim ls 0 41 n n true false #[some 0, some n] 1 1 [g19 n, g7, frS 0 true] 3 none (s3.add 17))
      (mk tokC text lim ls 0 41 n n true false #[some 0, some n] 1 1 [g19 n, g7, frS 0 true] 3 (some true) ((s3.add 17).add 1)) := To.step rfl rfl
  have u := unwind [g19 n, g7, frS 0 true] (mk tokC text lim ls 0 41 n n true false #[some 0, some n] 1 1 [g19 n, g7, frS 0 true] 3 (some true) ((s3.add 17).add 1))
    (by intro f hf; simp only [List.mem_cons, List.not_mem_nil, or_false] at hf; rcases hf with rfl | rfl | rfl <;> first | exact .inl rfl | exact .inr rfl) rfl rfl rfl
  exact (Finds.from t1 (Finds.from t2 (Finds.from t3' (Finds.from t4 (Finds.from t5 u))))).le (by show 2 + (1 + (1 + (1 + (1 + (3 + 1))))) ≤ 20; decide)
end Mine
end
section
namespace Mine
open PySem PySem.Sre

section
variable {m : M} {c : Nat}
theorem step_lit (hpc : m.pc < m.code.size) (hop : m.code.getD m.pc 0 = 16) (h1 : m.code.getD (m.pc + 1) 0 = c) (ho : m.outcome = none) (ha : m.answer = none) (hlt : m.pos < m.lim) (hc : m.text.getD m.pos 0 = c) :
    m.step = { m with seen := m.seen.add 16, pc := m.pc + 2, pos := m.pos + 1 } := by
  have e : m.step = m.exec := by
    unfold M.step
    rw [ho, ha]
    simp only [Option.isSome_none, Bool.false_eq_true, if_false, if_pos hpc]
  rw [e]
  unfold M.exec
  have hop' : ops[m.word 0]? = some .LITERAL := by
    unfold M.word
    rw [Nat.add_zero, hop]; rfl
  simp only [hop']
  rw [if_neg (by show ¬ m.pos ≥ m.lim; omega)]
  have ha' : ∀ seen, accepts m.code m.pc (m.text.getD m.pos 0) seen = .ok (true, seen) := by
    intro seen
    unfold accepts
    rw [hop, h1, hc]
    simp only [show ops[16]? = some Op.LITERAL from rfl, beq_self_eq_true]
  simp only [ha', M.word, Nat.add_zero, hop]
  have hw : itemWidth m.code m.pc = 2 := by unfold itemWidth; rw [hop]; rfl
  rw [hw]
theorem step_lit_no (hpc : m.pc < m.code.size) (hop : m.code.getD m.pc 0 = 16) (h1 : m.code.getD (m.pc + 1) 0 = c) (ho : m.outcome = none) (ha : m.answer = none) (hlt : m.pos < m.lim) (hc : m.text.getD m.pos 0 ≠ c) :
    m.step = { m with seen := m.seen.add 16, answer := some false } := by
  have e : m.step = m.exec := by
    unfold M.step
    rw [ho, ha]
    simp only [Option.isSome_none, Bool.false_eq_true, if_false, if_pos hpc]
  rw [e]
  unfold M.exec
  have hop' : ops[m.word 0]? = some .LITERAL := by
    unfold M.word
    rw [Nat.add_zero, hop]; rfl
  simp only [hop']
  rw [if_neg (by show ¬ m.pos ≥ m.lim; omega)]
  have ha' : ∀ seen, accepts m.code m.pc (m.text.getD m.pos 0) seen = .ok (false, seen) := by
    intro seen
    unfold accepts
    rw [hop, h1]
    simp only [show ops[16]? = some Op.LITERAL from rfl]
    rw [beq_false_of_ne hc]
  simp only [ha', M.word, Nat.add_zero, hop, M.say]
end

noncomputable abbrev gAt (pc pos : Nat) (n : Int) (lm li : Int) : Sre.Frame := { wait := .giveBack, pc := pc, pos := pos, outermost := true, count := n, kept := { lastmark := lm, lastindex := li, whole := false, marks := #[] } }

/-- AT, blanks, =, blanks: the head of QUOTED and VALUE upon a text that begins with an = -/
theorem head1 {code text : Array Nat} (H : Hd code) (hsz : 30 < code.size) (h7 : code.getD 7 0 = 24) (h8 : code.getD 8 0 = 9) (h9 : code.getD 9 0 = 0) (h10 : code.getD 10 0 = 4294967295) (ht : Takes code 11 sp)
    (h17 : code.getD 17 0 = 16) (h18 : code.getD 18 0 = 61) (h19 : code.getD 19 0 = 24) (h20 : code.getD 20 0 = 9) (h21 : code.getD 21 0 = 0) (h22 : code.getD 22 0 = 4294967295) (ht' : Takes code 23 sp)
    {lim ls : Nat} {marks : Array (Option Nat)} {seen : Seen} (h0 : 0 < lim) (hc : text.getD 0 0 = 61) (hc1 : lim = 1 ∨ sp (text.getD 1 0) = false) :
    ∃ seen', To 4 (atS code text lim ls 0 true false marks seen) (mk code text lim ls 0 29 1 1 true false marks (-1) (-1) [gAt 19 1 0 (-1) (-1), g7, frS 0 true] 3 none seen') := by
  obtain ⟨s2, t1⟩ := head0 (code := code) (text := text) (lim := lim) (ls := ls) (om := true) (must := false) (marks := marks) (seen := seen) H (by omega) h7 h8 h9 h10 ht (.inr (by rw [hc]; decide +kernel))
  have e2 := step_lit (m := mk code text lim ls 0 17 0 0 true false marks (-1) (-1) [g7, frS 0 true] 2 none s2) (c := 61) (by show 17 < code.size; omega) h17 h18 rfl rfl h0 hc
  have t2 : To 1 (mk code text lim ls 0 17 0 0 true false marks (-1) (-1) [g7, frS 0 true] 2 none s2) (mk code text lim ls 0 19 1 0 true false marks (-1) (-1) [g7, frS 0 true] 2 none (s2.add 16)) := To.step e2 rfl
  have hz : ∀ n, cnt sp text (min n (lim - 1)) 1 = 0 := by
    intro n
    rcases hc1 with h | h
    · subst h; simp [cnt]
    · exact cnt_zero h _
  obtain ⟨s3, hrun⟩ := run_cnt ht' (text := text) (min 4294967295 (lim - 1)) 1 0 (((s2.add 16).add 24).add (code.getD (19 + 4) 0))
  rw [hz] at hrun
  have e3 := step_rep (m := mk code text lim ls 0 19 1 0 true false marks (-1) (-1) [g7, frS 0 true] 2 none (s2.add 16)) (n := 0) (least := 0) (most := 4294967295) (skip := 9) (seen' := s3)
    (by show 19 < code.size; omega) h19 h20 h21 h22 rfl rfl rfl (by show 2 < 1000; omega) (Nat.zero_le _) (by show 1 ≤ lim; omega) hrun (Nat.le_refl _)
  exact ⟨s3, t1.trans (t2.trans (To.step e3 rfl))⟩

/-- QUOTED upon an = that no mark follows -/
theorem quo_fails {text : Array Nat} {lim : Nat} (hc : lim < 3 ∨ (text.getD 0 0 = 61 ∧ sp (text.getD 1 0) = false ∧ text.getD 1 0 ≠ 34)) : Fails (2 * lim + 20) (forSearch quoC text 1 0 lim false) := by
  by_cases h0 : lim < 3
  · exact (search_short (by show lim - 0 < 3; omega)).le (by omega)
  obtain ⟨hc0, hc1, hc2⟩ := hc.resolve_left h0
  obtain ⟨ls, seen, hls, e⟩ := search_at (text := text) (groups := 1) (must := false) hd_quo (show (header quoC).2 = 5 from rfl) (Nat.zero_le lim) (show (header quoC).1 ≤ lim - 0 by show 3 ≤ lim - 0; omega)
  have hls' : ls = max 0 (lim - 2) := by rw [hls]; rfl
  rw [e]
  obtain ⟨s2, t1⟩ := head1 (code := quoC) (text := text) (lim := lim) (ls := ls) (marks := Array.replicate (2 * 1) none) (seen := seen) hd_quo (by decide) rfl rfl rfl rfl (takes_sp rfl rfl rfl rfl (by decide)) rfl rfl rfl rfl rfl rfl (takes_sp rfl rfl rfl rfl (by decide)) (by omega) hc0 (.inr hc1)
  have e2 := step_lit_no (m := mk quoC text lim ls 0 29 1 1 true false (Array.replicate (2 * 1) none) (-1) (-1) [gAt 19 1 0 (-1) (-1), g7, frS 0 true] 3 none s2) (c := 34) (by show 29 < quoC.size; decide) rfl rfl rfl rfl (by show 1 < lim; omega) hc2
  have t2 : To 1 (mk quoC text lim ls 0 29 1 1 true false (Array.replicate (2 * 1) none) (-1) (-1) [gAt 19 1 0 (-1) (-1), g7, frS 0 true] 3 none s2) (mk quoC text lim ls 0 29 1 1 true false (Array.replicate (2 * 1) none) (-1) (-1) [gAt 19 1 0 (-1) (-1), g7, frS 0 true] 3 (some false) (s2.add 16)) := To.step e2 rfl
  have t3 : To 1 (mk quoC text lim ls 0 29 1 1 true false (Array.replicate (2 * 1) none) (-1) (-1) [gAt 19 1 0 (-1) (-1), g7, frS 0 true] 3 (some false) (s2.add 16)) (mk quoC text lim ls 0 19 1 1 true false (Array.replicate (2 * 1) none) (-1) (-1) [g7, frS 0 true] 2 (some false) (s2.add 16)) := To.step rfl rfl
  have t4 : To 1 (mk quoC text lim ls 0 19 1 1 true false (Array.replicate (2 * 1) none) (-1) (-1) [g7, frS 0 true] 2 (some false) (s2.add 16)) (mk quoC text lim ls 0 7 0 1 true false (Array.replicate (2 * 1) none) (-1) (-1) [frS 0 true] 1 (some false) (s2.add 16)) := To.step rfl rfl
  have e5 := lost_on (code := quoC) (text := text) (lim := lim) (ls := ls) (s := 0) (om := true) (must := false) (marks := #[]) (seen := seen) hd_quo (m := mk quoC text lim ls 0 7 0 1 true false (Array.replicate (2 * 1) none) (-1) (-1) [frS 0 true] 1 (some false) (s2.add 16)) rfl (by omega)
  have f := fails_from (code := quoC) (text := text) (lim := lim) (ls := ls) hd_quo (ls - 1) 1 false false (Array.replicate (2 * 1) none) (s2.add 16) (by omega) (by omega)
  exact (Fails.from t1 (Fails.from t2 (Fails.from t3 (Fails.from t4 (Fails.from (To.step e5 rfl) f))))).le (by omega)

/-- VALUE upon an = and signs that it takes -/
theorem val_finds {text : Array Nat} {lim : Nat} (hsmall : lim ≤ 4294967295) (h0 : 0 < lim) (hc : text.getD 0 0 = 61) (hc1 : lim = 1 ∨ sp (text.getD 1 0) = false) (hn : cnt valF text (lim - 1) 1 = lim - 1) :
    Finds 20 (forSearch valC text 1 0 lim false) 0 lim #[some 1, some lim] 1 1 := by
  obtain ⟨ls, seen, hls, e⟩ := search_at (text := text) (groups := 1) (must := false) hd_val (show (header valC).2 = 5 from rfl) (Nat.zero_le lim) (show (header valC).1 ≤ lim - 0 by show 1 ≤ lim - 0; omega)
  rw [e]
  obtain ⟨s2, t1⟩ := head1 (code := valC) (text := text) (lim := lim) (ls := ls) (marks := Array.replicate (2 * 1) none) (seen := seen) hd_val (by decide) rfl rfl rfl rfl (takes_sp rfl rfl rfl rfl (by decide)) rfl rfl rfl rfl rfl rfl (takes_sp rfl rfl rfl rfl (by decide)) h0 hc hc1
  have t2 : To 1 (mk valC text lim ls 0 29 1 1 true false (Array.replicate (2 * 1) none) (-1) (-1) [gAt 19 1 0 (-1) (-1), g7, frS 0 true] 3 none s2) (mk valC text lim ls 0 31 1 1 true false #[some 1, none] 0 (-1) [gAt 19 1 0 (-1) (-1), g7, frS 0 true] 3 none (s2.add 17)) := To.step (by kernel_rfl!) rfl
  obtain ⟨s3, hrun⟩ := run_cnt takes_val (text := text) (min 4294967295 (lim - 1)) 1 0 (((s2.add 17).add 24).add (valC.getD (31 + 4) 0))
  rw [show 0 + cnt valF text (min 4294967295 (lim - 1)) 1 = lim - 1 from by rw [Nat.min_eq_right (by omega), hn, Nat.zero_add]] at hrun
  have e3 := step_rep (m := mk valC text lim ls 0 31 1 1 true false #[some 1, none] 0 (-1) [gAt 19 1 0 (-1) (-1), g7, frS 0 true] 3 none (s2.add 17)) (n := lim - 1) (least := 0) (most := 4294967295) (skip := 14) (seen' := s3)
      (by show 31 < valC.size; decide) rfl rfl rfl rfl rfl rfl rfl (by show 3 < 1000; omega) (Nat.zero_le _) (by show 1 ≤ lim; omega) hrun (Nat.zero_le _)
  have t3 : To 1 (mk valC text lim ls 0 31 1 1 true false #[some 1, none] 0 (-1) [gAt 19 1 0 (-1) (-1), g7, frS 0 true] 3 none (s2.add 17)) (mk valC text lim ls 0 46 lim lim true false #[some 1, none] 0 (-1) [gAt 31 lim ((lim - 1 : Nat) : Int) 0 (-1), gAt 19 1 0 (-1) (-1), g7, frS 0 true] 4 none s3) := by
    have ep : (mk valC text lim ls 0 31 1 1 true false #[some 1, none] 0 (-1) [gAt 19 1 0 (-1) (-1), g7, frS 0 true] 3 none (s2.add 17)).pos + (lim - 1) = lim := by show 1 + (lim - 1) = lim; omega
    have t := To.step e3 rfl
    rw [gbF, ep] at t
    exact t
  have t4 : To 1 (mk valC text lim ls 0 46 lim lim true false #[some 1, none] 0 (-1) [gAt 31 lim ((lim - 1 : Nat) : Int) 0 (-1), gAt 19 1 0 (-1) (-1), g7, frS 0 true] 4 none s3) (mk valC text lim ls 0 48 lim lim true false #[some 1, some lim] 1 1 [gAt 31 lim ((lim - 1 : Nat) : Int) 0 (-1), gAt 19 1 0 (-1) (-1), g7, frS 0 true] 4 none (s3.add 17)) := To.step (by kernel_rfl!) rfl
  have t5 : To 1 (mk valC text lim ls 0 48 lim lim true false #[some 1, some lim] 1 1 [gAt 31 lim ((lim - 1 : Nat) : Int) 0 (-1), gAt 19 1 0 (-1) (-1), g7, frS 0 true] 4 none (s3.add 17)) (mk valC text lim ls 0 48 lim lim true false #[some 1, some lim] 1 1 [gAt 31 lim ((lim - 1 : Nat) : Int) 0 (-1), gAt 19 1 0 (-1) (-1), g7, frS 0 true] 4 (some true) ((s3.add 17).add 1)) := To.step (by kernel_rfl!) rfl
  have u := unwind [gAt 31 lim ((lim - 1 : Nat) : Int) 0 (-1), gAt 19 1 0 (-1) (-1), g7, frS 0 true] (mk valC text lim ls 0 48 lim lim true false #[some 1, some lim] 1 1 [gAt 31 lim ((lim - 1 : Nat) : Int) 0 (-1), gAt 19 1 0 (-1) (-1), g7, frS 0 true] 4 (some true) ((s3.add 17).add 1))
    (by intro f hf; simp only [List.mem_cons, List.not_mem_nil, or_false] at hf; rcases hf with rfl | rfl | rfl | rfl <;> first | exact .inl rfl | exact .inr rfl) rfl rfl rfl
  exact (Finds.from t1 (Finds.from t2 (Finds.from t3 (Finds.from t4 (Finds.from t5 u))))).le (by show 4 + (1 + (1 + (1 + (1 + (4 + 1))))) ≤ 20; decide)
theorem val_fails {text : Array Nat} : Fails 20 (forSearch valC text 1 0 0 false) := (search_short (by decide)).le (by decide)

/-- the junk at the head -/
theorem twin_finds {text : Array Nat} {lim : Nat} (h0 : 0 < lim) (hn : cnt twinF text (min 4294967295 lim) 0 = 1) :
    Finds 20 (forSearch twinC text 0 0 lim false) 0 1 #[] (-1) (-1) := by
  obtain ⟨ls, seen, hls, e⟩ := search_at (text := text) (groups := 0) (must := false) hd_twin (show (header twinC).2 = 5 from rfl) (Nat.zero_le lim) (show (header twinC).1 ≤ lim - 0 from Nat.zero_le _)
  rw [e]
  have t1 : To 1 (atS twinC text lim ls 0 true false (Array.replicate (2 * 0) none) seen) (mk twinC text lim ls 0 7 0 0 true false #[] (-1) (-1) [frS 0 true] 1 none ((seen.add 6).add 43)) := To.step (by kernel_rfl!) rfl
  obtain ⟨s3, hrun⟩ := run_cnt takes_twin (text := text) (min 4294967295 (lim - 0)) 0 0 ((((seen.add 6).add 43).add 24).add (twinC.getD (7 + 4) 0))
  rw [show 0 + cnt twinF text (min 4294967295 (lim - 0)) 0 = 1 from by rw [Nat.sub_zero, hn]] at hrun
  have e3 := step_rep (m := mk twinC text lim ls 0 7 0 0 true false #[] (-1) (-1) [frS 0 true] 1 none ((seen.add 6).add 43)) (n := 1) (least := 0) (most := 4294967295) (skip := 13) (seen' := s3)
      (by show 7 < twinC.size; decide) rfl rfl rfl rfl rfl rfl rfl (by show 1 < 1000; omega) (Nat.zero_le _) (Nat.zero_le _) hrun (Nat.zero_le _)
  have t2 : To 1 (mk twinC text lim ls 0 7 0 0 true false #[] (-1) (-1) [frS 0 true] 1 none ((seen.add 6).add 43)) (mk twinC text lim ls 0 21 1 1 true false #[] (-1) (-1) [gAt 7 1 1 (-1) (-1), frS 0 true] 2 none s3) := To.step e3 rfl
  have t3 : To 1 (mk twinC text lim ls 0 21 1 1 true false #[] (-1) (-1) [gAt 7 1 1 (-1) (-1), frS 0 true] 2 none s3) (mk twinC text lim ls 0 21 1 1 true false #[] (-1) (-1) [gAt 7 1 1 (-1) (-1), frS 0 true] 2 (some true) (s3.add 1)) := To.step (by kernel_rfl!) rfl
  have u := unwind [gAt 7 1 1 (-1) (-1), frS 0 true] (mk twinC text lim ls 0 21 1 1 true false #[] (-1) (-1) [gAt 7 1 1 (-1) (-1), frS 0 true] 2 (some true) (s3.add 1))
    (by intro f hf; simp only [List.mem_cons, List.not_mem_nil, or_false] at hf; rcases hf with rfl | rfl <;> first | exact .inl rfl | exact .inr rfl) rfl rfl rfl
  exact (Finds.from t1 (Finds.from t2 (Finds.from t3 u))).le (by show 1 + (1 + (1 + (2 + 1))) ≤ 20; decide)
theorem twin_fails {text : Array Nat} {lim : Nat} (h0 : 0 < lim) : Fails (2 * lim + 20) (forSearch twinC text 0 1 lim false) := by
  obtain ⟨ls, seen, hls, e⟩ := search_at (text := text) (groups := 0) (must := false) hd_twin (show (header twinC).2 = 5 from rfl) (show 1 ≤ lim by omega) (show (header twinC).1 ≤ lim - 1 from Nat.zero_le _)
  have hls' : ls = lim := by rw [hls]; rfl
  rw [e]
  exact (fails_from (code := twinC) (text := text) (lim := lim) (ls := ls) hd_twin (ls - 1) 1 true false _ seen (by omega) (by omega)).le (by omega)
end Mine
end
section
namespace Mine
open PySem PySem.Spec PySem.Calls PyProof.Rows PySem.Builtin.Re

theorem slot_search : Slot "re.Pattern" "search" "re.Pattern.search" :=
  .of (owner := "re.Pattern") (n := "search") (by rw [typeLookup_type, builtinLookup_eq_fast]; kernel_rfl) (by decide +kernel) (by decide +kernel) (by decide +kernel)
    (.inr (by rw [find?_eq_fast]; decide +kernel)) (by rw [isSubtype_type]; kernel_rfl)
theorem slot_subn : Slot "re.Pattern" "subn" "re.Pattern.subn" :=
  .of (owner := "re.Pattern") (n := "subn") (by rw [typeLookup_type, builtinLookup_eq_fast]; kernel_rfl) (by decide +kernel) (by decide +kernel) (by decide +kernel)
    (.inr (by rw [find?_eq_fast]; decide +kernel)) (by rw [isSubtype_type]; kernel_rfl)
theorem slot_span : Slot "re.Match" "span" "re.Match.span" :=
  .of (owner := "re.Match") (n := "span") (by rw [typeLookup_type, builtinLookup_eq_fast]; kernel_rfl) (by decide +kernel) (by decide +kernel) (by decide +kernel)
    (.inr (by rw [find?_eq_fast]; decide +kernel)) (by rw [isSubtype_type]; kernel_rfl)
theorem slot_group : Slot "re.Match" "group" "re.Match.group" :=
  .of (owner := "re.Match") (n := "group") (by rw [typeLookup_type, builtinLookup_eq_fast]; kernel_rfl) (by decide +kernel) (by decide +kernel) (by decide +kernel)
    (.inr (by rw [find?_eq_fast]; decide +kernel)) (by rw [isSubtype_type]; kernel_rfl)
theorem entry_search : entryFor table "re.Pattern.search" = some Builtin.«re.Pattern.search» := entryFor_of_tree (by kernel_rfl)
theorem entry_subn : entryFor table "re.Pattern.subn" = some Builtin.«re.Pattern.subn» := entryFor_of_tree (by kernel_rfl)
theorem entry_loop : entryFor table "re.Pattern.sub.loop" = some Builtin.«re.Pattern.sub.loop» := entryFor_of_tree (by kernel_rfl)
theorem entry_span : entryFor table "re.Match.span" = some Builtin.«re.Match.span» := entryFor_of_tree (by kernel_rfl)
theorem entry_group : entryFor table "re.Match.group" = some Builtin.«re.Match.group» := entryFor_of_tree (by kernel_rfl)
theorem args_search (a b : Value) : argsOk "re.Pattern.search" ⟨[a, b], []⟩ := by unfold argsOk; kernel_rfl
theorem args_subn (a b c : Value) : argsOk "re.Pattern.subn" ⟨[a, b, c], []⟩ := by unfold argsOk; kernel_rfl
theorem args_span (a b : Value) : argsOk "re.Match.span" ⟨[a, b], []⟩ := by unfold argsOk; kernel_rfl
theorem args_group (a b : Value) : argsOk "re.Match.group" ⟨[a, b], []⟩ := by unfold argsOk; kernel_rfl
theorem attrs_pattern : PlainAttrs "re.Pattern" := ⟨⟨"object.__getattribute__", by rw [typeLookup_type, builtinLookup_eq_fast]; kernel_rfl, PySem.F.canon_object_ga⟩, by rw [typeLookup_type, builtinLookup_eq_fast]; kernel_rfl⟩
theorem attrs_match : PlainAttrs "re.Match" := ⟨⟨"object.__getattribute__", by rw [typeLookup_type, builtinLookup_eq_fast]; kernel_rfl, PySem.F.canon_object_ga⟩, by rw [typeLookup_type, builtinLookup_eq_fast]; kernel_rfl⟩
theorem ty_search : typeOf (.builtin "re.Pattern.search") = pure (.type "method_descriptor") := by show builtinType _ = _; unfold builtinType builtinKind; rw [find?_eq_fast]; kernel_rfl
theorem ty_subn : typeOf (.builtin "re.Pattern.subn") = pure (.type "method_descriptor") := by show builtinType _ = _; unfold builtinType builtinKind; rw [find?_eq_fast]; kernel_rfl
theorem ty_span : typeOf (.builtin "re.Match.span") = pure (.type "method_descriptor") := by show builtinType _ = _; unfold builtinType builtinKind; rw [find?_eq_fast]; kernel_rfl
theorem ty_group : typeOf (.builtin "re.Match.group") = pure (.type "method_descriptor") := by show builtinType _ = _; unfold builtinType builtinKind; rw [find?_eq_fast]; kernel_rfl
theorem match_bool : typeLookup (.type "re.Match") "__bool__" = pure none := by rw [typeLookup_type, builtinLookup_eq_fast]; kernel_rfl
theorem match_len : typeLookup (.type "re.Match") "__len__" = pure none := by rw [typeLookup_type, builtinLookup_eq_fast]; kernel_rfl
theorem match_string : typeLookup (.type "re.Match") "string" = pure (some (.builtin "re.Match.string")) := by rw [typeLookup_type, builtinLookup_eq_fast]; kernel_rfl
end Mine
end
section
namespace Mine
open PySem PySem.Spec PySem.Calls PyProof.Rows PySem.Builtin.Re

section
variable {M : Model} {A : Around} {E : Value → Shared → Prop} {s : Shared}

theorem drive {m' : Sre.M} (ho : m'.outcome.isSome = true) {Q : Sre.M → Shared → Prop} (h : Q m' s) : ∀ (T n : Nat) (m : Sre.M), n < 4 * T → Sre.M.runFor n m = m' → wpAny M A (reDrive T m) Q E s
  | 0, n, m, hn, _ => absurd hn (by omega)
  | T + 1, n, m, hn, e => by
    show wpAny M A (if (m.runFor 4).outcome.isSome = true then pure (m.runFor 4) else (rule "sre.turn" >>= fun _ => reDrive T (m.runFor 4))) Q E s
    by_cases hc : (m.runFor 4).outcome.isSome = true
    · rw [if_pos hc]
      have : m.runFor 4 = m' := by
        by_cases h4 : n ≤ 4
        · have e4 : 4 = n + (4 - n) := by omega
          rw [e4, runFor_add, e, runFor_stop ho]
        · have e4 : n = 4 + (n - 4) := by omega
          rw [e4, runFor_add, runFor_stop hc] at e
          exact e
      exact wpAny_pure (this ▸ h)
    · rw [if_neg hc]
      refine wpAny_bind (wpAny_rule ?_)
      have h4 : 4 < n := by
        apply Nat.lt_of_not_le
        intro h4
        have e4 : 4 = n + (4 - n) := by omega
        apply hc
        rw [e4, runFor_add, e, runFor_stop ho]
        exact ho
      have e4 : n = 4 + (n - 4) := by omega
      rw [e4, runFor_add] at e
      exact drive ho h T (n - 4) _ (by omega) e

theorem forIn_notes {f : Nat → PUnit → Sem (ForInStep PUnit)} {Q : PUnit → Shared → Prop} (hf : ∀ i (Q' : ForInStep PUnit → Shared → Prop), Q' (.yield ⟨⟩) s → wpAny M A (f i ⟨⟩) Q' E s) (h : Q ⟨⟩ s) : ∀ l : List Nat, wpAny M A (forIn l PUnit.unit f) Q E s
  | [] => wpAny_pure h
  | i :: l => by
    rw [List.forIn_cons]
    exact wpAny_bind (hf i _ (forIn_notes hf h l))

theorem run_end {m m' : Sre.M} {k : Nat} {o : Sre.Outcome} {Q : Option Sre.M → Shared → Prop} (hk : k < 1000000) (t : To k m m') (ho : m'.outcome = some o)
    (hm : o = .matched → Q (some m') s) (hf : o = .failed → Q none s) (hs : ∀ w, o ≠ .stuck w) : wpAny M A (reRunToEnd m) Q E s := by
  obtain ⟨n, hn, e⟩ := t
  unfold reRunToEnd
  refine wpAny_bind (drive (m' := m') (by rw [ho]; rfl) ?_ (2 ^ 64) n m (by omega) e)
  refine wpAny_bind (forIn_notes (fun i Q' hq => ?_) ?_ _)
  · split
    · exact wpAny_bind (wpAny_rule (wpAny_pure hq))
    · exact wpAny_pure hq
  rw [ho]
  cases o with
  | matched => exact wpAny_pure (hm rfl)
  | failed => exact wpAny_pure (hf rfl)
  | stuck w => exact absurd rfl (hs w)
theorem run_fails {m : Sre.M} {k : Nat} {Q : Option Sre.M → Shared → Prop} (hk : k < 1000000) (t : Fails k m) (h : Q none s) : wpAny M A (reRunToEnd m) Q E s := by
  obtain ⟨m', t, o⟩ := t
  exact run_end hk t o (fun e => nomatch e) (fun _ => h) (fun _ e => nomatch e)
theorem run_finds {m : Sre.M} {k b e : Nat} {marks : Array (Option Nat)} {lm li : Int} {Q : Option Sre.M → Shared → Prop} (hk : k < 1000000) (t : Finds k m b e marks lm li)
    (h : ∀ m', Found m' b e marks lm li → Q (some m') s) : wpAny M A (reRunToEnd m) Q E s := by
  obtain ⟨m', t, o⟩ := t
  exact run_end hk t o.out (fun _ => h m' o) (fun e => nomatch e) (fun _ e => nomatch e)

/-- a pattern as the top made it -/
structure IsPat (h : Heap) (P : Addr) (code : Array Nat) (groups : Nat) : Prop where
  pat : ∃ o fs, h.get? P = some o ∧ o.cls = .type "re.Pattern" ∧ o.dict = none ∧ o.data = .fields fs ∧ fs.getD 6 .none = .int 0 0 ∧ fs.getD 2 .none = .int groups 0 ∧
    ∃ C oc cs n, fs.getD 5 .none = .ref C ∧ h.get? C = some oc ∧ oc.data = .seq cs n ∧ (cs.map reRawOf).map (·.toNat) = code
theorem IsPat.typeIs {P : Addr} {code : Array Nat} {g : Nat} (h : IsPat s.heap P code g) : s.TypeIs (.ref P) "re.Pattern" := by
  obtain ⟨o, fs, ho, hc, _⟩ := h.pat
  exact ⟨o, ho, hc⟩
theorem IsPat.keeps {h h' : Heap} {P : Addr} {code : Array Nat} {g : Nat} (x : IsPat h P code g) (k : ∀ b o, h.get? b = some o → h'.get? b = some o) : IsPat h' P code g := by
  obtain ⟨o, fs, ho, hc, hdn, hd, h6, h2, C, oc, cs, n, h5, hoc, hdc, hcode⟩ := x.pat
  exact ⟨o, fs, k _ _ ho, hc, hdn, hd, h6, h2, C, oc, cs, n, h5, k _ _ hoc, hdc, hcode⟩

theorem raw_items {C : Addr} {oc : Obj} {cs : Array Value} {n : Nat} {Q : Array Int → Shared → Prop} (ho : s.heap.get? C = some oc) (hd : oc.data = .seq cs n) (h : Q (cs.map reRawOf) s) : wpAny M A (reRawItems (.ref C)) Q E s := by
  unfold reRawItems seqItems?
  refine wpAny_bind (wpAny_bind (wpAny_load ho ?_))
  rw [hd]
  exact wpAny_pure (wpAny_pure h)

noncomputable abbrev tgt (P : Addr) (x : Str) (t : Tok) (code : Array Nat) (g pos lim : Nat) : ReTarget := { pattern := .ref P, string := .str x t, code, text := x.cps, kind := 0, groups := g, pos, lim }
theorem target_ {id f : String} {P : Addr} {code : Array Nat} {g : Nat} {x : Str} {t : Tok} {Q : ReTarget → Shared → Prop} (H : IsPat s.heap P code g) (hx : x.length ≤ sizeLine) (h : Q (tgt P x t code g 0 x.cps.size) s) :
    wpAny M A (reTarget id f ⟨[.ref P, .str x t], []⟩) Q E s := by
  obtain ⟨o, fs, ho, hc, hdn, hd, h6, h2, C, oc, cs, n, h5, hoc, hdc, hcode⟩ := H.pat
  unfold reTarget
  refine wpAny_bind (m := reNamed id f ["string", "pos", "endpos"] 1 [.str x t] []) (wpAny_of_eq rfl ?_)
  refine wpAny_bind (wpAny_pure (wpAny_bind (wpAny_pure ?_)))
  refine wpAny_bind (wpAny_fieldsOf ho hd ?_)
  refine wpAny_bind (m := reTextOf (.str x t)) (wpAny_of_eq rfl ?_)
  rw [h6]
  refine wpAny_bind (m := reNoCollectionInside (.str x t) 0) (wpAny_of_eq rfl ?_)
  rw [h5]
  refine wpAny_bind (raw_items hoc hdc ?_)
  refine wpAny_pure ?_
  rw [h2, hcode]
  have e1 : min ((2 ^ 63 - 1 : Int)).toNat x.cps.size = x.cps.size := by
    have : x.cps.size ≤ sizeLine := hx
    rw [show sizeLine = 16777216 from rfl] at this
    omega
  have e2 : min ((0 : Int)).toNat x.cps.size = 0 := by simp
  show Q { pattern := .ref P, string := .str x t, code, text := x.cps, kind := 0, groups := reRawNat (.int g 0), pos := min ((0 : Int)).toNat x.cps.size, lim := min ((2 ^ 63 - 1 : Int)).toNat x.cps.size } s
  rw [e1, e2]
  exact h
end

noncomputable def matchO (x : Str) (t : Tok) (P : Addr) (lim : Nat) (li : Int) (a : Addr) : Obj := { cls := .type "re.Match", data := .fields #[.str x t, .ref P, rawInt (0 : Nat), rawInt lim, rawInt li, .ref a] }
noncomputable def spansO (vs : List Int) : Obj := { cls := .type "tuple", data := .seq (vs.map rawInt).toArray }

section
variable {prog : Program} {w : World} {A : Around} {E : Value → Shared → Prop} {s : Shared} {h₀ : Heap} {L : Addr} {m : Str → Option Value} {news : List (Addr × Obj)}
theorem search_method {P : Addr} {code : Array Nat} {g : Nat} {pl : Sem Bool} {Q : Value × List Value → Shared → Prop} (H : IsPat s.heap P code g) (h : Q (.builtin "re.Pattern.search", [.ref P]) s) :
    wpAny (model prog w) A (getMethod (.ref P) "search" pl) Q E s := by
  refine getMethod_builtin H.typeIs attrs_pattern slot_search ty_search (fun a ha => ?_) h
  obtain ⟨o, fs, ho, hc, hdn, _⟩ := H.pat
  cases ha
  exact ⟨o, ho, hdn⟩
theorem search_none {P : Addr} {code : Array Nat} {g k : Nat} {x : Str} {t : Tok} {Q : Value → Shared → Prop} (H : IsPat s.heap P code g) (hx : x.length ≤ sizeLine)
    (hf : Fails k (Sre.forSearch code x.cps g 0 x.cps.size false)) (hk : k < 1000000) (h : Q .none s) : wpAny (model prog w) A (call (.builtin "re.Pattern.search") [.ref P, .str x t]) Q E s := by
  refine wpAny_call_entry slot_search H.typeIs entry_search ?_ (args_search _ _)
  unfold Builtin.«re.Pattern.search»
  refine wpAny_bind (target_ H hx ?_)
  unfold reAnswer
  exact wpAny_bind (run_fails hk hf (wpAny_pure ⟨.none, rfl, h⟩))
theorem search_one {P : Addr} {code : Array Nat} {k e b1 e1 : Nat} {li : Int} {x : Str} {t : Tok} {Q : Value → Shared → Prop} (F : Fr h₀ L s.heap m) (N : News h₀ L s.heap news) (H : IsPat s.heap P code 1) (hx : x.length ≤ sizeLine)
    (hf : Finds k (Sre.forSearch code x.cps 1 0 x.cps.size false) 0 e #[some b1, some e1] 1 li) (hk : k < 1000000) (hbe : b1 ≤ e1)
    (h : ∀ a tp h', Fr h₀ L h' m → News h₀ L h' ((a, matchO x t P x.cps.size li tp) :: (tp, spansO [0, e, b1, e1]) :: news) → tp < a → (∀ p ∈ news, p.1 < tp) → Q (.ref a) { s with heap := h' }) :
    wpAny (model prog w) A (call (.builtin "re.Pattern.search") [.ref P, .str x t]) Q E s := by
  refine wpAny_call_entry slot_search H.typeIs entry_search ?_ (args_search _ _)
  unfold Builtin.«re.Pattern.search»
  refine wpAny_bind (target_ H hx ?_)
  unfold reAnswer
  refine wpAny_bind (run_finds hk hf fun m' fo => ?_)
  refine wpAny_bind ?_
  unfold reNewMatch
  simp only [fo.start, fo.handed, fo.marks, fo.lm, fo.li]
  split
  · rename_i hc
    have hc' : ((decide (((2 * 0 + 1 : Nat) : Int) ≤ 1) && decide (e1 < b1)) || false) = true := hc
    rw [decide_eq_false (show ¬ e1 < b1 by omega)] at hc'
    exact absurd hc' (by decide)
  refine wpAny_bind (newTuple_N F N (fun h1 F1 N1 => ?_) (by show (4 : Nat) ≤ sizeLine; decide))
  refine wpAny_newObj_type ?_ (by show (6 : Nat) ≤ sizeLine + 2; decide)
  refine wpAny_pure ⟨_, rfl, h _ s.heap.objs.size _ (F1.push _) ?_ ?_ ?_⟩
  · exact N1.push F1 (matchO x t P x.cps.size li s.heap.objs.size)
  · exact Heap.lt_size (N1 _ (.head _)).1
  · intro p hp; exact Heap.lt_size (N p hp).1
end
end Mine
end
section
namespace Mine
open PySem PySem.Spec PySem.Calls PyProof.Rows PySem.Builtin.Re

theorem ty_string : typeOf (.builtin "re.Match.string") = pure (.type "member_descriptor") := by kernel_rfl
theorem slot_md_get : Slot "member_descriptor" "__get__" "member_descriptor.__get__" :=
  .of (owner := "member_descriptor") (n := "__get__") (by rw [typeLookup_type, builtinLookup_eq_fast]; kernel_rfl) (by decide +kernel) (by decide +kernel) (by decide +kernel)
    (.inl (by rw [find?_eq_fast]; decide +kernel)) (by rw [isSubtype_type]; kernel_rfl)
theorem md_set : typeLookup (.type "member_descriptor") "__set__" = pure (some (.builtin "member_descriptor.__set__")) := by rw [typeLookup_type, builtinLookup_eq_fast]; kernel_rfl
theorem entry_md_get : entryFor table "member_descriptor.__get__" = some Builtin.«member_descriptor.__get__» := entryFor_of_tree (by kernel_rfl)
theorem args_md_get (a b c : Value) : argsOk "member_descriptor.__get__" ⟨[a, b, c], []⟩ := by unfold argsOk; kernel_rfl
theorem entry_string : entryFor table "re.Match.string" = some Builtin.«re.Match.string» := entryFor_of_tree (by kernel_rfl)
theorem owner_string : (".".intercalate ("re.Match.string".cutAt '.').dropLast) = "re.Match" := by
  have e0 : "re.Match.string".cutAt '.' = ["re", "Match", "string"] := by first | rfl | decide +kernel
  rw [e0]; decide +kernel
theorem sub_string_owner : isSubtype (.type "re.Match") (.type (".".intercalate ("re.Match.string".cutAt '.').dropLast)) = pure true := by
  rw [owner_string, isSubtype_type]; kernel_rfl
theorem slot_match_ga : Slot "re.Match" "__getattribute__" "object.__getattribute__" :=
  .of (owner := "object") (n := "__getattribute__") (by rw [typeLookup_type, builtinLookup_eq_fast]; kernel_rfl) (by decide +kernel) (by decide +kernel) (by decide +kernel)
    (.inl (by rw [find?_eq_fast]; decide +kernel)) (by rw [isSubtype_type]; kernel_rfl)
theorem entry_object_ga : entryFor table "object.__getattribute__" = some Builtin.«object.__getattribute__» := entryFor_of_tree (by kernel_rfl)
theorem args_object_ga (a b : Value) : argsOk "object.__getattribute__" ⟨[a, b], []⟩ := by unfold argsOk; kernel_rfl

section
variable {prog : Program} {w : World} {A : Around} {E : Value → Shared → Prop} {h : Heap} {g : Array GenState} {d : Drawn} {t : Nat} {os : OsState} {a : Addr} {o : Obj} {vs : Array Value} {v : Value}
theorem string_get {R : Result → Shared → Prop} (hx : h.get? a = some o) (hc : o.cls = .type "re.Match") (hd : o.data = .fields vs) (hv : vs[0]? = some v) (hq : R (.ok (.ret v)) ⟨h, g, d, t, os⟩) :
    codeAny (model prog w) A (.call (.builtin "member_descriptor.__get__") ⟨[.builtin "re.Match.string", .ref a, .type "re.Match"], []⟩) R ⟨h, g, d, t, os⟩ := by
  have hT : (⟨h, g, d, t, os⟩ : Shared).TypeIs (.ref a) "re.Match" := ⟨_, hx, hc⟩
  have hT5 : (⟨h, g, d, t, os⟩ : Shared).TypeIs (.builtin "re.Match.string") "member_descriptor" := ty_string
  have f8 := sub_string_owner
  refine codeAny_call_builtin slot_md_get.plain entry_md_get (slot_md_get.check _ _ _ _ _ _ _ _ hT5 (args_md_get _ _ _) ?_)
  repeat (any_goals (first | assumption | wp_step))
  refine ⟨Code.quiet_builtin _ (by decide +kernel), codeAny_builtin entry_string ?_⟩
  show wpAny _ _ (field (.ref a) 0 >>= fun v => ret v) _ _ _
  exact wpAny_bind (wpAny_field hx hd hv (wpAny_pure hq))
theorem string_entry {tk : Tok} {Q : Fin → Shared → Prop} (hx : h.get? a = some o) (hc : o.cls = .type "re.Match") (hd : o.data = .fields vs) (hv : vs[0]? = some v) (hq : Q (.done (.ret v)) ⟨h, g, d, t, os⟩) :
    wpAny (model prog w) A (Builtin.«object.__getattribute__» ⟨[.ref a, .str "string" tk], []⟩) Q E ⟨h, g, d, t, os⟩ := by
  have hT : (⟨h, g, d, t, os⟩ : Shared).TypeIs (.ref a) "re.Match" := ⟨_, hx, hc⟩
  have hT5 : (⟨h, g, d, t, os⟩ : Shared).TypeIs (.builtin "re.Match.string") "member_descriptor" := ty_string
  have f4 := match_string
  have f5 := ty_string
  have f6 := slot_md_get.lookup
  have f7 := md_set
  repeat (any_goals (first | assumption | wp_step))
  all_goals (refine string_get hx hc hd hv ?_)
  repeat (any_goals (first | assumption | wp_step))
theorem string_attr {x : Str} {u : Tok} {Q : Value → Shared → Prop} {b : Bool} (hx : h.get? a = some o) (hc : o.cls = .type "re.Match") (hd : o.data = .fields vs) (hv : vs[0]? = some (.str x u)) (hq : Q (.str x u) ⟨h, g, d, t + 1, os⟩) :
    wpAny (model prog w) A (getAttr (.ref a) "string" b) Q E ⟨h, g, d, t, os⟩ := by
  have hT : (⟨h, g, d, t + 1, os⟩ : Shared).TypeIs (.ref a) "re.Match" := ⟨_, hx, hc⟩
  have f2 := slot_match_ga.lookup
  have f3 := slot_match_ga.bind (.ref a)
  unfold getAttr
  refine wpAny_bind (wpAny_mkText ?_)
  unfold getAttrBy
  refine wpAny_holding ?_
  refine wpAny_bind (wpAny_typeOf hT ?_)
  refine wpAny_bind (wpAny_of_eq f2 ?_)
  show wpAny _ _ (getAttrByItsOwn (.ref a) (.str "string" t) (.type "re.Match") (.builtin "object.__getattribute__") true b) _ _ _
  unfold getAttrByItsOwn
  refine wpAny_bind (m := hookBefore (.type "re.Match")) (wpAny_pure ?_)
  refine wpAny_bind (wpAny_attempt (wpAny_holding ?_))
  have ec : callGetattribute (.ref a) (.str "string" t) (.builtin "object.__getattribute__") b = boundAndCalled (.builtin "object.__getattribute__") (.ref a) (.str "string" t) := by
    unfold callGetattribute; cases b <;> rfl
  rw [ec]
  unfold boundAndCalled
  refine wpAny_bind (wpAny_of_eq f3 ?_)
  refine wpAny_call ?_
  refine codeAny_call_builtin slot_match_ga.plain entry_object_ga (slot_match_ga.check _ _ _ _ _ _ _ _ hT (args_object_ga _ _) ?_)
  refine string_entry hx hc hd hv ?_
  show wpAny _ _ (handedOut (.str x u)) _ _ _
  exact wpAny_of_eq rfl hq
end

section
variable {prog : Program} {w : World} {A : Around} {E : Value → Shared → Prop} {s : Shared} {h₀ : Heap} {L : Addr} {m : Str → Option Value} {news : List (Addr × Obj)}
theorem truthy_match {a tp P : Addr} {x : Str} {t : Tok} {lim : Nat} {li : Int} {Q : Bool → Shared → Prop} (hm : s.heap.get? a = some (matchO x t P lim li tp)) (h : Q true s) : wpAny (model prog w) A (truthy (.ref a)) Q E s := by
  have hT : s.TypeIs (.ref a) "re.Match" := ⟨_, hm, rfl⟩
  unfold truthy
  refine wpAny_bind (wpAny_callSpecial?_none hT match_bool ?_)
  refine wpAny_bind (wpAny_specialOf hT match_len ?_)
  exact wpAny_pure h
theorem span_method {a tp P : Addr} {x : Str} {t : Tok} {lim : Nat} {li : Int} {pl : Sem Bool} {Q : Value × List Value → Shared → Prop} (hm : s.heap.get? a = some (matchO x t P lim li tp)) (h : Q (.builtin "re.Match.span", [.ref a]) s) :
    wpAny (model prog w) A (getMethod (.ref a) "span" pl) Q E s :=
  getMethod_builtin ⟨_, hm, rfl⟩ attrs_match slot_span ty_span (fun b hb => by cases hb; exact ⟨_, hm, rfl⟩) h
theorem group_method {a tp P : Addr} {x : Str} {t : Tok} {lim : Nat} {li : Int} {pl : Sem Bool} {Q : Value × List Value → Shared → Prop} (hm : s.heap.get? a = some (matchO x t P lim li tp)) (h : Q (.builtin "re.Match.group", [.ref a]) s) :
    wpAny (model prog w) A (getMethod (.ref a) "group" pl) Q E s :=
  getMethod_builtin ⟨_, hm, rfl⟩ attrs_match slot_group ty_group (fun b hb => by cases hb; exact ⟨_, hm, rfl⟩) h
theorem found_ {a tp P : Addr} {x : Str} {t : Tok} {lim : Nat} {li : Int} {vs : List Int} {Q : ReFound → Shared → Prop} (hm : s.heap.get? a = some (matchO x t P lim li tp)) (ht : s.heap.get? tp = some (spansO vs))
    (h : Q { fields := #[.str x t, .ref P, rawInt (0 : Nat), rawInt lim, rawInt li, .ref tp], spans := vs.toArray } s) : wpAny (model prog w) A (reFound (.ref a)) Q E s := by
  unfold reFound
  refine wpAny_bind (wpAny_fieldsOf hm rfl ?_)
  have e : ((vs.map rawInt).toArray).map reRawOf = vs.toArray := by
    rw [List.map_toArray, List.map_map]
    congr 1
    exact (List.map_congr_left fun _ _ => rfl).trans (List.map_id _)
  exact wpAny_bind (raw_items ht rfl (wpAny_pure (by rw [e]; exact h)))
theorem groupNo {x : ReFound} {k : Nat} {u : Tok} {Q : Nat → Shared → Prop} (hk : 2 * k < x.spans.size) (h : Q k s) : wpAny (model prog w) A (reGroupNumber x (.int k u)) Q E s := by
  unfold reGroupNumber
  refine wpAny_bind (m := asInt? (.int k u)) (wpAny_pure ?_)
  refine wpAny_bind (m := asIndex (.int k u)) (wpAny_of_eq rfl ?_)
  show wpAny _ _ (if (decide ((k : Int) < 0) || decide (2 * (k : Int) ≥ (x.spans.size : Int))) = true then _ else _) _ _ _
  rw [if_neg (by rw [decide_eq_false (show ¬ (k : Int) < 0 by omega), decide_eq_false (show ¬ 2 * (k : Int) ≥ (x.spans.size : Int) by omega)]; exact Bool.false_ne_true)]
  exact wpAny_pure h
theorem span_zero {a tp P : Addr} {x : Str} {t u : Tok} {lim : Nat} {li e b1 e1 : Int} {Q : Value → Shared → Prop} (F : Fr h₀ L s.heap m) (N : News h₀ L s.heap news) (hm : s.heap.get? a = some (matchO x t P lim li tp)) (ht : s.heap.get? tp = some (spansO [0, e, b1, e1]))
    (h : ∀ r k1 k2 h' tk, Fr h₀ L h' m → News h₀ L h' ((r, { cls := .type "tuple", data := .seq #[.int 0 k1, .int e k2] }) :: news) → (∀ p ∈ news, p.1 < r) → Q (.ref r) { s with heap := h', toks := tk }) :
    wpAny (model prog w) A (call (.builtin "re.Match.span") [.ref a, .int 0 u]) Q E s := by
  refine wpAny_call_entry slot_span (T := "re.Match") ⟨_, hm, rfl⟩ entry_span ?_ (args_span _ _)
  unfold Builtin.«re.Match.span» reOneGroup
  refine wpAny_bind (wpAny_bind (m := selfAndSome "Match.span" "span" 0 1 _) (wpAny_of_eq rfl ?_))
  refine wpAny_bind (found_ hm ht ?_)
  refine wpAny_bind (groupNo (k := 0) (by show 2 * 0 < 4; omega) ?_)
  refine wpAny_pure ?_
  refine wpAny_bind (wpAny_mkInt ?_)
  refine wpAny_bind (wpAny_mkInt ?_)
  refine wpAny_bind (newTuple_N (s := { s with toks := s.toks + 1 + 1 }) F N (fun h' F' N' => ?_) (by show (2 : Nat) ≤ sizeLine; decide))
  exact wpAny_pure ⟨_, rfl, h _ _ _ _ _ F' N' (fun p hp => Heap.lt_size (N p hp).1)⟩
theorem group_one {a tp P : Addr} {x : Str} {t u : Tok} {lim : Nat} {li e : Int} {b1 e1 : Nat} {Q : Value → Shared → Prop} (hm : s.heap.get? a = some (matchO x t P lim li tp)) (ht : s.heap.get? tp = some (spansO [0, e, b1, e1])) (hx : x.length ≤ sizeLine)
    (h : Q (.str ⟨x.cps.extract b1 e1⟩ s.toks) { s with toks := s.toks + 1 }) :
    wpAny (model prog w) A (call (.builtin "re.Match.group") [.ref a, .int 1 u]) Q E s := by
  refine wpAny_call_entry slot_group (T := "re.Match") ⟨_, hm, rfl⟩ entry_group ?_ (args_group _ _)
  unfold Builtin.«re.Match.group»
  refine wpAny_bind (m := noKeywords "Match.group" _) (wpAny_of_eq rfl ?_)
  refine wpAny_bind (found_ hm ht ?_)
  refine wpAny_bind (groupNo (k := 1) (by show 2 * 1 < 4; omega) ?_)
  refine wpAny_bind ?_
  unfold reGroupText
  show wpAny _ _ (if ((b1 : Int) < 0 || (e1 : Int) < 0) = true then _ else _) _ _ s
  rw [if_neg (by rw [decide_eq_false (show ¬ (b1 : Int) < 0 by omega), decide_eq_false (show ¬ (e1 : Int) < 0 by omega)]; exact Bool.false_ne_true)]
  refine wpAny_bind (m := reTextOf (.str x t)) (wpAny_of_eq rfl ?_)
  show wpAny _ _ (mkStr ⟨x.cps.extract b1 e1⟩) _ _ s
  refine wpAny_mkStr (wpAny_pure ⟨_, rfl, h⟩) ?_
  show (x.cps.extract b1 e1).size ≤ sizeLine
  have : x.cps.size ≤ sizeLine := hx
  rw [Array.size_extract]; omega
end
end Mine
end
section
namespace Mine
open PySem PySem.Spec PySem.Calls PyProof.Rows PySem.Builtin.Re PySem.W

theorem str_call_none : typeLookup (.type "str") "__call__" = pure none := by rw [typeLookup_type, builtinLookup_eq_fast]; kernel_rfl
section
variable {M : Model} {A : Around} {E : Value → Shared → Prop} {s : Shared}
theorem whole_target {P : Addr} {code : Array Nat} {g : Nat} {x : Str} {t : Tok} {Q : ReTarget → Shared → Prop} (H : IsPat s.heap P code g) (h : Q (tgt P x t code g 0 x.cps.size) s) :
    wpAny M A (reWholeTarget (.ref P) (.str x t)) Q E s := by
  obtain ⟨o, fs, ho, hc, hdn, hd, h6, h2, C, oc, cs, n, h5, hoc, hdc, hcode⟩ := H.pat
  unfold reWholeTarget
  refine wpAny_bind (wpAny_fieldsOf ho hd ?_)
  refine wpAny_bind (m := reTextOf (.str x t)) (wpAny_of_eq rfl ?_)
  rw [h6]
  refine wpAny_bind (m := reNoCollectionInside (.str x t) 0) (wpAny_of_eq rfl ?_)
  rw [h5]
  refine wpAny_bind (raw_items hoc hdc ?_)
  refine wpAny_pure ?_
  rw [h2, hcode]
  exact h
end
section
variable {prog : Program} {w : World} {A : Around} {E : Value → Shared → Prop} {s : Shared} {h₀ : Heap} {L : Addr} {m : Str → Option Value} {news : List (Addr × Obj)}
theorem subn_method {P : Addr} {code : Array Nat} {g : Nat} {pl : Sem Bool} {Q : Value × List Value → Shared → Prop} (H : IsPat s.heap P code g) (h : Q (.builtin "re.Pattern.subn", [.ref P]) s) :
    wpAny (model prog w) A (getMethod (.ref P) "subn" pl) Q E s := by
  refine getMethod_builtin H.typeIs attrs_pattern slot_subn ty_subn (fun a ha => ?_) h
  obtain ⟨o, fs, ho, hc, hdn, _⟩ := H.pat
  cases ha
  exact ⟨o, ho, hdn⟩

/-- the loop's second turn: nothing more -/
theorem loop_last {R : Result → Shared → Prop} {P l : Addr} {code : Array Nat} {k n0 : Nat} {x : Str} {t u : Tok} (F : Fr h₀ L s.heap m) (N : News h₀ L s.heap ((l, listOf #[.str ⟨#[]⟩ u] n0) :: news)) (hlt : ∀ p ∈ news, p.1 < l) (H : IsPat s.heap P code 0) (hx : x.length ≤ 1000) (hx1 : 1 < x.cps.size)
    (hf : Fails k (Sre.forSearch code x.cps 0 1 x.cps.size false)) (hk : k < 1000000)
    (h : ∀ r k1 k2 h' tk, Fr h₀ L h' m → News h₀ L h' ((r, { cls := .type "tuple", data := .seq #[.str ⟨x.cps.extract 1 x.cps.size⟩ k1, .int 1 k2] }) :: news) → (∀ p ∈ news, p.1 < r) → R (.ok (.ret (.ref r))) { s with heap := h', toks := tk }) :
    codeAny (model prog w) A (.builtin "re.Pattern.sub.loop" ⟨[.ref P, .str x t, .str ⟨#[]⟩ u, rawInt 0, rawInt 0, rawInt 1, rawInt (1 : Nat), rawInt (1 : Nat), .bool false, .ref l, .bool true], []⟩) R s := by
  refine codeAny_builtin entry_loop ?_
  unfold Builtin.«re.Pattern.sub.loop»
  refine wpAny_bind (whole_target H ?_)
  refine wpAny_bind (m := reLiteralCannotBeTurned (.str ⟨#[]⟩ u)) (wpAny_of_eq rfl ?_)
  refine wpAny_bind (m := reNextFound _ 1 false) (run_fails hk hf ?_)
  have hlim : (1 : Nat) < x.cps.size := hx1
  show wpAny _ _ (if (1 : Nat) < x.cps.size then _ else _) _ _ s
  rw [if_pos hlim]
  have hsz : (⟨x.cps.extract 1 x.cps.size⟩ : Str).length ≤ sizeLine := by
    show (x.cps.extract 1 x.cps.size).size ≤ sizeLine
    have : x.cps.size ≤ 1000 := hx
    rw [Array.size_extract, show sizeLine = 16777216 from rfl]; omega
  refine wpAny_bind (m := reSlice x.cps 0 1 x.cps.size) (wpAny_mkStr ?_ hsz)
  have z := N _ (.head _)
  refine wpAny_bind (wpAny_updateSeq (s := { s with toks := s.toks + 1 }) (xs := #[.str ⟨#[]⟩ u]) (n := n0) z.1 rfl ?_ (by show (1 : Nat) ≤ sizeLine; decide) (by show (2 : Nat) ≤ sizeLine + 1; decide))
  have hs : Heap.SameBut l s.heap (s.heap.update l (Obj.mapSeq (·.push (.str ⟨x.cps.extract 1 x.cps.size⟩ s.toks)))) := Heap.SameBut.update ..
  have ho' : (s.heap.update l (Obj.mapSeq (·.push (.str ⟨x.cps.extract 1 x.cps.size⟩ s.toks)))).get? l = some (listOf #[.str ⟨#[]⟩ u, .str ⟨x.cps.extract 1 x.cps.size⟩ s.toks] (n0 + 1)) := Heap.get?_update_self _ z.1 rfl
  have F1 := F.change hs z.2.1 z.2.2
  have N1 := news_set (pre := []) N (fun _ hp => nomatch hp) (fun p hp => Nat.ne_of_lt (hlt p hp)) hs ho'
  refine wpAny_bind (m := reSlice x.cps 0 0 0) (wpAny_mkStr ?_ (by show (x.cps.extract 0 0).size ≤ sizeLine; rw [Array.size_extract]; simp))
  have hl : Heap.IsList (s.heap.update l (Obj.mapSeq (·.push (.str ⟨x.cps.extract 1 x.cps.size⟩ s.toks)))) l #[.str ⟨#[]⟩ u, .str ⟨x.cps.extract 1 x.cps.size⟩ s.toks] := ⟨_, ho', rfl, _, rfl⟩
  refine wpAny_bind (m := seqItems? (.ref l)) ?_
  unfold seqItems?
  refine wpAny_bind (wpAny_load ho' ?_)
  refine wpAny_pure ?_
  refine wpAny_bind (m := call (.builtin "str.join") _) ?_
  refine join_list hl (ys := [⟨#[]⟩, ⟨x.cps.extract 1 x.cps.size⟩]) ?_ ?_ fun t' k' => ?_
  · exact .cons _ _ (.cons _ _ .nil)
  · show 0 + ((x.cps.extract 1 x.cps.size).size + 0) + 2 * (x.cps.extract 0 0).size ≤ 16777216
    have : x.cps.size ≤ 1000 := hx
    rw [Array.size_extract, Array.size_extract]; omega
  · have e : Txt.join (⟨x.cps.extract 0 0⟩ : Str) [⟨#[]⟩, ⟨x.cps.extract 1 x.cps.size⟩] = ⟨x.cps.extract 1 x.cps.size⟩ := by
      rw [Txt.join, StrLaws.glued_eq_join]
      apply Str.ext'
      simp [Str.join, Str.cps_append]
    rw [e]
    show wpAny _ _ (holding [_] (mkInt 1 >>= fun i => newTuple [_, i]) >>= fun r => ret r) _ _ _
    refine wpAny_bind (wpAny_holding (wpAny_bind (wpAny_mkInt ?_)))
    refine newTuple_N (h₀ := h₀) (L := L) (m := m) (news := (l, listOf #[.str ⟨#[]⟩ u, .str ⟨x.cps.extract 1 x.cps.size⟩ s.toks] (n0 + 1)) :: news) F1 N1 (fun h' F' N' => ?_) (by show (2 : Nat) ≤ sizeLine; decide)
    refine wpAny_pure (h _ t' k' h' _ F' ?_ ?_)
    · intro p hp
      refine N' p ?_
      rcases List.mem_cons.mp hp with rfl | hp
      · exact .head _
      · exact .tail _ (.tail _ hp)
    · intro p hp
      exact Heap.lt_size (N1 p (.tail _ hp)).1
theorem subn_one {P : Addr} {code : Array Nat} {k : Nat} {x : Str} {t u : Tok} {Q : Value → Shared → Prop} (F : Fr h₀ L s.heap m) (N : News h₀ L s.heap news) (H : IsPat h₀ P code 0) (hx : x.length ≤ 1000) (hx1 : 1 < x.cps.size)
    (hf : Finds k (Sre.forSearch code x.cps 0 0 x.cps.size false) 0 1 #[] (-1) (-1)) (hf' : Fails k (Sre.forSearch code x.cps 0 1 x.cps.size false)) (hk : k < 1000000)
    (h : ∀ r k1 k2 h' tk, Fr h₀ L h' m → News h₀ L h' ((r, { cls := .type "tuple", data := .seq #[.str ⟨x.cps.extract 1 x.cps.size⟩ k1, .int 1 k2] }) :: news) → (∀ p ∈ news, p.1 < r) → Q (.ref r) { s with heap := h', toks := tk }) :
    wpAny (model prog w) A (call (.builtin "re.Pattern.subn") [.ref P, .str ⟨#[]⟩ u, .str x t]) Q E s := by
  have Hs := H.keeps F.keep
  refine wpAny_call (codeAny_call_builtin slot_subn.plain entry_subn (slot_subn.check _ _ _ _ _ _ _ _ Hs.typeIs (args_subn _ _ _) ?_))
  show wpAny _ _ (reSubstitute "re.Pattern.subn" "subn" true _) _ _ s
  unfold reSubstitute
  refine wpAny_bind (m := reNamed _ _ ["repl", "string", "count"] 2 [.str ⟨#[]⟩ u, .str x t] []) (wpAny_of_eq rfl ?_)
  refine wpAny_bind (wpAny_pure ?_)
  refine wpAny_bind (wpAny_specialOf (T := "str") (typeIs_str _ _ _) str_call_none ?_)
  refine wpAny_bind (m := asStr? (.str ⟨#[]⟩ u)) (wpAny_pure ?_)
  have hlit : (!(⟨#[]⟩ : Str).cps.contains 92) = true := by simp
  show wpAny _ _ ((pure (!(⟨#[]⟩ : Str).cps.contains 92) : Sem Bool) >>= _) _ _ _
  rw [hlit]
  refine wpAny_bind (wpAny_pure ?_)
  refine wpAny_bind (wpAny_pure ?_)
  refine wpAny_bind (wpAny_holding (whole_target Hs ?_))
  refine wpAny_bind (newList_K F N (fun l h1 F1 N1 hlt => ?_) (by show (0 : Nat) ≤ sizeLine; decide))
  refine wpAny_pure ⟨Code.quiet_builtin _ (by decide +kernel), ?_⟩
  refine codeAny_builtin entry_loop ?_
  unfold Builtin.«re.Pattern.sub.loop»
  refine wpAny_bind (whole_target (s := { s with heap := h1 }) (H.keeps F1.keep) ?_)
  refine wpAny_bind (m := reLiteralCannotBeTurned (.str ⟨#[]⟩ u)) (wpAny_of_eq rfl ?_)
  refine wpAny_bind (m := reNextFound _ 0 false) (run_finds hk hf fun m' fo => ?_)
  simp only [fo.start, fo.handed]
  have z := N1 _ (.head _)
  refine wpAny_bind (wpAny_pure ?_)
  rw [if_pos (show (Value.str ⟨#[]⟩ u != Value.none) = true from rfl)]
  refine wpAny_bind (wpAny_updateSeq (s := { s with heap := h1 }) (f := (·.push (.str ⟨#[]⟩ u))) (xs := #[]) (n := 0) z.1 rfl ?_ (by show (0 : Nat) ≤ sizeLine; decide) (by show (1 : Nat) ≤ sizeLine + 1; decide))
  refine wpAny_pure ⟨Code.quiet_builtin _ (by decide +kernel), ?_⟩
  have hs : Heap.SameBut l h1 (h1.update l (Obj.mapSeq (·.push (.str ⟨#[]⟩ u)))) := Heap.SameBut.update ..
  have ho' : (h1.update l (Obj.mapSeq (·.push (.str ⟨#[]⟩ u)))).get? l = some (listOf #[.str ⟨#[]⟩ u] 1) := Heap.get?_update_self _ z.1 rfl
  have F2 := F1.change hs z.2.1 z.2.2
  have N2 := news_set (pre := []) N1 (fun _ hp => nomatch hp) (fun p hp => Nat.ne_of_lt (hlt p hp)) hs ho'
  exact loop_last (s := { s with heap := h1.update l (Obj.mapSeq (·.push (.str ⟨#[]⟩ u))) }) F2 N2 hlt (H.keeps F2.keep) hx hx1 hf' hk fun r k1 k2 h' tk F' N' lt => h r k1 k2 h' tk F' N' lt
end
end Mine
end
section
namespace Mine
open PySem PySem.Spec PySem.Calls PyProof.Rows PySem.W

/-- a turn's end: the loop's letters, the frame's names, the ledger -/
noncomputable def TEnd {σ : Type} (h₀ : Heap) (L : Addr) (s : Shared) (Led : σ → List (Addr × Obj)) (ps : σ → List (Str × Value)) (P : σ → Prop) (own : List (Addr × Obj)) (Q : Flow → Shared → Prop) (f : Flow) (s₂ : Shared) : Prop :=
  match f with
  | .ret v => Q (.ret v) s₂
  | .brk => Q .next s₂
  | _ => ∃ (c' : σ) (h' : Heap) (tk : Nat) (m' : Str → Option Value) (news' : List (Addr × Obj)), s₂ = { s with heap := h', toks := tk } ∧ Fr h₀ L h' m' ∧ News h₀ L h' news' ∧ (∀ p ∈ Led c', p ∈ news') ∧ (∀ p ∈ own, p ∈ news') ∧ (∀ p ∈ ps c', m' p.1 = some p.2) ∧ P c'
theorem tend {σ : Type} {h₀ : Heap} {L : Addr} {s : Shared} {Led : σ → List (Addr × Obj)} {ps : σ → List (Str × Value)} {P : σ → Prop} {own : List (Addr × Obj)} {Q : Flow → Shared → Prop} {h' : Heap} {tk : Nat} {m' : Str → Option Value} {news' : List (Addr × Obj)} (c' : σ)
    (F : Fr h₀ L h' m') (N : News h₀ L h' news') (hn : ∀ p ∈ Led c', p ∈ news') (ho : ∀ p ∈ own, p ∈ news') (hk : ∀ p ∈ ps c', m' p.1 = some p.2) (hp : P c') : TEnd h₀ L s Led ps P own Q .next { s with heap := h', toks := tk } :=
  ⟨c', h', tk, m', news', rfl, F, N, hn, ho, hk, hp⟩
theorem tendC {σ : Type} {h₀ : Heap} {L : Addr} {s : Shared} {Led : σ → List (Addr × Obj)} {ps : σ → List (Str × Value)} {P : σ → Prop} {own : List (Addr × Obj)} {Q : Flow → Shared → Prop} {h' : Heap} {tk : Nat} {m' : Str → Option Value} {news' : List (Addr × Obj)} (c' : σ)
    (F : Fr h₀ L h' m') (N : News h₀ L h' news') (hn : ∀ p ∈ Led c', p ∈ news') (ho : ∀ p ∈ own, p ∈ news') (hk : ∀ p ∈ ps c', m' p.1 = some p.2) (hp : P c') : TEnd h₀ L s Led ps P own Q .cont { s with heap := h', toks := tk } :=
  ⟨c', h', tk, m', news', rfl, F, N, hn, ho, hk, hp⟩

theorem kst_self {m₁ : Str → Option Value} {ps : List (Str × Value)} (h : ∀ p ∈ ps, m₁ p.1 = some p.2) : kstB m₁ ps = m₁ := funext fun z => kstB_eq h fun _ => rfl

section
variable {prog : Program} {w : World} {A : Around} {E : Value → Shared → Prop} {Q : Flow → Shared → Prop} {s : Shared} {env : Env} {h₀ : Heap} {L : Addr} {x : Str} {body : List Stmt}

theorem while_ {σ : Type} {test : Expr} {pos : Pos} {m₀ : Str → Option Value} (Led : σ → List (Addr × Obj)) (ps : σ → List (Str × Value)) (P : σ → Prop) (μ : σ → Nat) (c₀ : σ)
    (F : Fr h₀ L s.heap m₀) (N : News h₀ L s.heap (Led c₀)) (hk : ∀ p ∈ ps c₀, m₀ p.1 = some p.2) (hp : P c₀)
    (turn : ∀ (c : σ) (u : Str → Option Value) h tk, P c → Fr h₀ L h (kstB u (ps c)) → News h₀ L h (Led c) →
      wpAny (model prog w) A (isTrue test env (eval test env)) (fun b s₂ =>
        if b = true then wpAny (model prog w) A (execs body env) (TEnd h₀ L s Led ps (fun c' => P c' ∧ μ c' < μ c) [] Q) E s₂ else Q .next s₂) E { s with heap := h, toks := tk })
    (hE : PassesOwn (model prog w) A env E := by passes_own) :
    wpAny (model prog w) A (exec (.While test body [] pos) env) Q E s := by
  refine While_inv2 (fun n m nx => ∃ c : σ, nx = Led c ∧ μ c = n ∧ (∀ p ∈ ps c, m p.1 = some p.2) ∧ P c) F N ⟨c₀, rfl, rfl, hk, hp⟩ ?_ hE
  rintro n m₁ nx h tk F₁ N₁ ⟨c, hnx, hsz, h1, hp'⟩
  rw [hnx] at N₁
  rw [← hsz]
  refine wpAny_mono (turn c m₁ h tk hp' (by rw [kst_self h1]; exact F₁) N₁) (fun b s₂ p => ?_) fun _ _ x => x
  cases b with
  | false => simpa using p
  | true =>
    simp only [if_true] at p ⊢
    refine wpAny_mono p (fun f s₃ q => ?_) fun _ _ x => x
    cases f with
    | ret v => exact q
    | brk => exact q
    | next =>
      obtain ⟨c', h', tk', m', news', rfl, F', N', hn, _, hk9, hp9, hm9⟩ := q
      exact ⟨h', tk', m', Led c', μ c', rfl, F', fun p hp => N' p (hn p hp), hm9, c', rfl, rfl, hk9, hp9⟩
    | cont =>
      obtain ⟨c', h', tk', m', news', rfl, F', N', hn, _, hk9, hp9, hm9⟩ := q
      exact ⟨h', tk', m', Led c', μ c', rfl, F', fun p hp => N' p (hn p hp), hm9, c', rfl, rfl, hk9, hp9⟩

/-- a loop over a list of the ledger's, whatever it holds -/
theorem each_list {σ : Type} {l : Addr} {vs : List Value} {nn : Nat} {m₀ : Str → Option Value} (Led : σ → List (Addr × Obj)) (ps : σ → List (Str × Value)) (P : Nat → σ → Prop) (c₀ : σ)
    (hh : A.handled = none) (hl : ∀ c, (l, listOf vs.toArray nn) ∈ Led c) (hadr : ∀ c, (Led c).map (·.1) = (Led c₀).map (·.1)) (F : Fr h₀ env.locals s.heap m₀) (N : News h₀ env.locals s.heap (Led c₀)) (hk : ∀ p ∈ ps c₀, m₀ p.1 = some p.2) (hp : P 0 c₀)
    (turn : ∀ (c : σ) (i : Nat) (v : Value) (u : Str → Option Value) h tk own, vs[i]? = some v → OwnOff own ((Led c₀).map (·.1)) → P i c → Fr h₀ env.locals h (fun y => if y = x then some v else kstB u (ps c) y) → News h₀ env.locals h (Led c ++ own) →
      wpAny (model prog w) A (execs body env) (TEnd h₀ env.locals s Led ps (P (i + 1)) own Q) E { s with heap := h, toks := tk })
    (done : ∀ (c : σ) (u : Str → Option Value) h tk, P vs.length c → Fr h₀ env.locals h (kstB u (ps c)) → News h₀ env.locals h (Led c) → Q .next { s with heap := h, toks := tk }) :
    wpAny (model prog w) A (pyIter (.ref l)) (fun it s₂ => LoopAtV prog w A h₀ env x body Q E it s₂) E s := by
  have hol : s.heap.get? l = some (listOf vs.toArray nn) := (N _ (hl c₀)).1
  have hls : s.heap.IsList l vs.toArray := ⟨_, hol, rfl, nn, rfl⟩
  have hne : l ≠ s.heap.objs.size := Nat.ne_of_lt (Heap.lt_size hol)
  refine wpAny_pyIter_list hls ?_
  have W := Walks.list (prog := prog) (w := w) hh s.heap.objs.size l hne vs.toArray
  have hlen : vs.toArray.size = vs.length := by simp
  rw [hlen] at W
  refine ⟨_, _, _, vs.length, _, _, m₀, Led c₀, (fun i m nx => ∃ c : σ, nx = Led c ∧ (∀ p ∈ ps c, m p.1 = some p.2) ∧ P i c), rfl, W, ?_, ?_, ?_, ⟨⟨_, Heap.get?_push_size _ rfl, rfl, rfl⟩, hls.at fun o e => Heap.get?_push_of_some _ e⟩, F.push _, (fun p hp => ⟨Heap.get?_push_of_some _ (N p hp).1, (N p hp).2⟩), ⟨c₀, rfl, hk, hp⟩, ?_, ?_⟩
  · intro hm
    rcases List.mem_cons.mp hm with e | hm
    · exact absurd F.ns.lt (e ▸ Nat.lt_irrefl _)
    · exact (N _ (hl c₀)).2.1 ((List.mem_singleton.mp hm).symm)
  · intro b hb
    rw [List.mem_singleton.mp hb]
    exact next_is_new F
  · intro p hp hI
    exact absurd (Heap.lt_size (N p hp).1) ((List.mem_singleton.mp hI) ▸ Nat.lt_irrefl _)
  · rintro i v m₁ news₁ s₁ own ⟨hh', tk', rfl⟩ hin hP ⟨c, rfl, hk₁, hJ⟩ hoff hown hget hfp _ F₁ N₁
    have hsep : OwnOff (own.filter fun p => decide (p.1 = s.heap.objs.size)) ((Led c₀).map (·.1)) := by
      intro p hp b hb e
      obtain ⟨q, hq, rfl⟩ := List.mem_map.mp hb
      have h1 : p.1 = s.heap.objs.size := by simpa using (List.mem_filter.mp hp).2
      exact absurd (Heap.lt_size (N q hq).1) (by rw [← e, h1]; exact Nat.lt_irrefl _)
    have hv : vs[i]? = some v := by simpa using hP
    have N₂ : News h₀ env.locals hh' (Led c ++ own.filter fun p => decide (p.1 = s.heap.objs.size)) := fun p hp => N₁ p ((List.mem_append.mp hp).elim (fun h => List.mem_append.mpr (.inr h)) fun h => List.mem_append.mpr (.inl ((List.mem_filter.mp h).1)))
    have hlo : hh'.get? l = some (listOf vs.toArray nn) := (N₁ _ (List.mem_append.mpr (.inr (hl c)))).1
    refine wpAny_mono (turn c i v m₁ hh' tk' _ hv hsep hJ (by rw [kst_self hk₁]; exact F₁) N₂) (fun f s₂ p => ?_) fun _ _ e => e
    have fin : (∃ (c' : σ) (h' : Heap) (tk : Nat) (m' : Str → Option Value) (news' : List (Addr × Obj)), s₂ = { s with heap := h', toks := tk } ∧ Fr h₀ env.locals h' m' ∧ News h₀ env.locals h' news' ∧ (∀ p ∈ Led c', p ∈ news') ∧ (∀ p ∈ own.filter fun p => decide (p.1 = s.heap.objs.size), p ∈ news') ∧ (∀ p ∈ ps c', m' p.1 = some p.2) ∧ P (i + 1) c') →
        LoopStepU h₀ env.locals [s.heap.objs.size] own (fun m nx => ∃ c : σ, nx = Led c ∧ (∀ p ∈ ps c, m p.1 = some p.2) ∧ P (i + 1) c) { s with heap := hh', toks := tk' } .next s₂ := by
      rintro ⟨c', h', tk, m', news', e, F', N', hn, ho, hk', hm⟩
      refine ⟨rfl, h', tk, m', Led c', e, F', fun p hp => ?_, fun p hp => ?_, c', rfl, hk', hm⟩
      · rcases List.mem_append.mp hp with h | h
        · by_cases hI : p.1 = s.heap.objs.size
          · exact N' p (ho p (List.mem_filter.mpr ⟨h, by simpa using hI⟩))
          · have h1 : p.1 = l := by
              rcases List.mem_cons.mp (hown p h) with h2 | h2
              · exact absurd h2 hI
              · exact List.mem_singleton.mp h2
            have h2 : hh'.get? p.1 = some p.2 := hget p h
            rw [h1, hlo] at h2
            have h3 : p = (l, listOf vs.toArray nn) := Prod.ext h1 (Option.some.inj h2).symm
            rw [h3]
            exact N' _ (hn _ (hl c'))
        · exact N' p (hn p h)
      · have h1 : p.1 ∈ (Led c').map (·.1) := List.mem_map.mpr ⟨p, hp, rfl⟩
        rw [hadr] at h1
        obtain ⟨q, hq, e⟩ := List.mem_map.mp h1
        intro hI
        exact absurd (Heap.lt_size (N q hq).1) (by rw [e, List.mem_singleton.mp hI]; exact Nat.lt_irrefl _)
    cases f with
    | ret v => exact .ret p
    | brk => exact .brk p
    | next => exact .next (fin p)
    | cont => exact .cont (fin p)
  · rintro h' tk m' news' F' N' _ ⟨c, rfl, hk', hJ⟩
    exact done c m' h' tk hJ (by rw [kst_self hk']; exact F') N'

/-- a loop over a text's signs -/
theorem each_sign {σ : Type} {xt : Str} {tx : Tok} {m₀ : Str → Option Value} (Led : σ → List (Addr × Obj)) (ps : σ → List (Str × Value)) (P : Nat → σ → Prop) (c₀ : σ)
    (hh : A.handled = none) (hadr : ∀ c, (Led c).map (·.1) = (Led c₀).map (·.1)) (F : Fr h₀ env.locals s.heap m₀) (N : News h₀ env.locals s.heap (Led c₀)) (hk : ∀ p ∈ ps c₀, m₀ p.1 = some p.2) (hp : P 0 c₀)
    (turn : ∀ (c : σ) (i n : Nat) (t : Tok) (u : Str → Option Value) h tk own, xt.cps[i]? = some n → OwnOff own ((Led c₀).map (·.1)) → P i c → Fr h₀ env.locals h (fun y => if y = x then some (.str ⟨#[n]⟩ t) else kstB u (ps c) y) → News h₀ env.locals h (Led c ++ own) →
      wpAny (model prog w) A (execs body env) (TEnd h₀ env.locals s Led ps (P (i + 1)) own Q) E { s with heap := h, toks := tk })
    (done : ∀ (c : σ) (u : Str → Option Value) h tk, P xt.cps.size c → Fr h₀ env.locals h (kstB u (ps c)) → News h₀ env.locals h (Led c) → Q .next { s with heap := h, toks := tk }) :
    wpAny (model prog w) A (pyIter (.str xt tx)) (fun it s₂ => LoopAtV prog w A h₀ env x body Q E it s₂) E s := by
  refine wpAny_pyIter_str fun o St hW hst => ?_
  have W := hW A hh
  refine loop_invN (fun i m nx => ∃ c : σ, nx = Led c ∧ (∀ p ∈ ps c, m p.1 = some p.2) ∧ P i c) W ?_ ?_ ?_ ?_ hst (F.push _) (fun p hp => ⟨Heap.get?_push_of_some _ (N p hp).1, (N p hp).2⟩) ⟨c₀, rfl, hk, hp⟩ ?_ ?_
  · intro hm
    exact absurd F.ns.lt ((List.mem_singleton.mp hm) ▸ Nat.lt_irrefl _)
  · intro b' hb
    rw [List.mem_singleton.mp hb]
    exact next_is_new F
  · intro p hp hI
    exact absurd (Heap.lt_size (N p hp).1) ((List.mem_singleton.mp hI) ▸ Nat.lt_irrefl _)
  · intro p hp hI
    exact absurd (Heap.lt_size (N p hp).1) ((List.mem_singleton.mp hI) ▸ Nat.lt_irrefl _)
  · rintro i v m₁ nx h tk own hi ⟨n, u, hn, rfl⟩ _ hoff ⟨c, rfl, hk₁, hp'⟩ F₁ N₁
    refine wpAny_mono (turn c i n u m₁ h tk own hn hoff hp' (by rw [kst_self hk₁]; exact F₁) N₁) (fun f s₂ p => ?_) fun _ _ e => e
    cases f with
    | ret v => exact p
    | brk => exact p
    | next =>
      obtain ⟨c', h', tk, m', news', e, F', N', hn, ho, hk', hm⟩ := p
      exact ⟨h', tk, m', news', Led c', e, F', N', hn, ho, hadr c', c', rfl, hk', hm⟩
    | cont =>
      obtain ⟨c', h', tk, m', news', e, F', N', hn, ho, hk', hm⟩ := p
      exact ⟨h', tk, m', news', Led c', e, F', N', hn, ho, hadr c', c', rfl, hk', hm⟩
  · rintro m₁ nx h tk ⟨c, rfl, hk', hp'⟩ F₁ N₁
    exact done c m₁ h tk hp' (by rw [kst_self hk']; exact F₁) N₁
end
end Mine
end
section
namespace Mine
open PySem PySem.Spec PySem.Calls PyProof.Rows PySem.W

theorem deeper_u {A : Around} {env : Env} {k : Nat} (h : A.units + (k + 3) < cLine) : (A.deeper env).units + k < cLine := by
  rw [Around.deeper_units]; omega
noncomputable abbrev Stays (h h' : Heap) : Prop := ∀ b o, h.get? b = some o → h'.get? b = some o
theorem fr_stays {h₀ h h' : Heap} {L : Addr} {m : Str → Option Value} (F : Fr h₀ L h m) (k : Stays h h') : Fr h₀ L h' m :=
  ⟨F.ns.at' fun o e => k L o e, fun b o e => k b o (F.keep b o e), F.above⟩
theorem news_stays {h₀ h h' : Heap} {L : Addr} {news : List (Addr × Obj)} (N : News h₀ L h news) (k : Stays h h') : News h₀ L h' news :=
  fun p hp => ⟨k _ _ (N p hp).1, (N p hp).2⟩

section
variable {prog : Program} {w : World} {A : Around} {s : Shared} {R : Result → Shared → Prop} {K : Frag}
/-- a def is entered: all that stands is kept -/
theorem enter {name qual : Str} {params : Arguments} {body : List Stmt} {scope : Scope} {dV kV doc pm cdv ct oc : Value} {an od : Option Addr} {osl : Array (Option Value)} {f : Addr} {args : Args} {binds : List (Str × Value)}
    (X : K.In s.heap) (hlim : s.heap.NoLimit) (ho : K.lookup f = some ⟨oc, od, .func (fnOf name qual params body scope dV kV doc pm an cdv ct), osl⟩) (hcd : codeIn K cdv qual = true) (hroom : A.depth < recursionLimit)
    (hbind : BindsTo s (fnOf name qual params body scope dV kV doc pm an cdv ct) args binds) (hloc : ∀ y ∈ binds, scope.names.lookup y.1 = some .local)
    (h : ∀ L' h₁, Fr s.heap L' h₁ (fun y => binds.reverse.lookup y) → News s.heap L' h₁ [] →
      wpAny (model prog w) (A.deeper (envOf qual scope L' f cdv)) (execs body (envOf qual scope L' f cdv))
        (fun fl s' => R (.ok (.ret (match fl with | .ret v => v | _ => .none))) s') (fun _ _ => False) { s with heap := h₁, toks := s.toks + binds.length })
    (hco : scope.isCoroutine = false) (hgen : scope.isGenerator = false) (hk : scope.kind = .function) (hcell : ∀ x ∈ scope.names, x.2 ≠ .cell) : codeAny (model prog w) A (.call (.ref f) args) R s := by
  refine codeAny_call_def (fd := fnOf name qual params body scope dV kV doc pm an cdv ct) (body := body) (binds := binds) hroom (X _ _ ho) rfl hlim (codeRec_of X hcd) rfl hbind hcell hloc (fun h₁ hns hk₁ => ?_) hco hgen hk
  exact wpAny_mono (h s.heap.objs.size h₁ ⟨hns, hk₁, Nat.le_refl _⟩ News.nil) (fun _ _ x => x) fun _ _ x => x.elim
end

section
variable {prog : Program} {w : World} {A : Around} {E : Value → Shared → Prop} {Q : Flow → Shared → Prop} {s : Shared} {env : Env} {h₀ : Heap} {x : Str} {body : List Stmt}
/-- a while as it stands -/
noncomputable def WLoop (prog : Program) (w : World) (A : Around) (env : Env) (test : Expr) (body : List Stmt) (Q : Flow → Shared → Prop) (E : Value → Shared → Prop) (s : Shared) : Prop :=
  codeAny (model prog w) A (.whileLoop test body [] env) (fun r s' => match r with | .ok f => Q f s' | .error e => cameBackBy (model prog w) A env E e s') s
theorem exec_wloop {test : Expr} {pos : Pos} (h : WLoop prog w A env test body Q E s) : wpAny (model prog w) A (exec (.While test body [] pos) env) Q E s := wpAny_While h
noncomputable def WNext (prog : Program) (w : World) (A : Around) (env : Env) (test : Expr) (body : List Stmt) (Q : Flow → Shared → Prop) (E : Value → Shared → Prop) (f : Flow) (s₃ : Shared) : Prop :=
  match f with
  | .ret v => Q (.ret v) s₃
  | .brk => Q .next s₃
  | _ => WLoop prog w A env test body Q E s₃
theorem wloop_turn {test : Expr} (h : wpAny (model prog w) A (isTrue test env (eval test env)) (fun b s₂ => if b = true then wpAny (model prog w) A (execs body env) (WNext prog w A env test body Q E) E s₂ else Q .next s₂) E s)
    (hE : PassesOwn (model prog w) A env E) : WLoop prog w A env test body Q E s := by
  unfold WLoop
  refine codeAny_of_tree ?_
  show wpAny _ A ((whileTurn test body [] env).onRaise (fun x => do noteFrame x env; theTreesLotGoes x)) _ _ s
  refine wpAny_noted ?_
  simp only [whileTurn]
  refine wpAny_bind (wpAny_mono (wpAny_passesOwn hE h) (fun b s₂ h₂ => ?_) fun _ _ h' => h')
  cases b with
  | false =>
    simp only [Bool.false_eq_true, if_false] at h₂ ⊢
    exact wpAny_bind (wpAny_execs_nil (wpAny_pure h₂))
  | true =>
    simp only [if_true] at h₂ ⊢
    refine wpAny_bind (wpAny_mono (wpAny_passesOwn hE h₂) (fun f s₃ h₃ => ?_) fun _ _ h' => h')
    cases f with
    | next => exact wpAny_pure ⟨rfl, h₃⟩
    | cont => exact wpAny_pure ⟨rfl, h₃⟩
    | brk => exact wpAny_pure h₃
    | ret v => exact wpAny_pure h₃

/-- the one turn of a loop over a list of one item that stood before -/
noncomputable def OneEnd (h₀ : Heap) (L : Addr) (s : Shared) (I : Addr) (io : Obj) (Q : Flow → Shared → Prop) (f : Flow) (s₂ : Shared) : Prop :=
  match f with
  | .ret v => Q (.ret v) s₂
  | .brk => Q .next s₂
  | _ => ∃ (h' : Heap) (tk : Nat) (m' : Str → Option Value) (news' nx : List (Addr × Obj)), s₂ = { s with heap := h', toks := tk } ∧ Fr h₀ L h' m' ∧ News h₀ L h' news' ∧ (I, io) ∈ news' ∧ (∀ p ∈ nx, p ∈ news') ∧ (∀ p ∈ nx, p.1 ≠ I) ∧
      ∀ h'' tk'', Fr h₀ L h'' m' → News h₀ L h'' nx → Q .next { s with heap := h'', toks := tk'' }
theorem one_end {L I : Addr} {io : Obj} {h' : Heap} {tk : Nat} {m' : Str → Option Value} {pre post : List (Addr × Obj)} (F : Fr h₀ L h' m') (N : News h₀ L h' (pre ++ (I, io) :: post)) (hne : ∀ p ∈ pre ++ post, p.1 ≠ I)
    (h : ∀ h'' tk'', Fr h₀ L h'' m' → News h₀ L h'' (pre ++ post) → Q .next { s with heap := h'', toks := tk'' }) : OneEnd h₀ L s I io Q .next { s with heap := h', toks := tk } :=
  ⟨h', tk, m', _, pre ++ post, rfl, F, N, List.mem_append.mpr (.inr (.head _)), fun p hp => (List.mem_append.mp hp).elim (fun h => List.mem_append.mpr (.inl h)) (fun h => List.mem_append.mpr (.inr (.tail _ h))), hne, h⟩
theorem one_item {l : Addr} {v : Value} {nn : Nat} {m₀ : Str → Option Value} {news : List (Addr × Obj)} (hh : A.handled = none) (hl : h₀.get? l = some (listOf #[v] nn)) (F : Fr h₀ env.locals s.heap m₀) (N : News h₀ env.locals s.heap news)
    (turn : ∀ I io h tk, (∀ p ∈ news, p.1 < I) → Fr h₀ env.locals h (fun y => if y = x then some v else m₀ y) → News h₀ env.locals h ((I, io) :: news) →
      wpAny (model prog w) A (execs body env) (OneEnd h₀ env.locals s I io Q) E { s with heap := h, toks := tk }) :
    wpAny (model prog w) A (pyIter (.ref l)) (fun it s₂ => LoopAtV prog w A h₀ env x body Q E it s₂) E s := by
  have hol : s.heap.get? l = some (listOf #[v] nn) := F.keep _ _ hl
  have hls : s.heap.IsList l #[v] := ⟨_, hol, rfl, nn, rfl⟩
  have hne : l ≠ s.heap.objs.size := Nat.ne_of_lt (Heap.lt_size hol)
  have hlt0 : l < h₀.objs.size := Heap.lt_size hl
  refine wpAny_pyIter_list hls ?_
  have W := Walks.list (prog := prog) (w := w) hh s.heap.objs.size l hne #[v]
  refine ⟨_, _, _, 1, _, _, m₀, news, (fun i m nx => (i = 0 ∧ m = m₀ ∧ nx = news) ∨ (i = 1 ∧ ∀ h'' tk'', Fr h₀ env.locals h'' m → News h₀ env.locals h'' nx → Q .next { s with heap := h'', toks := tk'' })), rfl, W, ?_, ?_, ?_, ⟨⟨_, Heap.get?_push_size _ rfl, rfl, rfl⟩, hls.at fun o e => Heap.get?_push_of_some _ e⟩, F.push _, (fun p hp => ⟨Heap.get?_push_of_some _ (N p hp).1, (N p hp).2⟩), .inl ⟨rfl, rfl, rfl⟩, ?_, ?_⟩
  · intro hm
    rcases List.mem_cons.mp hm with e | hm
    · exact absurd F.ns.lt (e ▸ Nat.lt_irrefl _)
    · have := List.mem_singleton.mp hm
      exact absurd (Nat.lt_of_lt_of_le hlt0 F.above) (this ▸ Nat.lt_irrefl _)
  · intro b hb
    rw [List.mem_singleton.mp hb]
    exact next_is_new F
  · intro p hp hI
    exact absurd (Heap.lt_size (N p hp).1) ((List.mem_singleton.mp hI) ▸ Nat.lt_irrefl _)
  · rintro i v' m₁ news₁ s₁ own ⟨hh', tk', rfl⟩ hin hP hJ hoff hown hget hfp hst F₁ N₁
    rcases hJ with ⟨rfl, rfl, rfl⟩ | ⟨rfl, _⟩
    · have hv : v' = v := by simpa using hP.symm
      subst hv
      obtain ⟨⟨io, hio, _⟩, _⟩ := hst
      have hmem : (s.heap.objs.size, io) ∈ own := hfp _ (.head _) (next_is_new F) io hio
      refine wpAny_mono (turn s.heap.objs.size io hh' tk' (fun p hp => Heap.lt_size (N p hp).1) F₁ (fun p hp => ?_)) (fun f s₂ p => ?_) fun _ _ e => e
      · rcases List.mem_cons.mp hp with rfl | hp
        · exact N₁ _ (List.mem_append.mpr (.inl hmem))
        · exact N₁ _ (List.mem_append.mpr (.inr hp))
      · have fin : (∃ (h' : Heap) (tk : Nat) (m' : Str → Option Value) (news' nx : List (Addr × Obj)), s₂ = { s with heap := h', toks := tk } ∧ Fr h₀ env.locals h' m' ∧ News h₀ env.locals h' news' ∧ (s.heap.objs.size, io) ∈ news' ∧ (∀ p ∈ nx, p ∈ news') ∧ (∀ p ∈ nx, p.1 ≠ s.heap.objs.size) ∧
            ∀ h'' tk'', Fr h₀ env.locals h'' m' → News h₀ env.locals h'' nx → Q .next { s with heap := h'', toks := tk'' }) →
            LoopStepU h₀ env.locals [s.heap.objs.size] own (fun m nx => (0 + 1 = 0 ∧ m = m₁ ∧ nx = news₁) ∨ (0 + 1 = 1 ∧ ∀ h'' tk'', Fr h₀ env.locals h'' m → News h₀ env.locals h'' nx → Q .next { s with heap := h'', toks := tk'' })) { s with heap := hh', toks := tk' } .next s₂ := by
          rintro ⟨h', tk, m', news', nx, e, F', N', hI, hn, hne', hq⟩
          refine ⟨rfl, h', tk, m', nx, e, F', fun p hp => ?_, fun p hp h1 => hne' p hp (List.mem_singleton.mp h1), .inr ⟨rfl, hq⟩⟩
          rcases List.mem_append.mp hp with h | h
          · by_cases hI' : p.1 = s.heap.objs.size
            · have h2 := hget p h
              rw [hI', hio] at h2
              have : p = (s.heap.objs.size, io) := Prod.ext hI' (Option.some.inj h2).symm
              rw [this]; exact N' _ hI
            · have h1 : p.1 = l := by
                rcases List.mem_cons.mp (hown p h) with h2 | h2
                · exact absurd h2 hI'
                · exact List.mem_singleton.mp h2
              have h3 := (N₁ p (List.mem_append.mpr (.inl h))).2.2
              rw [h1, hl] at h3; cases h3
          · exact N' p (hn p h)
        cases f with
        | ret v => exact .ret p
        | brk => exact .brk p
        | next => exact .next (fin p)
        | cont => exact .cont (fin p)
    · exact absurd hin (Nat.lt_irrefl _)
  · rintro h' tk m' news' F' N' _ hJ
    rcases hJ with ⟨h0, _⟩ | ⟨_, hq⟩
    · cases h0
    · exact hq h' tk F' N'
end
end Mine
end
section
namespace Mine
open PySem PySem.Spec PySem.Calls PyProof.Rows

/-- a text of these signs -/
noncomputable def S (l : List Nat) : Str := ⟨l.toArray⟩
theorem S_cps (l : List Nat) : (S l).cps = l.toArray := rfl
theorem S_list (l : List Nat) : (S l).cps.toList = l := by simp [S]
theorem S_len (l : List Nat) : (S l).length = l.length := by simp [S, Str.length]
theorem S_size (l : List Nat) : (S l).cps.size = l.length := by simp [S]
theorem S_of (x : Str) : S x.cps.toList = x := by cases x; simp [S]
theorem S_inj {a b : List Nat} (h : S a = S b) : a = b := by
  have := congrArg (fun x : Str => x.cps.toList) h
  simpa [S] using this
theorem S_append (a b : List Nat) : S a ++ S b = S (a ++ b) := Str.ext' (by simp [S, Str.cps_append])
theorem S_eq : Str.ofString "=" = S [61] := by decide
theorem S_nil : Str.ofString "" = S [] := by decide
theorem S_beq (a b : List Nat) : (S a == S b) = decide (a = b) := by
  by_cases h : a = b
  · subst h; simp
  · have : S a ≠ S b := fun e => h (S_inj e)
    simp [h, this]
theorem slice_from {l : List Nat} {i : Int} (h0 : 0 ≤ i) (h1 : i ≤ l.length) : Txt.slice (S l) (some i) none = S (l.drop i.toNat) := by
  have e := StrLaws.sliceText_from (x := S l) (i := i) ⟨h0, by rw [S_list]; exact h1⟩
  rw [show Txt.slice (S l) (some i) none = StrLaws.sliceText (S l) (some i) none from rfl, e, S_list]
  rw [List.take_of_length_le (by rw [List.length_drop]; omega)]
  rfl
theorem slice_to {l : List Nat} {j : Int} (h0 : 0 ≤ j) (h1 : j ≤ l.length) : Txt.slice (S l) none (some j) = S (l.take j.toNat) := by
  have e := StrLaws.sliceText_to (x := S l) (j := j) ⟨h0, by rw [S_list]; exact h1⟩
  rw [show Txt.slice (S l) none (some j) = StrLaws.sliceText (S l) none (some j) from rfl, e, S_list]
  simp [S]
theorem slice_mid {l : List Nat} {i j : Int} (h0 : 0 ≤ i) (h1 : i ≤ j) (h2 : j ≤ l.length) : Txt.slice (S l) (some i) (some j) = S ((l.drop i.toNat).take (j - i).toNat) := by
  have e := StrLaws.sliceText_plain (x := S l) (i := i) (j := j) ⟨h0, h1, by rw [S_list]; exact h2⟩
  rw [show Txt.slice (S l) (some i) (some j) = StrLaws.sliceText (S l) (some i) (some j) from rfl, e, S_list]
  rfl
theorem item_at {l : List Nat} {i : Int} {c : Nat} (h0 : 0 ≤ i) (h : l[i.toNat]? = some c) : Txt.item (S l) i = S [c] := by
  have : Txt.charAt (S l) i = some c := StrLaws.at_nonneg h0 (by simp [S, h])
  unfold Txt.item
  rw [this]; rfl
theorem item_last {l : List Nat} {c : Nat} (h : l.getLast? = some c) : Txt.item (S l) (-1) = S [c] := by
  cases l with
  | nil => simp at h
  | cons a r =>
    have hl : (S (a :: r)).length = r.length + 1 := by rw [S_len]; rfl
    have : Txt.charAt (S (a :: r)) (-1) = some c := StrLaws.at_neg (by decide) (by rw [hl]; omega) (by
      have e : ((-1 : Int) + ((S (a :: r)).length : Int)).toNat = r.length := by rw [hl]; omega
      rw [e]
      rw [List.getLast?_eq_getElem?] at h
      simpa [S] using h)
    unfold Txt.item
    rw [this]; rfl
theorem occ_none_iff (l : List Nat) (c : Nat) : (Builtin.Str.occurrences (S l) (S [c]) 0 (S l).length 1).isEmpty = !decide (c ∈ l) := by
  have := StrLaws.found_one (S l) c
  rw [S_list] at this
  rw [← this]; simp [S]
theorem at_one (l : List Nat) (c i : Nat) : StrLaws.At (S l) (S [c]) (S l).length i ↔ l[i]? = some c := by
  have := StrLaws.subAt_one (S l) c i
  rw [S_list] at this
  exact this
theorem find_len {c : Nat} : ∀ {l : List Nat}, c ∈ l → l[(l.takeWhile (· != c)).length]? = some c ∧ ∀ k, k < (l.takeWhile (· != c)).length → l[k]? ≠ some c
  | [], h => by simp at h
  | a :: l, h => by
    by_cases ha : a = c
    · subst ha; simp
    · have hb : (a != c) = true := by simp [ha]
      rw [List.takeWhile_cons, if_pos hb]
      have hm : c ∈ l := by simpa [Ne.symm ha] using h
      obtain ⟨h1, h2⟩ := find_len hm
      refine ⟨by simpa using h1, ?_⟩
      intro k hk
      cases k with
      | zero => simp [ha]
      | succ k => simp at hk ⊢; exact h2 k (by omega)
theorem find_at {l : List Nat} {c : Nat} (h : c ∈ l) : Txt.find (S l) (S [c]) = ((l.takeWhile (· != c)).length : Int) := by
  unfold Txt.find
  rcases StrLaws.occ_head (S l) (S [c]) 1 (Nat.le_refl _) with ⟨_, hn⟩ | ⟨i, r, e, hi, hlt⟩
  · exfalso
    exact hn _ ((at_one l c _).mpr (find_len h).1)
  · rw [e]
    show (i : Int) = _
    have h1 := (at_one l c i).mp hi
    have h2 := find_len h
    congr 1
    apply Nat.le_antisymm
    · apply Nat.le_of_not_lt
      intro hk
      exact hlt _ hk ((at_one l c _).mpr h2.1)
    · apply Nat.le_of_not_lt
      intro hk
      exact h2.2 i hk h1
/-- joined by hand -/
noncomputable def joinL (sep : List Nat) : List (List Nat) → List Nat
  | [] => []
  | [x] => x
  | x :: y :: r => x ++ sep ++ joinL sep (y :: r)
theorem join_S (sep : List Nat) : ∀ rows : List (List Nat), Str.join (S sep) (rows.map S) = S (joinL sep rows)
  | [] => by simp [Str.join, joinL, S, Str.empty]
  | [x] => by simp [Str.join, joinL]
  | x :: y :: r => by
    have ih := join_S sep (y :: r)
    rw [List.map_cons] at ih
    rw [List.map_cons, List.map_cons, Str.join, ih, joinL, S_append, S_append]
    intro h; cases h
theorem txtjoin_S (sep : List Nat) (rows : List (List Nat)) : Txt.join (S sep) (rows.map S) = S (joinL sep rows) := by
  rw [Txt.join, StrLaws.glued_eq_join, join_S]
end Mine
namespace Mine
open PySem PySem.Spec PySem.Calls PyProof.Rows
theorem extract_S (l : List Nat) (b e : Nat) : (⟨(S l).cps.extract b e⟩ : Str) = S ((l.drop b).take (e - b)) := by
  apply Str.ext'
  apply Array.ext'
  simp [S]
theorem str0 : (⟨#[]⟩ : Str) = S [] := rfl
end Mine
end
section
namespace Mine
open PySem PySem.Spec PySem.Calls PyProof.Rows PySem.W

theorem typeCall_int_2 (a b : Value) : checkTypeCall "int" ⟨[a, b], []⟩ = pure () := by kernel_rfl
theorem newCall_int_2 (a b : Value) : checkBuiltinCall "int.__new__" ⟨[.type "int", a, b], []⟩ = pure () := by kernel_rfl
theorem args_object_init_3 (a b c : Value) : argsOk "object.__init__" ⟨[a, b, c], []⟩ := by unfold argsOk; kernel_rfl
theorem reads16 : (List.range 256).map (fun c => (int_private% "readNumeral") 0 16 [hexU (c / 16), hexU (c % 16)]) = (List.range 256).map (fun (c : Nat) => (int_private% "Numeral.value") ((c : Nat) : Int)) := by kernel_rfl!
theorem read16 {c : Nat} (h : c < 256) : (int_private% "readNumeral") 0 16 [hexU (c / 16), hexU (c % 16)] = (int_private% "Numeral.value") (c : Int) :=
  List.map_inj_left.mp reads16 c (List.mem_range.mpr h)
theorem wp_text16 {M : Model} {A : Around} {E : Value → Shared → Prop} {s : Shared} {Q : Value → Shared → Prop} {v : Value} {text : List Nat} {n : Int}
    (hs : (text.takeWhile (· != 0)).length ≤ 640) (hr : (int_private% "readNumeral") 0 16 (text.takeWhile (· != 0)) = (int_private% "Numeral.value") n)
    (ha : ((text.takeWhile (· != 0)).length == text.length) = true) (h : Q (.int n s.toks) { s with toks := s.toks + 1 }) :
    wpAny M A ((int_private% "intFromText") v text 16) Q E s := by
  obtain ⟨hp, g, d, tk, os⟩ := s
  repeat (any_goals (first
    | assumption
    | (with_reducible refine wpAny_ite_true (decide_eq_true hs) ?_)
    | (with_reducible refine wpAny_ite_true (decide_eq_true ha) ?_)
    | wp_step))
  all_goals (try rw [hr])
  all_goals (try dsimp only)
  repeat (any_goals (first
    | assumption
    | (with_reducible refine wpAny_ite_true (decide_eq_true hs) ?_)
    | (with_reducible refine wpAny_ite_true (decide_eq_true ha) ?_)
    | wp_step))
theorem gives_16 {c : Nat} {u v : Tok} (hc : c < 256) : Gives (Builtin.«int.__new__» ⟨[.type "int", .str (S [hexU (c / 16), hexU (c % 16)]) u, .int 16 v], []⟩) (.int c) :=
  .of_wp fun M A E s Q h => by
    have h1 : hexU (c / 16) ≠ 0 := by unfold hexU; split <;> omega
    have h2 : hexU (c % 16) ≠ 0 := by unfold hexU; split <;> omega
    have l1 : hexU (c / 16) < 128 := by unfold hexU; split <;> omega
    have l2 : hexU (c % 16) < 128 := by unfold hexU; split <;> omega
    have hs : ([hexU (c / 16), hexU (c % 16)].takeWhile (· != 0)) = [hexU (c / 16), hexU (c % 16)] := by simp [h1, h2]
    have hall : ((S [hexU (c / 16), hexU (c % 16)]).cps.all (· < 128)) = true := by simp [S, l1, l2]
    have htext : (if ((S [hexU (c / 16), hexU (c % 16)]).cps.all (· < 128)) = true then (S [hexU (c / 16), hexU (c % 16)]).cps.toList else Unicode.numberText (S [hexU (c / 16), hexU (c % 16)]).cps.toList) = [hexU (c / 16), hexU (c % 16)] := by rw [if_pos hall, S_list]
    have hr := read16 hc
    have hk := KIN.Hid.mk (And.intro hs hr)
    clear hs hr h1 h2 l1 l2 hc
    obtain ⟨hp, g, d, tk, os⟩ := s
    have f1 := F.conv_sub_int
    have f2 := F.madeHere_int
    have f6 : typeOf (.str (S [hexU (c / 16), hexU (c % 16)]) u) = pure (.type "str") := rfl
    repeat (any_goals (first
      | assumption
      | ((with_reducible show wpAny _ _ ((int_private% "intFromText") _ _ _) _ _ _); rw [htext]; refine wp_text16 (n := (c : Int)) (by rw [hk.out.1]; show (2 : Nat) ≤ 640; decide) (by rw [hk.out.1]; exact hk.out.2) (by rw [hk.out.1]; show ((2 : Nat) == 2) = true; decide) ?_)
      | wp_step))
    exact ⟨_, rfl, h⟩
section
variable {prog : Program} {w : World} {A : Around} {E : Value → Shared → Prop} {s : Shared} {Q : Value → Shared → Prop}
theorem int_16 {c : Nat} {t u : Tok} (hc : c < 256) (h : Q (.int c s.toks) { s with toks := s.toks + 1 }) : wpAny (model prog w) A (call (.type "int") [.str (S [hexU (c / 16), hexU (c % 16)]) t, .int 16 u]) Q E s :=
  callType_new F.called_int F.newNe_int (typeCall_int_2 _ _) (newCall_int_2 _ _) (fun obj => args_object_init_3 obj _ _) F.entry_int_new (gives_16 hc).meets (show (Made.int c).post _ s from ⟨rfl, h⟩)
end
end Mine
end
section
namespace Mine
open PySem PySem.Spec PySem.Calls PyProof.Rows
/-- what a reading holds -/
noncomputable def valD : Option (List Nat) → PyData
  | none => .none
  | some v => .str (S v)
noncomputable def pairD (n : List Nat) (v : Option (List Nat)) : PyData := .list [.list [.tuple [.str (S n), valD v]]]
noncomputable def rdData (r : List Nat) : PyData := if r = [] then .list [] else pairD (readName r) (readVal r)
theorem take_free {c : Nat} : ∀ {l : List Nat}, c ∉ l → l.takeWhile (· != c) = l ∧ l.dropWhile (· != c) = []
  | [], _ => ⟨rfl, rfl⟩
  | a :: l, h => by
    have ha : (a != c) = true := by simp at h ⊢; exact fun e => h.1 e.symm
    have hl : c ∉ l := fun hm => h (.tail _ hm)
    rw [List.takeWhile_cons, List.dropWhile_cons, if_pos ha, if_pos ha, (take_free hl).1, (take_free hl).2]
    exact ⟨rfl, rfl⟩
theorem take_len {c : Nat} : ∀ {l : List Nat}, c ∈ l → l.take (l.takeWhile (· != c)).length = l.takeWhile (· != c) ∧ l.dropWhile (· != c) = c :: l.drop ((l.takeWhile (· != c)).length + 1) ∧ (l.takeWhile (· != c)).length < l.length
  | [], h => by simp at h
  | a :: l, h => by
    by_cases ha : a = c
    · subst ha; simp
    · have hb : (a != c) = true := by simp [ha]
      have hm : c ∈ l := by simpa [Ne.symm ha] using h
      obtain ⟨h1, h2, h3⟩ := take_len hm
      rw [List.takeWhile_cons, List.dropWhile_cons, if_pos hb, if_pos hb]
      refine ⟨by simp [h1], by simpa using h2, by simpa using h3⟩
end Mine
end
section
namespace Mine
open PySem PySem.Spec PySem.Calls PyProof.Rows PySem.W

/-- the walk halts here -/
noncomputable def Halt (P : Prop) : Prop := P
theorem halt {P : Prop} (h : Halt P) : P := h

theorem strs_snoc {vs : List Value} {ys : List Str} {y : Str} {t : Tok} (h : StrsAre vs ys) : StrsAre (vs ++ [.str y t]) (ys ++ [y]) := by
  induction h with
  | nil => exact .cons _ _ .nil
  | cons y t _ ih => exact .cons _ _ ih
theorem strs_push {vs : Array Value} {ys : List Str} {y : Str} {t : Tok} (h : StrsAre vs.toList ys) : StrsAre (vs.push (.str y t)).toList (ys ++ [y]) := by
  rw [Array.toList_push]; exact strs_snoc h
theorem strs_len {vs : List Value} {ys : List Str} (h : StrsAre vs ys) : vs.length = ys.length := by
  induction h with
  | nil => rfl
  | cons y t _ ih => simp [ih]
theorem strs_at {vs : List Value} {ys : List Str} (h : StrsAre vs ys) : ∀ {i : Nat} {v : Value}, vs[i]? = some v → ∃ y t, ys[i]? = some y ∧ v = .str y t := by
  induction h with
  | nil => intro i v e; simp at e
  | cons y t _ ih =>
    intro i v e
    cases i with
    | zero => exact ⟨y, t, rfl, by simpa using e.symm⟩
    | succ i => exact ih (by simpa using e)
theorem ints_at {vs : List Value} {ns : List Int} (h : IntsAre vs ns) : ∀ {i : Nat} {v : Value}, vs[i]? = some v → ∃ n t, ns[i]? = some n ∧ v = .int n t := by
  induction h with
  | nil => intro i v e; simp at e
  | cons n t _ ih =>
    intro i v e
    cases i with
    | zero => exact ⟨n, t, rfl, by simpa using e.symm⟩
    | succ i => exact ih (by simpa using e)
theorem sub_left {α : Type} {a : α} {l own : List α} : ∀ p ∈ a :: l, p ∈ a :: (l.append own) := fun _ hp => (List.mem_cons.mp hp).elim (fun e => e ▸ .head _) fun h => .tail _ (List.mem_append_left _ h)
theorem sub_right {α : Type} {a : α} {l own : List α} : ∀ p ∈ own, p ∈ a :: (l.append own) := fun _ hp => .tail _ (List.mem_append_right _ hp)
theorem strs_step {α : Type} {f : α → List Nat} {l : List α} {i : Nat} {x : α} {y : Str} {t : Tok} {c : Array Value} (hx : l[i]? = some x) (hP : StrsAre c.toList (((l.take i).map f).map S)) (hy : y = S (f x)) : StrsAre (c.push (.str y t)).toList (((l.take (i + 1)).map f).map S) := by
  rw [List.take_add_one, hx, List.map_append, List.map_append, hy]
  exact strs_push hP
theorem ne_own {acc D : Addr} {o : Obj} {own : List (Addr × Obj)} (h : D ≠ acc) (ho : ∀ p ∈ own, p.1 ≠ acc) : ∀ p ∈ (D, o) :: own, p.1 ≠ acc := fun p hp => (List.mem_cons.mp hp).elim (fun e => e ▸ h) (ho p)
section
variable {prog : Program} {w : World} {A : Around} {E : Value → Shared → Prop} {s : Shared} {h₀ : Heap} {L : Addr} {m : Str → Option Value}
theorem append_hd {D : Addr} {its : Array Value} {n : Nat} {x : Value} {rest : List (Addr × Obj)} {Q : Value → Shared → Prop} (F : Fr h₀ L s.heap m) (N : News h₀ L s.heap ((D, listOf its n) :: rest)) (hne : ∀ p ∈ rest, p.1 ≠ D) (hsz : its.size ≤ 1000)
    (h : ∀ h', Fr h₀ L h' m → News h₀ L h' ((D, listOf (its.push x) (n + 1)) :: rest) → Q .none { s with heap := h' }) : wpAny (model prog w) A (call (.builtin "list.append") [.ref D, x]) Q E s :=
  append_K F N (Upd.head hne) h (Nat.le_trans hsz (by decide))
theorem join_S_list {D : Addr} {items : Array Value} {n : Nat} {sep : List Nat} {t : Tok} {rows : List (List Nat)} {Q : Value → Shared → Prop} (hl : s.heap.get? D = some (listOf items n)) (hi : StrsAre items.toList (rows.map S)) (hok : (joinL sep rows).length + rows.length + sep.length * rows.length ≤ 100000)
    (h : ∀ t' k, Q (.str (S (joinL sep rows)) t') { s with toks := k }) : wpAny (model prog w) A (call (.builtin "str.join") [.str (S sep) t, .ref D]) Q E s := by
  refine join_list ⟨_, hl, rfl, n, rfl⟩ hi ?_ fun t' k => by rw [txtjoin_S]; exact h t' k
  have hsum : ∀ rows : List (List Nat), ((rows.map S).map (·.length)).sum ≤ (joinL sep rows).length := by
    intro rows
    induction rows with
    | nil => simp [joinL]
    | cons x r ih =>
      cases r with
      | nil => simp [joinL, S_len]
      | cons y r =>
        rw [joinL, List.map_cons, List.map_cons, List.sum_cons, S_len, List.length_append, List.length_append]
        omega
  have := hsum rows
  rw [List.length_map, S_len, Nat.mul_comm rows.length]
  omega
end
end Mine
end
section
namespace Mine
open PySem PySem.Spec PySem.Calls PyProof.Rows PySem.Builtin.Str PySem.StrLaws

/-- the lines, cut at every 10 -/
noncomputable def linesL : List Nat → List (List Nat)
  | [] => [[]]
  | c :: t => if c = 10 then [] :: linesL t else match linesL t with
    | [] => [[c]]
    | r :: rs => (c :: r) :: rs
theorem linesL_ne : ∀ l, linesL l ≠ []
  | [] => by simp [linesL]
  | c :: t => by
    rw [linesL]; split
    · simp
    · split <;> simp
theorem linesL_free : ∀ l, ∀ r ∈ linesL l, 10 ∉ r
  | [], r, h => by simp [linesL] at h; simp [h]
  | c :: t, r, h => by
    have ih := linesL_free t
    rw [linesL] at h
    split at h
    · rcases List.mem_cons.mp h with rfl | h
      · simp
      · exact ih r h
    · rename_i hc
      split at h
      · rw [List.mem_singleton.mp h]; simp; exact fun e => hc e.symm
      · rename_i r0 rs e
        rcases List.mem_cons.mp h with rfl | h
        · simp; exact ⟨fun e => hc e.symm, ih r0 (by rw [e]; exact .head _)⟩
        · exact ih r (by rw [e]; exact .tail _ h)
theorem linesL_mem : ∀ l, ∀ r ∈ linesL l, ∀ c ∈ r, c ∈ l
  | [], r, h, c, hc => by simp [linesL] at h; simp [h] at hc
  | a :: t, r, h, c, hc => by
    have ih := linesL_mem t
    rw [linesL] at h
    split at h
    · rcases List.mem_cons.mp h with rfl | h
      · simp at hc
      · exact .tail _ (ih r h c hc)
    · split at h
      · rw [List.mem_singleton.mp h] at hc; rw [List.mem_singleton.mp hc]; exact .head _
      · rename_i r0 rs e
        rcases List.mem_cons.mp h with rfl | h
        · rcases List.mem_cons.mp hc with rfl | hc
          · exact .head _
          · exact .tail _ (ih r0 (by rw [e]; exact .head _) c hc)
        · exact .tail _ (ih r (by rw [e]; exact .tail _ h) c hc)
theorem joinL_cons {sep : List Nat} {r : List Nat} {rs : List (List Nat)} (h : rs ≠ []) : joinL sep (r :: rs) = r ++ sep ++ joinL sep rs := by
  cases rs with
  | nil => exact absurd rfl h
  | cons a b => rfl
theorem linesL_cut : ∀ (r : List Nat) (l : List Nat), 10 ∉ r → linesL (r ++ 10 :: l) = r :: linesL l
  | [], l, _ => by simp [linesL]
  | c :: r, l, h => by
    have hc : c ≠ 10 := fun e => h (e ▸ .head _)
    rw [List.cons_append, linesL, if_neg hc, linesL_cut r l fun hm => h (.tail _ hm)]
theorem linesL_one : ∀ (r : List Nat), 10 ∉ r → linesL r = [r]
  | [], _ => rfl
  | c :: r, h => by
    have hc : c ≠ 10 := fun e => h (e ▸ .head _)
    rw [linesL, if_neg hc, linesL_one r fun hm => h (.tail _ hm)]
theorem linesL_join : ∀ (rows : List (List Nat)), rows ≠ [] → (∀ r ∈ rows, 10 ∉ r) → linesL (joinL [10] rows) = rows
  | [], h, _ => absurd rfl h
  | [r], _, h => linesL_one r (h r (.head _))
  | r :: r2 :: rs, _, h => by
    rw [joinL_cons (by simp), List.append_assoc, List.singleton_append, linesL_cut r _ (h r (.head _)), linesL_join (r2 :: rs) (by simp) fun x hx => h x (.tail _ hx)]
theorem join_linesL : ∀ l, joinL [10] (linesL l) = l
  | [] => rfl
  | c :: t => by
    have ih := join_linesL t
    have hne := linesL_ne t
    rw [linesL]
    split
    · rename_i hc; rw [joinL_cons hne, ih, hc]; rfl
    · split
      · rename_i e; exact absurd e hne
      · rename_i r rs e
        rw [e] at ih
        cases rs with
        | nil => rw [joinL] at ih ⊢; rw [ih]
        | cons a b => rw [joinL] at ih ⊢; rw [← ih]; rfl
theorem map_S_of (xs : List Str) : (xs.map fun x => x.cps.toList).map S = xs := by
  rw [List.map_map]
  conv => rhs; rw [← List.map_id xs]
  exact List.map_congr_left fun x _ => S_of x
theorem split_ne (x y : Str) : Txt.split x y ≠ [] := by
  unfold Txt.split
  split
  · simp
  · split
    · simp
    · rw [partsBetween_eq]
      obtain ⟨p, r, e⟩ := partsFrom_ne x y.length 0 (occurrences x y 0 x.length (x.length + 1))
      rw [e]; simp
theorem split_S (x : List Nat) : Txt.split (S x) (S [10]) = (linesL x).map S := by
  have h1 := join_split (S x) (S [10])
  have h2 := split_free (S x) 10
  have h3 := split_ne (S x) (S [10])
  have hS : (⟨#[10]⟩ : Str) = S [10] := rfl
  rw [hS] at h2
  generalize hy : Txt.split (S x) (S [10]) = ys at *
  rw [← map_S_of ys] at h1 ⊢
  rw [join_S] at h1
  have h1' := S_inj h1
  rw [← h1', linesL_join]
  · exact fun e => h3 (List.map_eq_nil_iff.mp e)
  · intro r hr
    obtain ⟨y, hy, rfl⟩ := List.mem_map.mp hr
    exact h2 y hy
end Mine
end
section
namespace Mine
open PySem PySem.Spec PySem.Calls PyProof.Rows PySem.Builtin.Str PySem.StrLaws

/-- a part of a row holds no CR LF -/
noncomputable def NoSep (r : List Nat) : Prop := ∀ k, ¬ (r[k]? = some 13 ∧ r[k + 1]? = some 10)
theorem at_crlf (x : List Nat) (k : Nat) : At (S x) (S [13, 10]) (S x).length k ↔ x[k]? = some 13 ∧ x[k + 1]? = some 10 := by
  show (k + 2 ≤ (S x).length ∧ subAt (S x) (S [13, 10]) k = true) ↔ _
  rw [subAt_eq, S_list, S_list, S_len]
  show (k + 2 ≤ x.length ∧ ((x.drop k).take 2 == [13, 10]) = true) ↔ _
  constructor
  · rintro ⟨h1, h2⟩
    have e := eq_of_beq h2
    have g1 : ((x.drop k).take 2)[0]? = some 13 := by rw [e]; rfl
    have g2 : ((x.drop k).take 2)[1]? = some 10 := by rw [e]; rfl
    rw [List.getElem?_take_of_lt (by omega), List.getElem?_drop] at g1 g2
    exact ⟨g1, g2⟩
  · rintro ⟨g1, g2⟩
    have h2 := (List.getElem?_eq_some_iff.mp g2).1
    refine ⟨by omega, ?_⟩
    have : (x.drop k).take 2 = [13, 10] := by
      apply List.ext_getElem?
      intro i
      match i with
      | 0 => rw [List.getElem?_take_of_lt (by omega), List.getElem?_drop]; exact g1
      | 1 => rw [List.getElem?_take_of_lt (by omega), List.getElem?_drop]; exact g2
      | i + 2 => rw [List.getElem?_eq_none (by simp; omega)]; rfl
    rw [this]; rfl
theorem part_noSep (x : List Nat) (a b : Nat) (hn : ∀ k, a ≤ k → k < b → ¬ At (S x) (S [13, 10]) (S x).length k) : NoSep (strSub (S x) a b).cps.toList := by
  intro k hk
  rw [strSub_toList, S_list] at hk
  have hlt : k + 1 < b - a := by
    have h1 := (List.getElem?_eq_some_iff.mp hk.2).1
    simp at h1
    omega
  rw [List.getElem?_take_of_lt (by omega), List.getElem?_drop, List.getElem?_take_of_lt hlt, List.getElem?_drop] at hk
  exact hn (a + k) (by omega) (by omega) ((at_crlf x _).mpr ⟨hk.1, by rw [Nat.add_assoc]; exact hk.2⟩)
theorem parts_noSep (x : List Nat) : ∀ (cuts : List Nat) (a f : Nat), ChainG (S x) (S [13, 10]) (S x).length a cuts f → (∀ k, f ≤ k → ¬ At (S x) (S [13, 10]) (S x).length k) → ∀ p ∈ partsFrom (S x) (S [13, 10]).length a cuts, NoSep p.cps.toList
  | [], a, f, h, hn, p, hp => by
    have e : f = a := h
    subst e
    rw [List.mem_singleton.mp hp]
    exact part_noSep x f (S x).length fun k h1 _ => hn k h1
  | d :: r, a, f, h, hn, p, hp => by
    rcases List.mem_cons.mp hp with rfl | hp'
    · exact part_noSep x a d h.2.2.1
    · exact parts_noSep x r _ f h.2.2.2 hn p hp'
theorem noSep_join : ∀ (as bs : List (List Nat)), as ≠ [] → bs ≠ [] → (∀ r ∈ as, 13 ∉ r) → (∀ r ∈ bs, NoSep r) → joinL [13, 10] as = joinL [13, 10] bs → as = bs
  | [], _, h, _, _, _, _ => absurd rfl h
  | _, [], _, h, _, _, _ => absurd rfl h
  | a :: as, b :: bs, _, _, ha, hb, e => by
    have h13 : 13 ∉ a := ha a (.head _)
    have hbn : NoSep b := hb b (.head _)
    by_cases hA : as = []
    · subst hA
      by_cases hB : bs = []
      · subst hB; rw [joinL, joinL] at e; rw [e]
      · rw [joinL_cons hB, joinL] at e
        exact absurd (show 13 ∈ a by rw [e]; simp) h13
    · rw [joinL_cons hA] at e
      by_cases hB : bs = []
      · subst hB
        rw [joinL] at e
        refine absurd ⟨?_, ?_⟩ (hbn a.length)
        · rw [← e]; simp
        · rw [← e]; simp
      · rw [joinL_cons hB] at e
        have hle : a.length = b.length := by
          rcases Nat.lt_trichotomy a.length b.length with h | h | h
          · exfalso
            have k1 : (b ++ [13, 10] ++ joinL [13, 10] bs)[a.length]? = some 13 := by rw [← e]; simp
            have k2 : (b ++ [13, 10] ++ joinL [13, 10] bs)[a.length + 1]? = some 10 := by rw [← e]; simp
            rw [List.append_assoc, List.getElem?_append_left h] at k1
            by_cases h1 : a.length + 1 < b.length
            · rw [List.append_assoc, List.getElem?_append_left h1] at k2
              exact hbn _ ⟨k1, k2⟩
            · have : a.length + 1 = b.length := by omega
              rw [this] at k2; simp at k2
          · exact h
          · exfalso
            have k1 : (a ++ [13, 10] ++ joinL [13, 10] as)[b.length]? = some 13 := by rw [e]; simp
            rw [List.append_assoc, List.getElem?_append_left h] at k1
            exact h13 (List.mem_of_getElem? k1)
        rw [List.append_assoc, List.append_assoc] at e
        obtain ⟨e1, e2⟩ := List.append_inj e hle
        have e3 := List.append_cancel_left e2
        rw [e1, noSep_join as bs hA hB (fun r hr => ha r (.tail _ hr)) (fun r hr => hb r (.tail _ hr)) e3]
theorem kind_low {x : List Nat} (h : ∀ c ∈ x, c < 256) : Builtin.Str.strKind (S x) = Builtin.Str.strKind (S []) := by
  have : ∀ y : List Nat, (∀ c ∈ y, c < 256) → (S y).cps.all (· < 256) = true := fun y hy => by
    rw [← Array.all_toList, S_list]; exact List.all_eq_true.mpr fun c hc => decide_eq_true (hy c hc)
  unfold Builtin.Str.strKind
  rw [if_pos (this x h), if_pos (this [] (fun _ h => nomatch h))]
theorem split_noSep (x : List Nat) (hx : ∀ c ∈ x, c < 256) : ∀ p ∈ Txt.split (S x) (S [13, 10]), NoSep p.cps.toList := by
  obtain ⟨f, hG, hn⟩ := occ_tight (S x) (S [13, 10]) (by decide)
  unfold Txt.split
  split
  · rename_i hc
    intro p hp
    rw [List.mem_singleton.mp hp, S_list]
    rw [Bool.or_eq_true, decide_eq_true_eq, decide_eq_true_eq] at hc
    rcases hc with h | h
    · rw [S_len, S_len] at h
      rintro k ⟨h1, h2⟩
      have := (List.getElem?_eq_some_iff.mp h2).1
      simp at h; omega
    · rw [kind_low hx, kind_low (x := [13, 10]) (by decide)] at h
      exact absurd h (Nat.lt_irrefl _)
  · split
    · rename_i he
      intro p hp
      rw [List.mem_singleton.mp hp]
      have e0 : occurrences (S x) (S [13, 10]) 0 (S x).length ((S x).length + 1) = [] := List.isEmpty_iff.mp he
      rw [e0] at hG
      have ef : f = 0 := hG
      subst ef
      rw [← sub_whole (S x)]
      exact part_noSep x 0 _ fun k h1 _ => hn k h1
    · rw [partsBetween_eq]
      exact parts_noSep x _ 0 f hG hn
/-- what was glued is cut again -/
theorem split_crlf {rows : List (List Nat)} (hne : rows ≠ []) (h : ∀ r ∈ rows, 13 ∉ r) (hl : ∀ c ∈ joinL [13, 10] rows, c < 256) : Txt.split (S (joinL [13, 10] rows)) (S [13, 10]) = rows.map S := by
  have h1 := join_split (S (joinL [13, 10] rows)) (S [13, 10])
  have h2 := split_noSep _ hl
  have h3 := split_ne (S (joinL [13, 10] rows)) (S [13, 10])
  generalize Txt.split (S (joinL [13, 10] rows)) (S [13, 10]) = ys at *
  rw [← map_S_of ys] at h1 ⊢
  rw [join_S] at h1
  rw [noSep_join rows _ hne (fun e => h3 (List.map_eq_nil_iff.mp e)) h _ (S_inj h1).symm]
  intro r hr
  obtain ⟨y, hy, rfl⟩ := List.mem_map.mp hr
  exact h2 y hy
theorem split_lf {rows : List (List Nat)} (hne : rows ≠ []) (h : ∀ r ∈ rows, 10 ∉ r) : Txt.split (S (joinL [10] rows)) (S [10]) = rows.map S := by
  rw [split_S, linesL_join rows hne h]
end Mine
end
section
namespace Mine
open PySem PySem.Spec PySem.Calls PyProof.Rows PySem.Builtin.Str PySem.StrLaws

noncomputable def stp (x : Str) (st : LsSt) (i : Nat) : LsSt :=
  if (decide (st.snd ≤ i) && Unicode.isLineBreak (x.cps.getD i 0)) = true then (st.fst.push (st.snd, i, lsNext x i), lsNext x i) else (st.fst, st.snd)
theorem forIn_stp (x : Str) : ∀ (l : List Nat) (st : LsSt), Id.run (forIn (m := Id) l st (lsBody x)) = l.foldl (stp x) st
  | [], st => rfl
  | i :: l, st => by
    rw [List.forIn_cons, List.foldl_cons, ← forIn_stp x l]
    unfold lsBody stp
    split <;> rfl
/-- no break in this stretch -/
theorem fold_skip (x : Str) (st : LsSt) : ∀ (m cur : Nat), (∀ i, cur ≤ i → i < cur + m → Unicode.isLineBreak (x.cps.getD i 0) = false ∨ i < st.snd) → (List.range' cur m).foldl (stp x) st = st
  | 0, _, _ => rfl
  | m + 1, cur, h => by
    rw [List.range'_succ, List.foldl_cons]
    have e : stp x st cur = st := by
      unfold stp
      rcases h cur (Nat.le_refl _) (by omega) with h | h
      · rw [h, Bool.and_false]; rfl
      · rw [decide_eq_false (by omega)]; rfl
    rw [e]
    exact fold_skip x st m (cur + 1) fun i h1 h2 => h i (by omega) (by omega)
noncomputable def IsEol (e : List Nat) : Prop := e = [10] ∨ e = [13, 10]
/-- nothing here ends a line -/
noncomputable def Flat (r : List Nat) : Prop := ∀ c ∈ r, Unicode.isLineBreak c = false
noncomputable def spans (k : Nat) : Nat → List (List Nat) → List (Nat × Nat × Nat)
  | _, [] => []
  | a, [r] => if r = [] then [] else [(a, a + r.length, a + r.length)]
  | a, r :: r2 :: rs => (a, a + r.length, a + r.length + k) :: spans k (a + r.length + k) (r2 :: rs)
theorem getD_S' (l : List Nat) (i : Nat) : (S l).cps.getD i 0 = l.getD i 0 := by
  rw [Array.getD_eq_getD_getElem?, List.getD_eq_getElem?_getD]; simp [S]
theorem getD_at (pre r post : List Nat) (i : Nat) (h : i < r.length) : (S (pre ++ (r ++ post))).cps.getD (pre.length + i) 0 = r[i] := by
  rw [getD_S', List.getD_eq_getElem?_getD, List.getElem?_append_right (by omega), Nat.add_sub_cancel_left, List.getElem?_append_left h, List.getElem?_eq_getElem h]; rfl
theorem skip_row (pre r post : List Nat) (st : LsSt) (hr : Flat r) : (List.range' pre.length r.length).foldl (stp (S (pre ++ (r ++ post)))) st = st := by
  refine fold_skip _ _ _ _ fun i h1 h2 => .inl ?_
  have := getD_at pre r post (i - pre.length) (by omega)
  rw [show pre.length + (i - pre.length) = i by omega] at this
  rw [this]
  exact hr _ (List.getElem_mem ..)
theorem range_add (a m n : Nat) : List.range' a (m + n) = List.range' a m ++ List.range' (a + m) n := by
  rw [List.range'_append_1]
theorem run_rows {e : List Nat} (he : IsEol e) : ∀ (rows : List (List Nat)) (pre : List Nat) (acc : Array (Nat × Nat × Nat)), rows ≠ [] → (∀ r ∈ rows, Flat r) →
    lsEnd (S (pre ++ joinL e rows)) ((List.range' pre.length (joinL e rows).length).foldl (stp (S (pre ++ joinL e rows))) (acc, pre.length)) = acc.toList ++ spans e.length pre.length rows
  | [], _, _, h, _ => absurd rfl h
  | [r], pre, acc, _, hf => by
    have h1 := skip_row pre r [] (acc, pre.length) (hf r (.head _))
    rw [List.append_nil] at h1
    rw [joinL, h1, lsEnd, S_len, spans, List.length_append]
    by_cases h : r = []
    · subst h; simp
    · have : 0 < r.length := List.length_pos_iff.mpr h
      rw [if_pos (by show pre.length < pre.length + r.length; omega), if_neg h, Array.toList_push]
  | r :: r2 :: rs, pre, acc, _, hf => by
    have hj : joinL e (r :: r2 :: rs) = r ++ (e ++ joinL e (r2 :: rs)) := by rw [joinL_cons (by simp), List.append_assoc]
    have ih := run_rows he (r2 :: rs) (pre ++ (r ++ e)) (acc.push (pre.length, pre.length + r.length, pre.length + r.length + e.length)) (by simp) fun x hx => hf x (.tail _ hx)
    have eL : pre ++ (r ++ e) ++ joinL e (r2 :: rs) = pre ++ (r ++ (e ++ joinL e (r2 :: rs))) := by simp
    have eN : (pre ++ (r ++ e)).length = pre.length + r.length + e.length := by simp; omega
    rw [eL, eN] at ih
    rw [hj, spans, List.length_append, List.length_append, range_add, List.foldl_append, skip_row pre r _ _ (hf r (.head _)), range_add, List.foldl_append]
    have hmid : (List.range' (pre.length + r.length) e.length).foldl (stp (S (pre ++ (r ++ (e ++ joinL e (r2 :: rs)))))) (acc, pre.length) = (acc.push (pre.length, pre.length + r.length, pre.length + r.length + e.length), pre.length + r.length + e.length) := by
      rcases he with rfl | rfl
      · have g0 := getD_at (pre ++ r) [10] (joinL [10] (r2 :: rs)) 0 (by simp)
        rw [List.append_assoc, List.length_append] at g0
        have g : (S (pre ++ (r ++ ([10] ++ joinL [10] (r2 :: rs))))).cps.getD (pre.length + r.length) 0 = 10 := g0
        have hb : Unicode.isLineBreak 10 = true := by decide +kernel
        show stp _ _ _ = _
        unfold stp
        rw [g, hb, decide_eq_true (by show pre.length ≤ pre.length + r.length; omega)]
        have hn : lsNext (S (pre ++ (r ++ ([10] ++ joinL [10] (r2 :: rs))))) (pre.length + r.length) = pre.length + r.length + 1 := by
          unfold lsNext; rw [g]; rfl
        rw [hn]; rfl
      · have g0 := getD_at (pre ++ r) [13, 10] (joinL [13, 10] (r2 :: rs)) 0 (by simp)
        rw [List.append_assoc, List.length_append] at g0
        have g : (S (pre ++ (r ++ ([13, 10] ++ joinL [13, 10] (r2 :: rs))))).cps.getD (pre.length + r.length) 0 = 13 := g0
        have g2 : (S (pre ++ (r ++ ([13, 10] ++ joinL [13, 10] (r2 :: rs))))).cps[pre.length + r.length + 1]? = some 10 := by
          show (pre ++ (r ++ ([13, 10] ++ joinL [13, 10] (r2 :: rs)))).toArray[pre.length + r.length + 1]? = some 10
          rw [List.getElem?_toArray, List.getElem?_append_right (by omega), List.getElem?_append_right (by omega), show pre.length + r.length + 1 - pre.length - r.length = 1 by omega]
          rfl
        have hb : Unicode.isLineBreak 13 = true := by decide +kernel
        show stp _ (stp _ _ _) _ = _
        have hn : lsNext (S (pre ++ (r ++ ([13, 10] ++ joinL [13, 10] (r2 :: rs))))) (pre.length + r.length) = pre.length + r.length + 2 := by
          unfold lsNext; rw [g, g2]; rfl
        have e1 : stp (S (pre ++ (r ++ ([13, 10] ++ joinL [13, 10] (r2 :: rs))))) (acc, pre.length) (pre.length + r.length) = (acc.push (pre.length, pre.length + r.length, pre.length + r.length + 2), pre.length + r.length + 2) := by
          unfold stp
          rw [g, hb, decide_eq_true (by show pre.length ≤ pre.length + r.length; omega), hn]; rfl
        rw [e1]
        unfold stp
        rw [decide_eq_false (by show ¬ pre.length + r.length + 2 ≤ pre.length + r.length + 1; omega)]
        rfl
    rw [hmid, Nat.add_assoc, ← Nat.add_assoc, ih, Array.toList_push, List.append_assoc]
    rfl
/-- the last row falls out if it is empty -/
noncomputable def trimL : List (List Nat) → List (List Nat)
  | [] => []
  | [r] => if r = [] then [] else [r]
  | r :: r2 :: rs => r :: trimL (r2 :: rs)
theorem sub_at (pre r post : List Nat) : strSub (S (pre ++ (r ++ post))) pre.length (pre.length + r.length) = S r := by
  rw [← S_of (strSub _ _ _), strSub_toList, S_list]
  congr 1
  simp
theorem spans_trim (e : List Nat) : ∀ (rows : List (List Nat)) (pre : List Nat), (spans e.length pre.length rows).map (fun p => strSub (S (pre ++ joinL e rows)) p.1 p.2.1) = (trimL rows).map S
  | [], _ => rfl
  | [r], pre => by
    rw [spans, trimL]
    by_cases h : r = []
    · rw [if_pos h, if_pos h]; rfl
    · rw [if_neg h, if_neg h]
      have := sub_at pre r []
      rw [List.append_nil] at this
      simp only [List.map_cons, List.map_nil, joinL, this]
  | r :: r2 :: rs, pre => by
    have ih := spans_trim e (r2 :: rs) (pre ++ (r ++ e))
    have hj : joinL e (r :: r2 :: rs) = r ++ (e ++ joinL e (r2 :: rs)) := by rw [joinL_cons (by simp), List.append_assoc]
    have eL : pre ++ (r ++ e) ++ joinL e (r2 :: rs) = pre ++ (r ++ (e ++ joinL e (r2 :: rs))) := by simp
    have eN : (pre ++ (r ++ e)).length = pre.length + r.length + e.length := by simp; omega
    rw [eL, eN] at ih
    rw [spans, trimL, List.map_cons, List.map_cons, hj, ih, sub_at]
theorem lines_join {e : List Nat} (he : IsEol e) {rows : List (List Nat)} (hne : rows ≠ []) (hf : ∀ r ∈ rows, Flat r) : Txt.lines (S (joinL e rows)) = (trimL rows).map S := by
  have e1 : linesOf (S (joinL e rows)) = (trimL rows).map S := by
    unfold linesOf lineCuts
    rw [ls_eq, forIn_stp, List.map_map]
    have h := run_rows he rows [] #[] hne hf
    have h2 := spans_trim e rows []
    simp only [List.nil_append, List.length_nil] at h h2
    rw [S_len, h, ← h2]
    rfl
  unfold Txt.lines
  split
  · rename_i hc
    have hc := eq_of_beq hc
    rw [← e1]
    unfold linesOf
    rw [hc]
    simp [sub_whole]
  · exact e1
end Mine
end
section
namespace Mine
open PySem PySem.Spec PySem.Calls PyProof.Rows PySem.W
section
variable {prog : Program} {w : World} {A : Around} {E : Value → Shared → Prop} {s : Shared} {h₀ : Heap} {L : Addr} {m : Str → Option Value} {news : List (Addr × Obj)}
theorem split_call {x sep : Str} {t u : Tok} {Q : Value → Shared → Prop} (F : Fr h₀ L s.heap m) (N : News h₀ L s.heap news) (hy : (sep.length == 0) = false) (hx : x.length ≤ 1000)
    (h : ∀ D vs h' tk, StrsAre vs (Txt.split x sep) → Fr h₀ L h' m → News h₀ L h' ((D, listOf vs.toArray 0) :: news) → (∀ p ∈ news, p.1 < D) → Q (.ref D) { s with heap := h', toks := tk }) :
    wpAny (model prog w) A (call (.builtin "str.split") [.str x t, .str sep u]) Q E s := by
  refine splitN1A (hsz := Nat.le_trans (Nat.add_le_add_right hx 2) (by decide)) F N hy ?_
  intro l h' k e1 e2 e3 e4 F' N'
  exact h _ _ h' k (e1 ▸ e2) F' N' fun p hp => Heap.lt_size (N p hp).1
theorem lines_call {x : Str} {t : Tok} {Q : Value → Shared → Prop} (F : Fr h₀ L s.heap m) (N : News h₀ L s.heap news) (hx : x.length ≤ 1000)
    (h : ∀ D vs h' tk, StrsAre vs (Txt.lines x) → Fr h₀ L h' m → News h₀ L h' ((D, listOf vs.toArray 0) :: news) → (∀ p ∈ news, p.1 < D) → Q (.ref D) { s with heap := h', toks := tk }) :
    wpAny (model prog w) A (call (.builtin "str.splitlines") [.str x t]) Q E s := by
  refine splitlinesNA (hsz := Nat.le_trans (Nat.add_le_add_right hx 2) (by decide)) F N ?_
  intro l h' k e1 e2 e3 e4 F' N'
  exact h _ _ h' k (e1 ▸ e2) F' N' fun p hp => Heap.lt_size (N p hp).1
end
end Mine
end
section
namespace Mine
open PySem PySem.Spec PySem.Calls PyProof.Rows PySem.W PySem.Builtin PySem.Builtin.Str

section
variable {M : Model} {A : Around} {E : Value → Shared → Prop} {s : Shared}
theorem forIn_each {σ : Type} {f : Nat → σ → Sem (ForInStep σ)} (I : List Nat → σ → Shared → Prop) {Q : σ → Shared → Prop} :
    ∀ (l pre : List Nat) (st : σ) (s : Shared), (∀ p c q st s, l = p ++ c :: q → I (pre ++ p) st s → wpAny M A (f c st) (fun r s' => ∃ st', r = .yield st' ∧ I (pre ++ p ++ [c]) st' s') E s) → I pre st s → (∀ st s, I (pre ++ l) st s → Q st s) → wpAny M A (forIn l st f) Q E s
  | [], pre, st, s, _, hI, hQ => wpAny_pure (hQ st s (by rw [List.append_nil]; exact hI))
  | c :: l, pre, st, s, step, hI, hQ => by
    rw [List.forIn_cons]
    have h1 := step [] c l st s rfl (by rw [List.append_nil]; exact hI)
    refine wpAny_bind (wpAny_mono h1 (fun r s' h => ?_) fun _ _ h => h)
    obtain ⟨st', rfl, hI'⟩ := h
    refine forIn_each I l (pre ++ [c]) st' s' (fun p d q st2 s2 e h2 => ?_) (by simpa using hI') fun st2 s2 h2 => hQ st2 s2 (by simpa using h2)
    have := step (c :: p) d q st2 s2 (by rw [e]; rfl) (by simpa using h2)
    simpa using this
end
section
variable {prog : Program} {w : World} {A : Around} {E : Value → Shared → Prop} {s : Shared}
theorem lookup_text {tb : Addr} {items : Array Value} {c : Nat} {y : Str} {t : Tok} {Q : Mapped → Shared → Prop} (hl : s.heap.IsList tb items) (hc : c < 256) (hi : items[c]? = some (.str y t)) (h : Q (.text y) { s with toks := s.toks + 1 }) :
    wpAny (model prog w) A (tableLookup (.ref tb) c) Q E s := by
  unfold tableLookup
  refine wpAny_bind (wpAny_attempt (wpAny_bind (wpAny_mkInt ?_)))
  refine wpAny_getItem_list (x := .str y t) (hl.at fun o e => e) (Int.natCast_nonneg _) (by omega) (by rw [Int.toNat_natCast]; exact hi) ?_
  show wpAny _ _ (asInt? (.str y t) >>= _) _ _ _
  refine wpAny_bind (m := asInt? (.str y t)) (wpAny_of_eq rfl ?_)
  refine wpAny_bind (m := asStr? (.str y t)) (wpAny_pure ?_)
  exact wpAny_pure h
end
end Mine
end
section
namespace Mine
open PySem PySem.Spec PySem.Calls PyProof.Rows PySem.W PySem.Builtin PySem.Builtin.Str
section
variable {prog : Program} {w : World} {A : Around} {E : Value → Shared → Prop} {s : Shared}
theorem translate_ {tb : Addr} {items : Array Value} {f : Nat → List Nat} {x : List Nat} {t : Tok} {Q : Value → Shared → Prop} (hl : s.heap.IsList tb items) (hit : ∀ c ∈ x, c < 256 ∧ ∃ t, items[c]? = some (.str (S (f c)) t)) (hne : x ≠ []) (hnf : x.all (· < 128) = false)
    (hlen : (x.flatMap f).length ≤ 1000) (h : ∀ tk k, Q (.str (S (x.flatMap f)) k) { s with toks := tk }) : wpAny (model prog w) A (call (.builtin "str.translate") [.str (S x) t, .ref tb]) Q E s := by
  refine wpAny_call_entry F.slot_str_translate (T := "str") (typeIs_str _ _ _) F.entry_str_translate ?_ (F.args_str_translate_2 _ _)
  unfold Builtin.«str.translate»
  refine wpAny_bind (m := strOneArg "translate" _) (wpAny_of_eq rfl ?_)
  have h0 : ((S x).length == 0) = false := by
    rw [S_len]; cases x with
    | nil => exact absurd rfl hne
    | cons a b => rfl
  have hall : (S x).cps.all (· < 128) = false := by rw [← Array.all_toList, S_list]; exact hnf
  dsimp only
  rw [h0, hall]
  simp only [Bool.false_eq_true, if_false]
  rw [← Array.forIn_toList, S_list]
  refine wpAny_bind (forIn_each (fun pre st s1 => st = ((pre.map fun c => S (f c)).reverse, (pre.flatMap f).length, false, [], false) ∧ ∃ tk, s1 = { s with toks := tk }) x [] _ s ?_ ⟨rfl, s.toks, rfl⟩ ?_)
  · rintro p c q st s1 e ⟨rfl, tk, rfl⟩
    have hlong : tooLong (p.flatMap f).length = false := by
      have : (p.flatMap f).length ≤ (x.flatMap f).length := by rw [e, List.flatMap_append, List.length_append]; omega
      unfold tooLong; rw [decide_eq_false]; rw [show sizeLine = 16777216 from rfl]; omega
    dsimp only [List.nil_append]
    rw [if_neg (by rw [hlong]; exact Bool.false_ne_true)]
    simp only [Bool.false_eq_true, if_false]
    obtain ⟨h256, t', hi⟩ := hit c (by rw [e]; simp)
    refine wpAny_bind (lookup_text (s := { s with toks := tk }) (y := S (f c)) hl h256 hi ?_)
    refine wpAny_pure ⟨_, rfl, ?_, tk + 1, rfl⟩
    rw [List.map_append, List.reverse_append, List.flatMap_append, List.length_append, S_len]
    simp
  · rintro st s1 ⟨rfl, tk, rfl⟩
    have hlong : tooLong (x.flatMap f).length = false := by
      unfold tooLong; rw [decide_eq_false]; rw [show sizeLine = 16777216 from rfl]; omega
    dsimp only [List.nil_append]
    rw [if_neg (by rw [hlong]; exact Bool.false_ne_true)]
    simp only [List.reverse_reverse]
    have hfold : ∀ (l : List Nat) (a : List Nat), (⟨(l.map fun c => S (f c)).foldl (fun acc p => acc ++ p.cps) a.toArray⟩ : Str) = S (a ++ l.flatMap f) := by
      intro l
      induction l with
      | nil => intro a; simp [S]
      | cons c l ih =>
        intro a
        rw [List.map_cons, List.foldl_cons]
        have : a.toArray ++ (S (f c)).cps = (a ++ f c).toArray := by simp [S]
        rw [this, ih, List.flatMap_cons, List.append_assoc]
    have hf := hfold x []
    rw [List.nil_append] at hf
    show wpAny _ _ (retStr ⟨(x.map fun c => S (f c)).foldl (fun acc p => acc ++ p.cps) ([] : List Nat).toArray⟩) _ _ _
    rw [hf]
    refine wpAny_bind (wpAny_mkStr ?_ (by rw [S_len, show sizeLine = 16777216 from rfl]; omega))
    exact wpAny_pure ⟨_, rfl, h _ _⟩
end
end Mine
end
section
namespace Mine
open PySem PySem.Spec PySem.Calls PyProof.Rows PySem.W
/-- what the table holds -/
noncomputable def trans (c : Nat) : List Nat := if c = 9 ∨ c = 10 ∨ c = 13 ∨ c = 32 then [c] else piece c
noncomputable def isS (v : Option Value) (y : Str) : Bool := match v with
  | some (.str x _) => x == y
  | _ => false
theorem isS_of {v : Option Value} {y : Str} (h : isS v y = true) : ∃ t, v = some (.str y t) := by
  unfold isS at h
  split at h
  · rw [eq_of_beq h]; exact ⟨_, rfl⟩
  · cases h
noncomputable def itemsOf (o : Option Obj) : Array Value := match o with
  | some ⟨_, _, .seq its _, _⟩ => its
  | _ => #[]
theorem map_all (P : Params) : (List.range 256).all (fun c => isS ((itemsOf ((hK P).lookup 63))[c]?) (S (trans c))) = true := by kernel_rfl
theorem map_list {w : World} {h : Heap} (X : (hK w.params).In h) : ∃ items, h.IsList 63 items ∧ ∀ c, c < 256 → ∃ t, items[c]? = some (.str (S (trans c)) t) := by
  refine ⟨itemsOf ((hK w.params).lookup 63), ⟨_, X 63 _ rfl, rfl, _, rfl⟩, fun c hc => ?_⟩
  exact isS_of (List.all_eq_true.mp (map_all w.params) c (List.mem_range.mpr hc))
section
variable {M : Model} {A : Around} {E : Value → Shared → Prop} {s : Shared}
theorem translate_method {x : Str} {t : Tok} {pl : Sem Bool} {Q : Value × List Value → Shared → Prop} (h : Q (.builtin "str.translate", [.str x t]) s) : wpAny M A (getMethod (.str x t) "translate" pl) Q E s := by
  with_reducible exact GM.of (.str x t) (typeIs_str _ _ _) F.slot_str_translate F.type_str_translate GM.noRef h
end
section
variable {prog : Program} {w : World} {A : Around} {E : Value → Shared → Prop} {s : Shared} {h₀ : Heap} {L : Addr} {m : Str → Option Value}
theorem translate_map {x : List Nat} {t : Tok} {Q : Value → Shared → Prop} (X : (hK w.params).In h₀) (F : Fr h₀ L s.heap m) (hx : x.length ≤ 18) (hc : ∀ c ∈ x, c < 256) (hne : x ≠ []) (hnf : x.all (· < 128) = false)
    (h : ∀ tk k, Q (.str (S (x.flatMap trans)) k) { s with toks := tk }) : wpAny (model prog w) A (call (.builtin "str.translate") [.str (S x) t, .ref 63]) Q E s := by
  obtain ⟨items, hl, hi⟩ := map_list (X.keeps F.keep)
  refine translate_ hl (fun c hcx => ⟨hc c hcx, hi c (hc c hcx)⟩) hne hnf ?_ h
  have h3 : ∀ c, (trans c).length ≤ 3 := fun c => by
    unfold trans
    split
    · simp
    · unfold piece; split <;> simp
  have : ∀ l : List Nat, (l.flatMap trans).length ≤ 3 * l.length := by
    intro l
    induction l with
    | nil => simp
    | cons a l ih => rw [List.flatMap_cons, List.length_append, List.length_cons]; have := h3 a; omega
  have := this x
  omega
end
end Mine
end
section
namespace Mine
open PySem PySem.Spec PySem.Calls PyProof.Rows PySem.W

/-- all signs stand for themselves, none parts words -/
noncomputable def AllP (l : List Nat) : Prop := ∀ c ∈ l, Prn c
theorem getD_S (l : List Nat) (i : Nat) : (S l).cps.getD i 0 = l.getD i 0 := by
  rw [Array.getD_eq_getD_getElem?, List.getD_eq_getElem?_getD]; simp [S]
theorem takeWhile_all {f : Nat → Bool} : ∀ {l : List Nat}, (∀ c ∈ l, f c = true) → l.takeWhile f = l
  | [], _ => rfl
  | a :: l, h => by rw [List.takeWhile_cons, if_pos (h a (.head _)), takeWhile_all fun c hc => h c (.tail _ hc)]
theorem takeWhile_congr {f g : Nat → Bool} : ∀ {l : List Nat}, (∀ c ∈ l, f c = g c) → l.takeWhile f = l.takeWhile g
  | [], _ => rfl
  | a :: l, h => by
    rw [List.takeWhile_cons, List.takeWhile_cons, h a (.head _), takeWhile_congr fun c hc => h c (.tail _ hc)]
theorem cnt_S {f : Nat → Bool} (l : List Nat) (p : Nat) (hp : p ≤ l.length) : cnt f (S l).cps (l.length - p) p = ((l.drop p).takeWhile f).length := by
  rw [cnt_list _ _ (by rw [S_size]; omega), S_list]
theorem row_tok {b : List Nat} (hb : AllP b) (hl : b.length ≤ 1000) {n : Nat} (hn : n = (b.takeWhile (· != 61)).length) (h1 : 1 ≤ n) :
    Finds 20 (Sre.forSearch tokC (S b).cps 1 0 (S b).cps.size false) 0 n #[some 0, some n] 1 1 := by
  cases b with
  | nil => simp at hn; omega
  | cons a t =>
    refine tok_finds (by rw [S_size]; omega) (by rw [S_size]; simp) ?_ ?_ h1
    · rw [getD_S]; exact (hb a (.head _)).cls.1
    · have := cnt_S (f := tokF) (a :: t) 0 (Nat.zero_le _)
      rw [Nat.sub_zero] at this
      rw [S_size, this, hn, List.drop_zero, takeWhile_congr (g := (· != 61)) fun c hc => (hb c hc).cls.2.1]
theorem row_tokNo {t : List Nat} (hl : t.length ≤ 1000) : Fails 5000 (Sre.forSearch tokC (S (61 :: t)).cps 1 0 (S (61 :: t)).cps.size false) :=
  (tok_fails (.inr (by rw [getD_S]; rfl))).le (by rw [S_size]; simp; omega)
theorem row_quo {l : List Nat} (hl : l.length ≤ 1000) (h : l = [] ∨ ∃ v, l = 61 :: v ∧ AllP v ∧ ∀ x, v.head? = some x → x ≠ 34) : Fails 5000 (Sre.forSearch quoC (S l).cps 1 0 (S l).cps.size false) := by
  refine (quo_fails ?_).le (by rw [S_size]; omega)
  rcases h with rfl | ⟨v, rfl, hv, hx⟩
  · left; rw [S_size]; decide
  · by_cases h3 : (S (61 :: v)).cps.size < 3
    · exact .inl h3
    · right
      rw [S_size] at h3
      cases v with
      | nil => simp at h3
      | cons x v =>
        refine ⟨by rw [getD_S]; rfl, ?_, ?_⟩
        · rw [getD_S]; exact (hv x (.head _)).cls.1
        · rw [getD_S]; exact hx x rfl
theorem row_valNo : Fails 5000 (Sre.forSearch valC (S []).cps 1 0 (S []).cps.size false) := val_fails.le (by decide)
theorem row_val {v : List Nat} (hv : AllP v) (hl : v.length ≤ 1000) : Finds 20 (Sre.forSearch valC (S (61 :: v)).cps 1 0 (S (61 :: v)).cps.size false) 0 (v.length + 1) #[some 1, some (v.length + 1)] 1 1 := by
  have hs : (S (61 :: v)).cps.size = v.length + 1 := by rw [S_size]; rfl
  rw [hs]
  refine val_finds (by omega) (by omega) (by rw [getD_S]; rfl) ?_ ?_
  · cases v with
    | nil => left; rfl
    | cons x v => right; rw [getD_S]; exact (hv x (.head _)).cls.1
  · have := cnt_S (f := valF) (61 :: v) 1 (by simp)
    rw [List.length_cons] at this
    rw [this, List.drop_succ_cons, List.drop_zero]
    have e : v.takeWhile valF = v := takeWhile_all fun c hc => (hv c hc).cls.2.2.1
    rw [e]; omega
theorem row_twin {x : Nat} {t : List Nat} (hx : Prn x) (hx61 : x ≠ 61) (hl : t.length ≤ 1000) :
    Finds 20 (Sre.forSearch twinC (S (61 :: x :: t)).cps 0 0 (S (61 :: x :: t)).cps.size false) 0 1 #[] (-1) (-1) := by
  have hs : (S (61 :: x :: t)).cps.size = t.length + 2 := by rw [S_size]; rfl
  refine twin_finds (by rw [hs]; omega) ?_
  rw [hs, Nat.min_eq_right (by omega)]
  have := cnt_S (f := twinF) (61 :: x :: t) 0 (Nat.zero_le _)
  rw [Nat.sub_zero, List.length_cons, List.length_cons] at this
  rw [this, List.drop_zero, List.takeWhile_cons, List.takeWhile_cons]
  have e1 : twinF 61 = true := by decide +kernel
  have e2 : twinF x = false := by rw [hx.cls.2.2.2]; simp [hx61]
  rw [e1, e2]; rfl
theorem row_twinNo {t : List Nat} (hl : t.length ≤ 1000) : Fails 5000 (Sre.forSearch twinC (S (61 :: t)).cps 0 1 (S (61 :: t)).cps.size false) :=
  (twin_fails (by rw [S_size]; simp)).le (by rw [S_size]; simp; omega)

section
variable {w : World} {h : Heap}
theorem pat_tok (X : (hK w.params).In h) : IsPat h 99 tokC 1 := ⟨_, _, X 99 _ rfl, rfl, rfl, rfl, rfl, rfl, 98, _, _, _, rfl, X 98 _ rfl, rfl, by decide +kernel⟩
theorem pat_quo (X : (hK w.params).In h) : IsPat h 104 quoC 1 := ⟨_, _, X 104 _ rfl, rfl, rfl, rfl, rfl, rfl, 103, _, _, _, rfl, X 103 _ rfl, rfl, by decide +kernel⟩
theorem pat_val (X : (hK w.params).In h) : IsPat h 109 valC 1 := ⟨_, _, X 109 _ rfl, rfl, rfl, rfl, rfl, rfl, 108, _, _, _, rfl, X 108 _ rfl, rfl, by decide +kernel⟩
theorem pat_twin (X : (hK w.params).In h) : IsPat h 87 twinC 0 := ⟨_, _, X 87 _ rfl, rfl, rfl, rfl, rfl, rfl, 86, _, _, _, rfl, X 86 _ rfl, rfl, by decide +kernel⟩
end
end Mine
end
section
namespace Mine
open PySem PySem.Spec PySem.Calls PyProof.Rows PySem.W PySem.Builtin.Str

theorem tw_nil {f : Nat → Bool} : ∀ {l : List Nat}, (∀ c ∈ l, f c = false) → l.takeWhile f = []
  | [], _ => rfl
  | a :: l, h => by rw [List.takeWhile_cons, if_neg (by rw [h a (.head _)]; exact Bool.false_ne_true)]
theorem rstrip_S {v : List Nat} (h : AllP v) : Txt.rstrip (S v) = S v := by
  unfold Txt.rstrip Txt.stripBy
  rw [if_pos]
  simp only [stripSame, stripLo, stripHi, S_list, Bool.false_eq_true, if_false, if_true, List.drop_zero]
  rw [tw_nil (f := Unicode.isSpace) (l := v.reverse) fun c hc => (h c (List.mem_reverse.mp hc)).cls.1]
  simp
theorem lstrip_S {v : List Nat} (h : AllP v) : Txt.lstrip (S v) = S v := by
  unfold Txt.lstrip Txt.stripBy
  rw [if_pos]
  simp only [stripSame, stripLo, stripHi, S_list, Bool.false_eq_true, if_false, if_true]
  rw [tw_nil (f := Unicode.isSpace) (l := v) fun c hc => (h c hc).cls.1]
  simp
theorem starts_no {c : Nat} {t : List Nat} (h : AllP (c :: t)) : Txt.startswith (Txt.lstrip (S (c :: t))) (Str.ofString ",") = false := by
  rw [lstrip_S h, show Str.ofString "," = S [44] from by decide +kernel]
  unfold Txt.startswith subAt
  have : c ≠ 44 := (h c (.head _)).2.2.1
  have e : ((S (c :: t)).cps.extract 0 (0 + (S [44]).length) == (S [44]).cps) = false := by
    simp [S, Str.length, this]
  rw [e, Bool.and_false]
theorem dropTW {f : Nat → Bool} : ∀ (b : List Nat), b.drop (b.takeWhile f).length = b.dropWhile f
  | [] => rfl
  | a :: l => by
    rw [List.takeWhile_cons, List.dropWhile_cons]
    by_cases h : f a = true
    · rw [if_pos h, if_pos h, List.length_cons, List.drop_succ_cons]; exact dropTW l
    · rw [if_neg h, if_neg h]; rfl
theorem tok_facts {b : List Nat} (hP : AllP b) (hl : b.length ≤ 1000) (hne : b ≠ []) (h61 : b.head? ≠ some 61) (hnx : ∀ i, b[i]? = some 61 → ∀ x, b[i + 1]? = some x → isHexU x) :
    ∃ n, n ≤ b.length ∧ Finds 20 (Sre.forSearch tokC (S b).cps 1 0 (S b).cps.size false) 0 n #[some 0, some n] 1 1 ∧ Fails 5000 (Sre.forSearch quoC (S (b.drop n)).cps 1 0 (S (b.drop n)).cps.size false) ∧
      (S (b.drop n)).length ≤ 1000 ∧ (b.drop 0).take (n - 0) = b.takeWhile (· != 61) ∧
      ((Fails 5000 (Sre.forSearch valC (S (b.drop n)).cps 1 0 (S (b.drop n)).cps.size false) ∧ (S (b.drop n)).length = 0 ∧ b.dropWhile (· != 61) = []) ∨
       (∃ k v, Finds 20 (Sre.forSearch valC (S (b.drop n)).cps 1 0 (S (b.drop n)).cps.size false) 0 k #[some 1, some k] 1 1 ∧ k ≤ (b.drop n).length ∧ 1 ≤ k ∧ (S ((b.drop n).drop k)).length = 0 ∧
         (S (((b.drop n).drop 1).take (k - 1))).length ≤ 1000 ∧ Txt.rstrip (S (((b.drop n).drop 1).take (k - 1))) = S v ∧ b.dropWhile (· != 61) = 61 :: v)) := by
  by_cases hm : 61 ∈ b
  · obtain ⟨h1, h2, h3⟩ := take_len hm
    generalize hn : (b.takeWhile (· != 61)).length = n at h1 h2 h3
    have hn1 : 1 ≤ n := by
      obtain ⟨c, t, rfl⟩ := List.exists_cons_of_ne_nil hne
      have : (c != 61) = true := by simp at h61 ⊢; exact h61
      rw [← hn, List.takeWhile_cons, if_pos this]; simp
    have hd : b.drop n = 61 :: b.drop (n + 1) := by
      rw [← h2, ← hn]
      exact (dropTW b)
    have hv : AllP (b.drop (n + 1)) := fun c hc => hP c (List.mem_of_mem_drop hc)
    have hx : ∀ x, (b.drop (n + 1)).head? = some x → x ≠ 34 := by
      intro x hx e
      have i1 : b[n]? = some 61 := by
        have := congrArg List.head? hd
        simpa using this
      have i2 : b[n + 1]? = some x := by simpa using hx
      have := hnx n i1 x i2
      rw [e] at this; revert this; decide
    refine ⟨n, by omega, row_tok hP hl hn.symm hn1, ?_, ?_, ?_, .inr ⟨(b.drop (n + 1)).length + 1, b.drop (n + 1), ?_⟩⟩
    · exact row_quo (by simp; omega) (.inr ⟨_, hd, hv, hx⟩)
    · rw [S_len]; simp; omega
    · simpa using h1
    · rw [hd]
      refine ⟨row_val hv (by simp; omega), by simp, by omega, by rw [S_len]; simp; omega, by rw [S_len]; simp; omega, ?_, h2⟩
      have : ((61 :: b.drop (n + 1)).drop 1).take ((b.drop (n + 1)).length + 1 - 1) = b.drop (n + 1) := by rw [Nat.add_sub_cancel, List.drop_succ_cons, List.drop_zero, List.take_length]
      rw [this, rstrip_S hv]
  · obtain ⟨h1, h2⟩ := take_free hm
    have hd : b.drop b.length = [] := by simp
    have hlen : 1 ≤ b.length := by cases b with | nil => exact absurd rfl hne | cons c t => simp
    refine ⟨b.length, Nat.le_refl _, row_tok hP hl (by rw [h1]) hlen, ?_, ?_, ?_, .inl ⟨?_, ?_, h2⟩⟩
    · exact row_quo (by simp) (.inl hd)
    · rw [hd]; decide
    · rw [h1]; simp
    · rw [hd]; exact row_valNo
    · rw [hd]; rfl
section
variable {prog : Program} {w : World} {A : Around} {E : Value → Shared → Prop} {s : Shared} {h₀ : Heap} {L : Addr} {m : Str → Option Value} {news : List (Addr × Obj)}
theorem str_yes {x : Str} {t : Tok} {Q : Bool → Shared → Prop} (hp : 1 ≤ x.length) (hl : x.length ≤ 1000) (h : ∀ k, Q true { s with toks := k }) : wpAny (model prog w) A (truthy (.str x t)) Q E s :=
  KXt.truthy (bne_iff_ne.mpr (by omega)) (Nat.le_trans hl (by decide)) h
theorem str_no {x : Str} {t : Tok} {Q : Bool → Shared → Prop} (hp : x.length = 0) (h : ∀ k, Q false { s with toks := k }) : wpAny (model prog w) A (truthy (.str x t)) Q E s :=
  KXt.truthy (by rw [hp]; rfl) (by omega) h
theorem search_S {P : Addr} {code : Array Nat} {k e b1 e1 : Nat} {li : Int} {x : Str} {t : Tok} {Q : Value → Shared → Prop} (F : Fr h₀ L s.heap m) (N : News h₀ L s.heap news) (H : IsPat s.heap P code 1) (hx : x.length ≤ 1000)
    (hf : Finds k (Sre.forSearch code x.cps 1 0 x.cps.size false) 0 e #[some b1, some e1] 1 li) (hk : k < 1000000) (hbe : b1 ≤ e1)
    (h : ∀ a tp h', Fr h₀ L h' m → News h₀ L h' ((a, matchO x t P x.cps.size li tp) :: (tp, spansO [0, e, b1, e1]) :: news) → (∀ p ∈ (tp, spansO [0, (e : Int), b1, e1]) :: news, p.1 < a) → (∀ p ∈ news, p.1 < tp) → Q (.ref a) { s with heap := h' }) :
    wpAny (model prog w) A (call (.builtin "re.Pattern.search") [.ref P, .str x t]) Q E s :=
  search_one F N H (Nat.le_trans hx (by decide)) hf hk hbe fun a tp h' F' N' l1 l2 => h a tp h' F' N' (fun p hp => by
    rcases List.mem_cons.mp hp with rfl | hp
    · exact l1
    · exact Nat.lt_trans (l2 p hp) l1) l2
theorem search_no {P : Addr} {code : Array Nat} {g k : Nat} {x : Str} {t : Tok} {Q : Value → Shared → Prop} (H : IsPat s.heap P code g) (hx : x.length ≤ 1000)
    (hf : Fails k (Sre.forSearch code x.cps g 0 x.cps.size false)) (hk : k < 1000000) (h : Q .none s) : wpAny (model prog w) A (call (.builtin "re.Pattern.search") [.ref P, .str x t]) Q E s :=
  search_none H (Nat.le_trans hx (by decide)) hf hk h
theorem group_S {a tp P : Addr} {l : List Nat} {t u : Tok} {lim : Nat} {li e : Int} {b1 e1 : Nat} {Q : Value → Shared → Prop} (hm : s.heap.get? a = some (matchO (S l) t P lim li tp)) (ht : s.heap.get? tp = some (spansO [0, e, b1, e1])) (hx : (S l).length ≤ 1000)
    (h : Q (.str (S ((l.drop b1).take (e1 - b1))) s.toks) { s with toks := s.toks + 1 }) :
    wpAny (model prog w) A (call (.builtin "re.Match.group") [.ref a, .int 1 u]) Q E s :=
  group_one hm ht (Nat.le_trans hx (by decide)) (by rw [extract_S]; exact h)
theorem subn_S {P : Addr} {code : Array Nat} {k c : Nat} {l : List Nat} {t u : Tok} {Q : Value → Shared → Prop} (F : Fr h₀ L s.heap m) (N : News h₀ L s.heap news) (H : IsPat h₀ P code 0) (hx : (S (c :: l)).length ≤ 1000) (hl : l ≠ [])
    (hf : Finds k (Sre.forSearch code (S (c :: l)).cps 0 0 (S (c :: l)).cps.size false) 0 1 #[] (-1) (-1)) (hf' : Fails k (Sre.forSearch code (S (c :: l)).cps 0 1 (S (c :: l)).cps.size false)) (hk : k < 1000000)
    (h : ∀ r k1 k2 h' tk, Fr h₀ L h' m → News h₀ L h' ((r, { cls := .type "tuple", data := .seq #[.str (S l) k1, .int 1 k2] }) :: news) → (∀ p ∈ news, p.1 < r) → Q (.ref r) { s with heap := h', toks := tk }) :
    wpAny (model prog w) A (call (.builtin "re.Pattern.subn") [.ref P, .str ⟨#[]⟩ u, .str (S (c :: l)) t]) Q E s := by
  refine subn_one F N H hx ?_ hf hf' hk fun r k1 k2 h' tk F' N' lt => h r k1 k2 h' tk F' ?_ lt
  · rw [S_size]; cases l with
    | nil => exact absurd rfl hl
    | cons a l => simp
  · rw [extract_S, S_size] at N'
    simpa using N'
end
end Mine
end
section
namespace Mine
open PySem PySem.Spec PySem.Calls PyProof.Rows PySem.W

theorem ty_append : typeOf (.builtin "list.append") = pure (.type "method_descriptor") := by kernel_rfl
theorem list_append_is : typeLookup (.type "list") "append" = pure (some (.builtin "list.append")) := by rw [typeLookup_type, builtinLookup_eq_fast]; kernel_rfl
theorem slot_mdd_get : Slot "method_descriptor" "__get__" "method_descriptor.__get__" :=
  .of (owner := "method_descriptor") (n := "__get__") (by rw [typeLookup_type, builtinLookup_eq_fast]; kernel_rfl) (by decide +kernel) (by decide +kernel) (by decide +kernel)
    (.inl (by rw [find?_eq_fast]; decide +kernel)) (by rw [isSubtype_type]; kernel_rfl)
theorem mdd_set : typeLookup (.type "method_descriptor") "__set__" = pure none := by rw [typeLookup_type, builtinLookup_eq_fast]; kernel_rfl
theorem mdd_del : typeLookup (.type "method_descriptor") "__delete__" = pure none := by rw [typeLookup_type, builtinLookup_eq_fast]; kernel_rfl
theorem entry_mdd_get : entryFor table "method_descriptor.__get__" = some Builtin.«method_descriptor.__get__» := entryFor_of_tree (by kernel_rfl)
theorem args_mdd_get (a b c : Value) : argsOk "method_descriptor.__get__" ⟨[a, b, c], []⟩ := by unfold argsOk; kernel_rfl
theorem owner_append : (".".intercalate ("list.append".cutAt '.').dropLast) = "list" := by
  have e0 : "list.append".cutAt '.' = ["list", "append"] := by first | rfl | decide +kernel
  rw [e0]; decide +kernel
theorem sub_append_owner : isSubtype (.type "list") (.type (".".intercalate ("list.append".cutAt '.').dropLast)) = pure true := by
  rw [owner_append, isSubtype_type]; kernel_rfl
theorem told_append : Manifest.toldItsClass.contains "list.append" = false := by decide +kernel
/-- a list's own append, kept -/
noncomputable abbrev boundObj (l : Addr) : Obj := { cls := .type "builtin_function_or_method", data := .fields #[.builtin "list.append", .ref l] }
section
variable {prog : Program} {w : World} {A : Around} {E : Value → Shared → Prop} {h : Heap} {g : Array GenState} {d : Drawn} {t : Nat} {os : OsState} {a : Addr} {o : Obj} {vs : Array Value} {v : Value}
theorem bind_get {R : Result → Shared → Prop} (hx : h.get? a = some o) (hc : o.cls = .type "list") (hq : R (.ok (.ret (.ref h.objs.size))) ⟨h.push (boundObj a), g, d, t, os⟩) :
    codeAny (model prog w) A (.call (.builtin "method_descriptor.__get__") ⟨[.builtin "list.append", .ref a, .type "list"], []⟩) R ⟨h, g, d, t, os⟩ := by
  have hT : (⟨h, g, d, t, os⟩ : Shared).TypeIs (.ref a) "list" := ⟨_, hx, hc⟩
  have hT5 : (⟨h, g, d, t, os⟩ : Shared).TypeIs (.builtin "list.append") "method_descriptor" := ty_append
  have f8 := sub_append_owner
  refine codeAny_call_builtin slot_mdd_get.plain entry_mdd_get (slot_mdd_get.check _ _ _ _ _ _ _ _ hT5 (args_mdd_get _ _ _) ?_)
  unfold Builtin.«method_descriptor.__get__»
  repeat (any_goals (first | assumption | wp_step))
theorem bind_entry {its : Array Value} {n : Nat} {tk : Tok} {Q : Fin → Shared → Prop} (hx : h.get? a = some (listOf its n)) (hq : Q (.done (.ret (.ref h.objs.size))) ⟨h.push (boundObj a), g, d, t, os⟩) :
    wpAny (model prog w) A (Builtin.«object.__getattribute__» ⟨[.ref a, .str "append" tk], []⟩) Q E ⟨h, g, d, t, os⟩ := by
  have hT : (⟨h, g, d, t, os⟩ : Shared).TypeIs (.ref a) "list" := ⟨_, hx, rfl⟩
  have hT5 : (⟨h, g, d, t, os⟩ : Shared).TypeIs (.builtin "list.append") "method_descriptor" := ty_append
  have f4 := list_append_is
  have f5 := ty_append
  have f6 := slot_mdd_get.lookup
  have f7 := mdd_set
  have f8 := mdd_del
  have hc : (PySem.W.listOf its n).cls = .type "list" := rfl
  repeat (any_goals (first | assumption | (refine bind_get hx hc ?_) | wp_step))
theorem append_attr {its : Array Value} {n : Nat} {Q : Value → Shared → Prop} {b : Bool} (hx : h.get? a = some (listOf its n)) (hq : Q (.ref h.objs.size) ⟨h.push (boundObj a), g, d, t + 1, os⟩) :
    wpAny (model prog w) A (getAttr (.ref a) "append" b) Q E ⟨h, g, d, t, os⟩ := by
  have hT : (⟨h, g, d, t + 1, os⟩ : Shared).TypeIs (.ref a) "list" := ⟨_, hx, rfl⟩
  have f2 := F.slot_list_getattribute.lookup
  have f3 := F.slot_list_getattribute.bind (.ref a)
  unfold getAttr
  refine wpAny_bind (wpAny_mkText ?_)
  unfold getAttrBy
  refine wpAny_holding ?_
  refine wpAny_bind (wpAny_typeOf hT ?_)
  refine wpAny_bind (wpAny_of_eq f2 ?_)
  show wpAny _ _ (getAttrByItsOwn (.ref a) (.str "append" t) (.type "list") (.builtin "list.__getattribute__") true b) _ _ _
  unfold getAttrByItsOwn
  refine wpAny_bind (m := hookBefore (.type "list")) (wpAny_pure ?_)
  refine wpAny_bind (wpAny_attempt (wpAny_holding ?_))
  have ec : callGetattribute (.ref a) (.str "append" t) (.builtin "list.__getattribute__") b = boundAndCalled (.builtin "list.__getattribute__") (.ref a) (.str "append" t) := by
    unfold callGetattribute; cases b <;> rfl
  rw [ec]
  unfold boundAndCalled
  refine wpAny_bind (wpAny_of_eq f3 ?_)
  refine wpAny_call ?_
  refine codeAny_call_builtin F.slot_list_getattribute.plain am_entry_list_getattribute (F.slot_list_getattribute.check _ _ _ _ _ _ _ _ hT (F.args_list_getattribute_2 _ _) ?_)
  refine bind_entry hx ?_
  show wpAny _ _ (handedOut (.ref h.objs.size)) _ _ _
  exact handed_on rfl hq
end
end Mine
end
section
namespace Mine
open PySem PySem.Spec PySem.Calls PyProof.Rows PySem.W
theorem sub_list_module : isSubtype (.type "list") (.type "module") = pure false := by rw [isSubtype_type]; kernel_rfl
theorem sig_append : ∃ sg, Manifest.signature? "list.append" = some sg ∧ ∀ (a x : Value), Bind.checkArgs "list.append" { sg with full := toString (Bind.lastOf "list") ++ toString "." ++ toString (Bind.lastOf "list.append") } ⟨[a, x], []⟩ = pure () := by
  refine ⟨_, by first | rfl | kernel_rfl, fun a x => ?_⟩
  first | rfl | kernel_rfl
theorem kind_append : builtinKind "list.append" = some .method := by decide +kernel
theorem vararg_append : Manifest.varargsMethods.contains "list.append" = false := by decide +kernel
section
variable {prog : Program} {w : World} {A : Around} {E : Value → Shared → Prop} {s : Shared} {q l : Addr}
theorem check_bound {its : Array Value} {n : Nat} {x : Value} {Q : Unit → Shared → Prop} (hl : s.heap.get? l = some (listOf its n)) (h : Q () s) : wpAny (model prog w) A (checkBoundCall "list.append" ⟨[.ref l, x], []⟩) Q E s := by
  obtain ⟨sg, e1, e2⟩ := sig_append
  have hT : s.TypeIs (.ref l) "list" := ⟨_, hl, rfl⟩
  unfold checkBoundCall
  rw [e1]
  simp only [kind_append]
  refine wpAny_bind ?_
  unfold isInstance
  refine wpAny_bind (wpAny_typeOf hT ?_)
  refine wpAny_of_eq sub_list_module ?_
  simp only [vararg_append, Bool.or_false, Bool.false_eq_true, if_false]
  refine wpAny_bind (m := isType (.ref l)) ?_
  have hb : wpAny (model prog w) A (isType (.ref l)) (fun b s' => b = false ∧ s' = s) E s := by
    unfold isType
    obtain ⟨hp, g, d, tk, os⟩ := s
    repeat (any_goals (first | assumption | wp_step))
    all_goals exact ⟨rfl, rfl⟩
  refine wpAny_mono hb (fun b s' hh => ?_) fun _ _ z => z
  obtain ⟨rfl, rfl⟩ := hh
  simp only [Bool.false_eq_true, if_false]
  refine wpAny_bind (wpAny_typeOf hT ?_)
  simp only
  exact wpAny_of_eq (e2 _ _) h
theorem call_bound {its : Array Value} {n : Nat} {x : Value} {Q : Value → Shared → Prop} (ho : s.heap.get? q = some (boundObj l)) (hl : s.heap.get? l = some (listOf its n)) (hsz : its.size ≤ sizeLine)
    (h : ∀ h', Heap.SameBut l s.heap h' → h'.get? l = some (listOf (its.push x) (n + 1)) → Q .none { s with heap := h' }) : wpAny (model prog w) A (call (.ref q) [x]) Q E s := by
  refine wpAny_call (codeAny_of_tree ?_)
  show wpAny _ A.in1 (callAny (.ref q) ⟨[x], []⟩) _ _ s
  simp only [callAny]
  refine wpAny_bind (wpAny_load ho ?_)
  simp only [show (Value.type "builtin_function_or_method" == Value.type "method" || Value.type "builtin_function_or_method" == Value.type "builtin_function_or_method" || Value.type "builtin_function_or_method" == Value.type "method-wrapper") = true by decide, if_true]
  refine KFB.if_so (by decide) ?_
  refine wpAny_bind (check_bound hl ?_)
  refine wpAny_bind (wpAny_pure (wpAny_pure ?_))
  refine ⟨Code.quiet_builtin _ (by decide +kernel), codeAny_builtin entry_list_append ?_⟩
  show wpAny _ _ (updateSeq l (·.push x) >>= fun _ => ret .none) _ _ s
  refine wpAny_bind ?_
  refine wpAny_updateSeq hl rfl (wpAny_pure (h _ (Heap.SameBut.update ..) ?_))
  rw [Heap.get?_update_self _ hl (by rw [mapSeq_push]; rfl), mapSeq_push]
end
section
variable {prog : Program} {w : World} {A : Around} {E : Value → Shared → Prop} {s : Shared} {q l : Addr} {h₀ : Heap} {L : Addr} {m : Str → Option Value} {news : List (Addr × Obj)}
noncomputable def StandsB (q l : Addr) (h : Heap) : Prop := h.get? q = some (boundObj l)
theorem callWith_fieldsB {M : Model} {pos : Pos} {u : Addr} {first : List Value} {args : List (Bool × Sem Value)} {Q : Value → Shared → Prop} (hplain : args.any (·.1) = false)
    (h : wpAny M A (evalArgs (.ref u) true args []) (fun x s₁ => StandsB u l s₁.heap ∧ wpAny M A (call (.ref u) (first ++ x.pos) x.kw) Q E s₁) E s) : wpAny M A (callWith pos (.ref u) first args []) Q E s := by
  unfold callWith
  refine wpAny_bind (wpAny_holding (wpAny_mono h (fun x s₁ h₁ => wpAny_bind (wpAny_standAt ?_)) fun _ _ x => x))
  obtain ⟨ho, hcall⟩ := h₁
  simp only [hplain, List.any_nil, Bool.or_false]
  refine wpAny_bind (m := keeperOf (.ref u)) ?_
  unfold keeperOf
  refine wpAny_bind (wpAny_load ho ?_)
  simp only [show (Value.type "builtin_function_or_method" != Value.type "method") = true by decide, show (Value.type "builtin_function_or_method" == Value.type "builtin_function_or_method" || Value.type "builtin_function_or_method" == Value.type "method-wrapper") = true by decide, if_true]
  refine wpAny_pure ?_
  exact wpAny_bind (wpAny_mono hcall (fun r s₂ hr => wpAny_bind (wpAny_holding (wpAny_point (wpAny_pure hr)))) fun _ _ x => x)
theorem callWith_boundB {M : Model} {pos : Pos} {u : Addr} {first : List Value} {env : Env} {e : Expr} {rest : List Expr} {Q : Value → Shared → Prop} (_N : News h₀ L s.heap news) (_hm : (u, boundObj l) ∈ news)
    (h : wpAny M A (spliced (backTo pos (starEach (e :: rest) env))) (fun vs s₁ => StandsB u l s₁.heap ∧ wpAny M A (call (.ref u) (first ++ vs)) Q E s₁) E s)
    (he : starEach (e :: rest) env = (false, eval e env) :: starEach rest env := by rfl) (hplain : (backTo pos (starEach rest env)).any (·.1) = false := by rfl) :
    wpAny M A (callWith pos (.ref u) first (backTo pos (starEach (e :: rest) env)) []) Q E s := by
  rw [he] at h ⊢
  refine callWith_fieldsB (l := l) (by show (false || (backTo pos (starEach rest env)).any (·.1)) = false; rw [hplain]; rfl) ?_
  exact evalArgs_plain h
theorem append_bind {its : Array Value} {n : Nat} {Q : Value → Shared → Prop} {b : Bool} (F : Fr h₀ L s.heap m) (N : News h₀ L s.heap news) (hx : s.heap.get? l = some (listOf its n))
    (h : ∀ q h' tk, Fr h₀ L h' m → News h₀ L h' ((q, boundObj l) :: news) → (∀ p ∈ news, p.1 < q) → Q (.ref q) { s with heap := h', toks := tk }) :
    wpAny (model prog w) A (getAttr (.ref l) "append" b) Q E s := by
  obtain ⟨hp, g, d, tk, os⟩ := s
  exact append_attr hx (h _ _ _ (F.push _) (N.push F _) fun p hp => Heap.lt_size (N p hp).1)
theorem call_append_hd {D : Addr} {its : Array Value} {n : Nat} {x : Value} {rest : List (Addr × Obj)} {Q : Value → Shared → Prop} (F : Fr h₀ L s.heap m) (N : News h₀ L s.heap ((D, listOf its n) :: rest)) (hq : (q, boundObj D) ∈ rest) (hne : ∀ p ∈ rest, p.1 ≠ D) (hsz : its.size ≤ 100000)
    (h : ∀ h', Fr h₀ L h' m → News h₀ L h' ((D, listOf (its.push x) (n + 1)) :: rest) → Q .none { s with heap := h' }) : wpAny (model prog w) A (call (.ref q) [x]) Q E s := by
  have z := N (D, listOf its n) (.head _)
  exact call_bound (N _ (.tail _ hq)).1 z.1 (Nat.le_trans hsz (by decide)) fun h' hs ho' => h h' (F.change hs z.2.1 z.2.2) (news_set (pre := []) N (fun _ hp => nomatch hp) hne hs ho')
end
end Mine
end
section
namespace Mine
open PySem PySem.Spec PySem.Calls PyProof.Rows PySem.W
/-- a comprehension's element is there -/
noncomputable def ElEnd (h₀ : Heap) (L : Addr) (m : Str → Option Value) (s : Shared) (I : Addr) (oI : Obj) (C : Addr) (oC : Obj) (D : Addr) (oD : Obj) (news : List (Addr × Obj)) (G : Value → List (Addr × Obj) → Prop) (y : Value) (s₂ : Shared) : Prop :=
  ∃ (h' : Heap) (tk : Nat) (l : List (Addr × Obj)), s₂ = { s with heap := h', toks := tk } ∧ Fr h₀ L h' m ∧ News h₀ L h' (l ++ ((I, oI) :: (C, oC) :: (D, oD) :: news)) ∧ (∀ p ∈ l, p.1 ≠ I ∧ p.1 ≠ C ∧ p.1 ≠ D) ∧ G y l
/-- what stands behind it -/
noncomputable def CompJ (news₀ : List (Addr × Obj)) (G : Nat → Value → List (Addr × Obj) → Prop) (i : Nat) (ys : List Value) (news : List (Addr × Obj)) : Prop :=
  ys.length = i ∧ (∀ p ∈ news₀, p ∈ news) ∧ ∀ j y, ys[j]? = some y → ∃ l, (∀ p ∈ l, p ∈ news) ∧ G j y l
section
variable {prog : Program} {w : World} {A : Around} {s : Shared} {h₀ : Heap} {L : Addr} {m : Str → Option Value} {env : Env}
noncomputable def CompTurn (prog : Program) (w : World) (A : Around) (h₀ : Heap) (L : Addr) (m : Str → Option Value) (env : Env) (elt : Expr) (x : Str) (scope : Scope) (cl : List (Str × Addr)) (s : Shared) (its : Array Value) (news₀ : List (Addr × Obj)) (G : Nat → Value → List (Addr × Obj) → Prop) : Prop :=
  ∀ i v I oI C oC D ys m₂ h tk news (E' : Value → Shared → Prop), its[i]? = some v → LCg.NsObj oC m₂ → m₂ x = some v → Fr h₀ L h m → News h₀ L h ((I, oI) :: (C, oC) :: (D, LCg.lst ys) :: news) → (∀ p ∈ news₀, p ∈ news) →
    wpAny (model prog w) A (eval elt (compEnvC scope cl C env)) (ElEnd h₀ L m { s with heap := h, toks := tk } I oI C oC D (LCg.lst ys) news (G i)) E' { s with heap := h, toks := tk }
theorem comp_rest {elt : Expr} {x : Str} {scope : Scope} {cl : List (Str × Addr)} {ax : Addr} {its : Array Value} {news₀ : List (Addr × Obj)} {G : Nat → Value → List (Addr × Obj) → Prop} {Fin : List Value → List (Addr × Obj) → Prop}
    (hS : LCg.SrcAt h₀ ax its news₀) (turn : CompTurn prog w A h₀ L m env elt x scope cl s its news₀ G) (fin : ∀ ys news, CompJ news₀ G its.size ys news → Fin ys news) :
    ∀ k i ys news, k + i = its.size → CompJ news₀ G i ys news → LCg.CompRest prog w A h₀ L m env elt x scope cl s (LCg.SrcAt h₀ ax its) (fun i v => its[i]? = some v) Fin k i ys news
  | 0, i, ys, news, hk, hJ => LCg.CompRest.zero (fin ys news (by rw [← hk, Nat.zero_add]; exact hJ))
  | k + 1, i, ys, news, hk, hJ => by
    refine LCg.CompRest.succ fun v I oI C oC D m₂ h tk E' hP hNs hx F N off ne => ?_
    refine wpAny_mono (turn i v I oI C oC D ys m₂ h tk news E' hP hNs hx F N hJ.2.1) (fun y s₂ he => ?_) fun _ _ e => e
    obtain ⟨h', tk', l, rfl, F', N', hl, hG⟩ := he
    have hoff := off.mem
    refine LCg.CompEnd.intro F' N' (l ++ news) (fun p hp => ?_) (LCg.Off3.of fun p hp => ?_) ?_ ?_
    · rcases List.mem_cons.mp hp with rfl | hp
      · exact List.mem_append_right _ (.head _)
      · rcases List.mem_cons.mp hp with rfl | hp
        · exact List.mem_append_right _ (.tail _ (.head _))
        · rcases List.mem_cons.mp hp with rfl | hp
          · exact List.mem_append_right _ (.tail _ (.tail _ (.head _)))
          · rcases List.mem_append.mp hp with hp | hp
            · exact List.mem_append_left _ hp
            · exact List.mem_append_right _ (.tail _ (.tail _ (.tail _ hp)))
    · rcases List.mem_append.mp hp with hp | hp
      · exact hl p hp
      · exact hoff p hp
    · rcases hS with h | ⟨o, hm, r⟩
      · exact .inl h
      · exact .inr ⟨o, List.mem_append_right _ (hJ.2.1 _ hm), r⟩
    · refine comp_rest hS turn fin k (i + 1) (ys ++ [y]) (l ++ news) (by omega) ⟨by rw [List.length_append, hJ.1]; rfl, fun p hp => List.mem_append_right _ (hJ.2.1 p hp), fun j z hz => ?_⟩
      by_cases hj : j < ys.length
      · rw [List.getElem?_append_left hj] at hz
        obtain ⟨l', h1, h2⟩ := hJ.2.2 j z hz
        exact ⟨l', fun p hp => List.mem_append_right _ (h1 p hp), h2⟩
      · rw [List.getElem?_append_right (by omega)] at hz
        have hj0 : j - ys.length = 0 := by
          cases e : j - ys.length with
          | zero => rfl
          | succ n => rw [e] at hz; simp at hz
        rw [hj0] at hz
        have hji : j = i := by have := hJ.1; omega
        subst hji
        have : z = y := by simpa using hz.symm
        subst this
        exact ⟨l, fun p hp => List.mem_append_left _ hp, hG⟩
theorem comp_src {elt : Expr} {x : Str} {scope : Scope} {cl : List (Str × Addr)} {ax : Addr} {its : Array Value} {k : Nat} {news : List (Addr × Obj)} (G : Nat → Value → List (Addr × Obj) → Prop) {Fin : Shared → List Value → List (Addr × Obj) → Prop} {s₁ : Shared}
    (hh : A.handled = none) (F : Fr h₀ L s₁.heap m) (N : News h₀ L s₁.heap news) (hm : (ax, PySem.W.listOf its k) ∈ news) (hsz : its.size ≤ 1000)
    (turn : ∀ g, CompTurn prog w A h₀ L m env elt x scope cl { s₁ with heap := g } its news G) (fin : ∀ g ys news', CompJ news G its.size ys news' → Fin { s₁ with heap := g } ys news') :
    LCg.CompSrc prog w A h₀ L m env elt x scope cl Fin (.ref ax) s₁ :=
  LCg.CompSrc.ledger hh F N hm (Nat.le_trans hsz (by decide)) fun g => comp_rest (.inr ⟨_, hm, rfl, _, rfl⟩) (turn g) (fin g) its.size 0 [] news rfl ⟨rfl, fun _ h => h, fun j y h => by simp at h⟩
end
end Mine
end
section
open PySem PySem.Spec PySem.Calls PySem.W PyProof.Rows
namespace Mine
local macro_rules | `(tactic| walk_at $s:str) => `(tactic| k_extra $s)
theorem unmatched_ (w : World) (p : Program) (loose : List Str) (mean : ExcName → Option Value) (mg mb : Str → Option Value) (dp un : Nat) (fr : Option (List Env)) (gd : Option (List Code)) (s : Shared) (R : Result → Shared → Prop)
    (a tp P : Addr) (l : List Nat) (t : Tok) (lim : Nat) (li : Int) (e b1 e1 : Nat) (X : (hK w.params).In s.heap) (T : Top p loose mean mg mb s.heap)
    (hd : dp + 5 < recursionLimit) (hu : un + 100 < cLine) (hx : l.length ≤ 1000) (he : e ≤ l.length)
    (hm : s.heap.get? a = some (matchO (S l) t P lim li tp)) (ht : s.heap.get? tp = some (spansO [0, e, b1, e1]))
    (hret : ∀ k h' tk', Stays s.heap h' → R (.ok (.ret (.str (S (l.drop e)) k))) { s with heap := h', toks := tk' }) :
    codeAny (model PySem.Challenge.rw_qu0048_01.prog w) { handled := none, depth := dp, frames := fr, guards := gd, units := un } (.call (.ref 94) ⟨[.ref a], []⟩) R s := by
  k_with_none
  k_with "getMethod ref" => (k_here; refine span_method (by first | assumption | exact Fr.keep ‹_› _ _ ‹_›) ?_)
  k_with "call builtin:re.Match.span" => (k_here; refine span_zero (by k_asm) (by k_asm) (by first | assumption | exact Fr.keep ‹_› _ _ ‹_›) (by first | assumption | exact Fr.keep ‹_› _ _ ‹_›) ?_; intro r' k1' k2' h' tk' F' N' l1; (try k_lt l1); (try k_sweep))
  k_with "getAttr ref" => (k_here; refine string_attr (by first | assumption | exact Fr.keep ‹_› _ _ ‹_›) rfl rfl rfl ?_)
  revert X
  k_fill
  intro X
  refine enter (K := hK w.params) (binds := [(Str.ofString "match", .ref a)]) X T.nolimit (by k_is) (by k_is) (by show dp < _; omega) (BindsTo.of_eq rfl) (locs rfl) ?_ rfl rfl rfl (by decide)
  intro L' h₁ F N
  have X' := X
  have hlen : (S l).length ≤ 1000 := by rw [S_len]; exact hx
  k_steps
  all_goals dsimp only
  rw [slice_to (Int.le_refl 0) (by omega), slice_from (by omega) (by omega), S_append]
  exact hret _ _ _ (Fr.keep (by assumption))
theorem unmatched_call {w : World} {p : Program} {loose : List Str} {mean : ExcName → Option Value} {mg mb : Str → Option Value} {A : Around} {s : Shared} {Q : Value → Shared → Prop} {E : Value → Shared → Prop}
    {h₀ : Heap} {L : Addr} {m : Str → Option Value} {news : List (Addr × Obj)} {a tp P : Addr} {l : List Nat} {t : Tok} {lim : Nat} {li : Int} {e b1 e1 : Nat} (X : (hK w.params).In h₀) (T : Top p loose mean mg mb h₀) (F : Fr h₀ L s.heap m) (N : News h₀ L s.heap news) (hh : A.handled = none)
    (hd : A.depth + 5 < recursionLimit) (hu : A.units + 100 < cLine) (hm : s.heap.get? a = some (matchO (S l) t P lim li tp)) (ht : s.heap.get? tp = some (spansO [0, e, b1, e1])) (hx : (S l).length ≤ 1000) (he : e ≤ l.length)
    (h : ∀ k h' tk', Fr h₀ L h' m → News h₀ L h' news → Q (.str (S (l.drop e)) k) { s with heap := h', toks := tk' }) :
    wpAny (model PySem.Challenge.rw_qu0048_01.prog w) A (call (.ref 94) [.ref a]) Q E s := by
  obtain ⟨hn, dp, fr, gd, un⟩ := A
  cases hh
  exact wpAny_call (unmatched_ w p loose mean mg mb dp un fr gd s _ a tp P l t lim li e b1 e1 (X.keeps F.keep) (T.keeps F.keep) hd hu (by rw [← S_len]; exact hx) he hm ht fun k h' tk' st => h k h' tk' (fr_stays F st) (news_stays N st))
end Mine
end
section
open PySem PySem.Spec PySem.Calls PySem.W PyProof.Rows
namespace Mine
local macro_rules | `(tactic| walk_at $s:str) => `(tactic| k_extra $s)
theorem unquote_ (w : World) (p : Program) (loose : List Str) (mean : ExcName → Option Value) (mg mb : Str → Option Value) (dp un : Nat) (fr : Option (List Env)) (gd : Option (List Code)) (s : Shared) (R : Result → Shared → Prop)
    (c : Nat) (t : Tok) (X : (hK w.params).In s.heap) (T : Top p loose mean mg mb s.heap)
    (hd : dp + 5 < recursionLimit) (hc : c < 256)
    (hret : ∀ k h' tk', Stays s.heap h' → R (.ok (.ret (.str (S [c]) k))) { s with heap := h', toks := tk' }) :
    codeAny (model PySem.Challenge.rw_qu0048_01.prog w) { handled := none, depth := dp, frames := fr, guards := gd, units := un } (.call (.ref 54) ⟨[.str (S [61, hexU (c / 16), hexU (c % 16)]) t], []⟩) R s := by
  k_with_none
  k_with "call type:int" => (k_here; (try rw [slice_mid (by decide) (by decide) (by show (3 : Int) ≤ 3; decide)]); refine int_16 ‹_› ?_)
  revert X
  k_fill
  intro X
  refine enter (K := hK w.params) (binds := [(Str.ofString "s", .str (S [61, hexU (c / 16), hexU (c % 16)]) t)]) X T.nolimit (by k_is) (by k_is) (by show dp < _; omega) (BindsTo.of_eq rfl) (locs rfl) ?_ rfl rfl rfl (by decide)
  intro L' h₁ F N
  have X' := X
  have hlen : (S [61, hexU (c / 16), hexU (c % 16)]).length ≤ 1000 := by rw [S_len]; show (3 : Nat) ≤ 1000; decide
  k_steps
  exact hret _ _ _ (Fr.keep (by assumption))
end Mine
end
section
open PySem PySem.Spec PySem.Calls PySem.W PyProof.Rows
namespace Mine
theorem reads_pair {h : Heap} {a b c : Addr} {n1 n2 n3 : Nat} {n v : Str} {k k' : Tok} (ha : h.get? a = some (listOf #[.ref b] n1)) (hb : h.get? b = some (listOf #[.ref c] n2)) (hc : h.get? c = some { cls := .type "tuple", data := .seq #[.str n k, .str v k'] n3 }) :
    Reads h (.ref a) (.list [.list [.tuple [.str n, .str v]]]) [a, b] :=
  .list ha rfl rfl (.cons (.list hb rfl rfl (.cons (.tuple hc rfl rfl (.cons (.str _ _) (.cons (.str _ _) .nil))) .nil)) .nil)
theorem reads_none {h : Heap} {a b c : Addr} {n1 n2 n3 : Nat} {n : Str} {k : Tok} (ha : h.get? a = some (listOf #[.ref b] n1)) (hb : h.get? b = some (listOf #[.ref c] n2)) (hc : h.get? c = some { cls := .type "tuple", data := .seq #[.str n k, .none] n3 }) :
    Reads h (.ref a) (.list [.list [.tuple [.str n, .none]]]) [a, b] :=
  .list ha rfl rfl (.cons (.list hb rfl rfl (.cons (.tuple hc rfl rfl (.cons (.str _ _) (.cons .none .nil))) .nil)) .nil)
/-- an object that was made -/
noncomputable def NewAt (h₀ h : Heap) (a : Addr) (o : Obj) : Prop := h.get? a = some o ∧ h₀.get? a = none
theorem newAt {h₀ h : Heap} {L a : Addr} {o : Obj} {news : List (Addr × Obj)} (N : News h₀ L h news) (hm : (a, o) ∈ news) : NewAt h₀ h a o := ⟨(N _ hm).1, (N _ hm).2.2⟩
/-- a value whose objects were all made since -/
noncomputable def Made (h₀ h : Heap) (v : Value) (d : PyData) : Prop := ∃ l : List (Addr × Obj), (∀ p ∈ l, NewAt h₀ h p.1 p.2) ∧ ∀ h', (∀ p ∈ l, h'.get? p.1 = some p.2) → ∃ as, Reads h' v d as
theorem made_nil {h₀ h : Heap} {a : Addr} {n : Nat} (ha : NewAt h₀ h a (listOf #[] n)) : Made h₀ h (.ref a) (.list []) :=
  ⟨[(a, listOf #[] n)], fun p hp => (List.mem_singleton.mp hp) ▸ ha, fun h' hk => ⟨_, .list (hk _ (.head _)) rfl rfl .nil⟩⟩
theorem made_pair {h₀ h : Heap} {a b c : Addr} {n1 n2 n3 : Nat} {n v : List Nat} {k k' : Tok} (ha : NewAt h₀ h a (listOf #[.ref b] n1)) (hb : NewAt h₀ h b (listOf #[.ref c] n2)) (hc : NewAt h₀ h c { cls := .type "tuple", data := .seq #[.str (S n) k, .str (S v) k'] n3 }) :
    Made h₀ h (.ref a) (pairD n (some v)) := by
  refine ⟨[(a, listOf #[.ref b] n1), (b, listOf #[.ref c] n2), (c, { cls := .type "tuple", data := .seq #[.str (S n) k, .str (S v) k'] n3 })], fun p hp => ?_, fun h' hk => ⟨_, reads_pair (hk _ (.head _)) (hk _ (.tail _ (.head _))) (hk _ (.tail _ (.tail _ (.head _))))⟩⟩
  rcases List.mem_cons.mp hp with rfl | hp
  · exact ha
  · rcases List.mem_cons.mp hp with rfl | hp
    · exact hb
    · exact (List.mem_singleton.mp hp) ▸ hc
theorem made_none {h₀ h : Heap} {a b c : Addr} {n1 n2 n3 : Nat} {n : List Nat} {k : Tok} (ha : NewAt h₀ h a (listOf #[.ref b] n1)) (hb : NewAt h₀ h b (listOf #[.ref c] n2)) (hc : NewAt h₀ h c { cls := .type "tuple", data := .seq #[.str (S n) k, .none] n3 }) :
    Made h₀ h (.ref a) (pairD n none) := by
  refine ⟨[(a, listOf #[.ref b] n1), (b, listOf #[.ref c] n2), (c, { cls := .type "tuple", data := .seq #[.str (S n) k, .none] n3 })], fun p hp => ?_, fun h' hk => ⟨_, reads_none (hk _ (.head _)) (hk _ (.tail _ (.head _))) (hk _ (.tail _ (.tail _ (.head _))))⟩⟩
  rcases List.mem_cons.mp hp with rfl | hp
  · exact ha
  · rcases List.mem_cons.mp hp with rfl | hp
    · exact hb
    · exact (List.mem_singleton.mp hp) ▸ hc
theorem reading_ (w : World) (p : Program) (loose : List Str) (mean : ExcName → Option Value) (mg mb : Str → Option Value) (dp un : Nat) (fr : Option (List Env)) (gd : Option (List Code)) (s : Shared) (R : Result → Shared → Prop)
    (r : List Nat) (t : Tok) (X : (hK w.params).In s.heap) (T : Top p loose mean mg mb s.heap)
    (hd : dp + 5 < recursionLimit) (hr : r.length ≤ 1000)
    (hret : ∀ v h' tk', Stays s.heap h' → Made s.heap h' v (rdData r) → R (.ok (.ret v)) { s with heap := h', toks := tk' }) :
    codeAny (model PySem.Challenge.rw_qu0048_01.prog w) { handled := none, depth := dp, frames := fr, guards := gd, units := un } (.call (.ref 142) ⟨[.str (S r) t], []⟩) R s := by
  revert X
  k_fill
  intro X
  refine enter (K := hK w.params) (binds := [(Str.ofString "row", .str (S r) t)]) X T.nolimit (by k_is) (by k_is) (by show dp < _; omega) (BindsTo.of_eq rfl) (locs rfl) ?_ rfl rfl rfl (by decide)
  intro L' h₁ F N
  have X' := X
  have hlen : (S r).length ≤ 1000 := by rw [S_len]; exact hr
  by_cases h0 : r = []
  · have h1 : (S r == Str.ofString "") = true := by rw [S_nil, S_beq]; simp [h0]
    k_steps
    rename News _ _ _ _ => N'
    refine hret _ _ _ (Fr.keep (by assumption)) ?_
    · rw [rdData, if_pos h0]
      exact made_nil (newAt N' (.head _))
  · have h1 : (S r == Str.ofString "") = false := by rw [S_nil, S_beq]; simp [h0]
    have hdat : rdData r = pairD (readName r) (readVal r) := by rw [rdData, if_neg h0]
    rw [hdat] at hret
    obtain ⟨c, t', hrc⟩ := List.exists_cons_of_ne_nil h0
    have hpos : 1 ≤ (S r).length := by rw [S_len, hrc]; simp
    have hit : Txt.item (S r) 0 = S [c] := item_at (Int.le_refl 0) (by rw [hrc]; rfl)
    by_cases hc : c = 61
    · have h2 : (Txt.item (S r) 0 == Str.ofString "=") = true := by rw [hit, S_eq, S_beq]; simp [hc]
      have hsl : Txt.slice (S r) (some 1) none = S t' := by rw [hrc, slice_from (by decide) (by simp; omega)]; rfl
      have hb : bareOf r = t' := by rw [hrc, hc]; simp [bareOf]
      by_cases hm : 61 ∈ t'
      · have h3 : (Builtin.Str.occurrences (Txt.slice (S r) (some 1) none) (Str.ofString "=") 0 (Txt.slice (S r) (some 1) none).length 1).isEmpty = false := by rw [hsl, S_eq, occ_none_iff]; simp [hm]
        have h4 : Txt.find (Txt.slice (S r) (some 1) none) (Str.ofString "=") = ((t'.takeWhile (· != 61)).length : Int) := by rw [hsl, S_eq, find_at hm]
        have h5 := take_len hm
        k_steps
        rename News _ _ _ _ => N'
        rw [h4, hsl, slice_to (by omega) (by omega), slice_from (by omega) (by omega)] at N'
        refine hret _ _ _ (Fr.keep (by assumption)) ?_
        · have e1 : readName r = t'.take ((t'.takeWhile (· != 61)).length : Int).toNat := by rw [readName, hb, Int.toNat_natCast, h5.1]
          have e2 : readVal r = some (t'.drop (((t'.takeWhile (· != 61)).length : Int) + 1).toNat) := by rw [readVal, hb, h5.2.1]; rfl
          rw [e1, e2]
          exact made_pair (newAt N' (.head _)) (newAt N' (.tail _ (.head _))) (newAt N' (.tail _ (.tail _ (.head _))))
      · have h3 : (Builtin.Str.occurrences (Txt.slice (S r) (some 1) none) (Str.ofString "=") 0 (Txt.slice (S r) (some 1) none).length 1).isEmpty = true := by rw [hsl, S_eq, occ_none_iff]; simp [hm]
        k_steps
        rename News _ _ _ _ => N'
        rw [hsl] at N'
        refine hret _ _ _ (Fr.keep (by assumption)) ?_
        · have e1 : readName r = t' := by rw [readName, hb, (take_free hm).1]
          have e2 : readVal r = none := by rw [readVal, hb, (take_free hm).2]
          rw [e1, e2]
          exact made_none (newAt N' (.head _)) (newAt N' (.tail _ (.head _))) (newAt N' (.tail _ (.tail _ (.head _))))
    · have h2 : (Txt.item (S r) 0 == Str.ofString "=") = false := by rw [hit, S_eq, S_beq]; simp [hc]
      have hb : bareOf r = r := by rw [hrc]; simp [bareOf, hc]
      by_cases hm : 61 ∈ r
      · have h3 : (Builtin.Str.occurrences (S r) (Str.ofString "=") 0 (S r).length 1).isEmpty = false := by rw [S_eq, occ_none_iff]; simp [hm]
        have h4 : Txt.find (S r) (Str.ofString "=") = ((r.takeWhile (· != 61)).length : Int) := by rw [S_eq, find_at hm]
        have h5 := take_len hm
        k_steps
        rename News _ _ _ _ => N'
        rw [h4, slice_to (by omega) (by omega), slice_from (by omega) (by omega)] at N'
        refine hret _ _ _ (Fr.keep (by assumption)) ?_
        · have e1 : readName r = r.take ((r.takeWhile (· != 61)).length : Int).toNat := by rw [readName, hb, Int.toNat_natCast, h5.1]
          have e2 : readVal r = some (r.drop (((r.takeWhile (· != 61)).length : Int) + 1).toNat) := by rw [readVal, hb, h5.2.1]; rfl
          rw [e1, e2]
          exact made_pair (newAt N' (.head _)) (newAt N' (.tail _ (.head _))) (newAt N' (.tail _ (.tail _ (.head _))))
      · have h3 : (Builtin.Str.occurrences (S r) (Str.ofString "=") 0 (S r).length 1).isEmpty = true := by rw [S_eq, occ_none_iff]; simp [hm]
        k_steps
        rename News _ _ _ _ => N'
        refine hret _ _ _ (Fr.keep (by assumption)) ?_
        · have e1 : readName r = r := by rw [readName, hb, (take_free hm).1]
          have e2 : readVal r = none := by rw [readVal, hb, (take_free hm).2]
          rw [e1, e2]
          exact made_none (newAt N' (.head _)) (newAt N' (.tail _ (.head _))) (newAt N' (.tail _ (.tail _ (.head _))))
end Mine
end
section
open PySem PySem.Spec PySem.Calls PySem.W PyProof.Rows PySem.SeqAt
namespace Mine
theorem arr1 {vs : Array Value} {v : Value} (h : vs.toList = [v]) : vs = #[v] := by cases vs; simp at h; simp [h]
theorem arr2 {vs : Array Value} {u v : Value} (h : vs.toList = [u, v]) : vs = #[u, v] := by cases vs; simp at h; simp [h]
theorem inv_one {h : Heap} {v : Value} {d : PyData} {as : List Addr} (r : Reads h v (.list [d]) as) : ∃ a b as', v = .ref a ∧ h.IsList a #[b] ∧ Reads h b d as' := by
  cases r with
  | @list a o vs n1 xs as1 h1 h2 h3 h4 =>
    cases h4' : vs.toList with
    | nil => rw [h4'] at h4; cases h4
    | cons u us =>
      rw [h4'] at h4
      cases h4 with
      | cons hu hus =>
        cases hus
        exact ⟨a, u, _, rfl, ⟨o, h1, h2, n1, by rw [h3, arr1 h4']⟩, hu⟩
theorem inv_two {h : Heap} {v : Value} {d e : PyData} {as : List Addr} (r : Reads h v (.tuple [d, e]) as) : ∃ a b c as1 as2, v = .ref a ∧ IsTup h a #[b, c] ∧ Reads h b d as1 ∧ Reads h c e as2 := by
  cases r with
  | @tuple c oc vc nc xc asc f1 f2 f3 f4 =>
    cases f4' : vc.toList with
    | nil => rw [f4'] at f4; cases f4
    | cons y ys =>
      rw [f4'] at f4
      cases f4 with
      | cons hy hys =>
        cases hys with
        | @cons z zs _ _ _ _ hz hzs =>
          cases hzs
          exact ⟨c, y, z, _, _, rfl, ⟨oc, f1, f2, nc, by rw [f3, arr2 f4']⟩, hy, hz⟩
theorem inv_str {h : Heap} {v : Value} {x : Str} {as : List Addr} (r : Reads h v (.str x) as) : ∃ k, v = .str x k := by cases r; exact ⟨_, rfl⟩
theorem inv_none {h : Heap} {v : Value} {as : List Addr} (r : Reads h v .none as) : v = .none := by cases r; rfl
theorem pair_inv {h : Heap} {v : Value} {n : List Nat} {x : Option (List Nat)} {as : List Addr} (r : Reads h v (pairD n x) as) : ∃ a b c k y, v = .ref a ∧ h.IsList a #[.ref b] ∧ h.IsList b #[.ref c] ∧ IsTup h c #[.str (S n) k, y] ∧ (match x with | none => y = .none | some z => ∃ k', y = .str (S z) k') := by
  obtain ⟨a, _, _, rfl, h1, r⟩ := inv_one r
  obtain ⟨b, _, _, rfl, h2, r⟩ := inv_one r
  obtain ⟨c, _, z, _, _, rfl, h3, hy, hz⟩ := inv_two r
  obtain ⟨k, rfl⟩ := inv_str hy
  refine ⟨a, b, c, k, z, rfl, h1, h2, h3, ?_⟩
  cases x with
  | none => exact inv_none hz
  | some q => exact inv_str hz
theorem shaped_S {l : List Nat} (h : ∀ c ∈ l, c < 256) : PyData.strOk (S l) = true := by
  unfold PyData.strOk
  rw [Array.all_eq_true']
  intro c hc
  have := h c (by simpa [S] using hc)
  simp; omega
theorem shaped_pair {n : List Nat} {x : Option (List Nat)} (hn : ∀ c ∈ n, c < 256) (hx : ∀ v, x = some v → ∀ c ∈ v, c < 256) : shaped (pairD n x) = true := by
  cases x with
  | none => simp [shaped, pairD, valD, PyData.canLay0, PyData.canLayAll0, shaped_S hn, PyData.depth, PyData.depthAll]
  | some v => simp [shaped, pairD, valD, PyData.canLay0, PyData.canLayAll0, shaped_S hn, shaped_S (hx v rfl), PyData.depth, PyData.depthAll]

theorem list_inv0 {h : Heap} {v : Value} {as : List Addr} (r : Reads h v (.list []) as) : ∃ a, v = .ref a ∧ h.IsList a #[] := by
  cases r with
  | @list a o vs n1 xs as1 h1 h2 h3 h4 =>
    have : vs.toList = [] := by cases h5 : vs.toList with
      | nil => rfl
      | cons u us => rw [h5] at h4; cases h4
    exact ⟨a, rfl, o, h1, h2, n1, by rw [h3]; cases vs; simp at this; rw [this]⟩
theorem hexs : Str.ofString "0123456789ABCDEF" = S [48, 49, 50, 51, 52, 53, 54, 55, 56, 57, 65, 66, 67, 68, 69, 70] := by decide
theorem mem_hexs (c : Nat) : c ∈ [48, 49, 50, 51, 52, 53, 54, 55, 56, 57, 65, 66, 67, 68, 69, 70] ↔ isHexU c := by
  by_cases h : c < 71
  · exact (show ∀ c : Fin 71, (c.val ∈ [48, 49, 50, 51, 52, 53, 54, 55, 56, 57, 65, 66, 67, 68, 69, 70] ↔ isHexU c.val) by decide +kernel) ⟨c, h⟩
  · exact ⟨fun m => absurd ((show ∀ x ∈ [48, 49, 50, 51, 52, 53, 54, 55, 56, 57, 65, 66, 67, 68, 69, 70], x < 71 by decide) c m) h, fun m => absurd (by unfold isHexU at m; omega) h⟩
local macro_rules | `(tactic| walk_at $s:str) => `(tactic| k_extra $s)
theorem row_ (w : World) (p : Program) (loose : List Str) (mean : ExcName → Option Value) (mg mb : Str → Option Value) (dp un : Nat) (fr : Option (List Env)) (gd : Option (List Code)) (s : Shared) (R : Result → Shared → Prop)
    (n : List Nat) (x : Option (List Nat)) (v : Value) (as : List Addr) (X : (hK w.params).In s.heap) (T : Top p loose mean mg mb s.heap)
    (hd : dp + 5 < recursionLimit) (hu : un + 200 < cLine) (hn : n.length ≤ 100) (hx : ∀ z, x = some z → z.length ≤ 100) (hn0 : n ≠ []) (hs : shaped (pairD n x) = true) (hv : Reads s.heap v (pairD n x) as)
    (hret : ∀ k h' tk', Stays s.heap h' → R (.ok (.ret (.str (S (rowOf n x)) k))) { s with heap := h', toks := tk' }) :
    codeAny (model PySem.Challenge.rw_qu0048_01.prog w) { handled := none, depth := dp, frames := fr, guards := gd, units := un } (.call (.ref 149) ⟨[v], []⟩) R s := by
  k_with_none
  k_with "compareOp Eq ref" => (k_here; (with_reducible show wpAny _ _ (compareOp CmpOp.Eq (Value.ref _) (Value.ref _)) _ _ _); (rename News _ _ _ _ => kN); refine eq_dataH (Reads.keeps (Fr.keep ‹_›) ‹_›) (Reads.list (News.get kN (.head _)) rfl rfl .nil) ‹_› rfl (by simp only [Around.deeper_units]; omega) ?_)
  k_with "subscriptTail" => (k_here; (with_reducible show wpAny _ _ (subscriptTail _ _ (Value.ref _) (Value.int 0 _)) _ _ _); (first | refine item_litK (vs := [_]) (Heap.IsList.at (h := _) ‹_› (fun o e => Fr.keep ‹_› _ o e)) (by decide) (by decide) rfl ?_ (by with_unfolding_all rfl) | skip); k_whole)
  k_with "assign Tuple" => (k_here; (with_reducible show wpAny _ _ (assign (Expr.Tuple _ _ _) _ (Value.ref _)) _ _ _); refine unpackN_ (by k_asm) (by k_asm) (IsTup.keeps ‹_› (Fr.keep ‹_›)) rfl rfl rfl ?_; intro h' F' N'; (try k_sweep))
  revert X
  k_fill
  intro X
  obtain ⟨a, b, c, k, y, rfl, la, lb, tc, hy⟩ := pair_inv hv
  refine enter (K := hK w.params) (binds := [(Str.ofString "reading", .ref a)]) X T.nolimit (by k_is) (by k_is) (by show dp < _; omega) (BindsTo.of_eq rfl) (locs rfl) ?_ rfl rfl rfl (by decide)
  intro L' h₁ F N
  have X' := X
  obtain ⟨q, t', hq⟩ := List.exists_cons_of_ne_nil hn0
  have hlen : (S n).length ≤ 100 := by rw [S_len]; exact hn
  have hpos : 1 ≤ (S n).length := by rw [S_len, hq]; simp
  have hit : Txt.item (S n) 0 = S [q] := item_at (Int.le_refl 0) (by rw [hq]; rfl)
  have hne : (PyData.eqv (pairD n x) (PyData.list [])) = false := rfl
  have hin : (Builtin.Str.occurrences (Str.ofString "0123456789ABCDEF") (Txt.item (S n) 0) 0 (Str.ofString "0123456789ABCDEF").length 1).isEmpty = !decide (isHexU q) := by
    rw [hit, hexs, occ_none_iff]
    simp only [mem_hexs]
  have hh : (∃ c, n.head? = some c ∧ isHexU c) ↔ isHexU q := by rw [hq]; simp
  by_cases hc : isHexU q
  · rw [decide_eq_true hc] at hin
    simp only [Bool.not_true] at hin
    have hh' := hh.mpr hc
    cases x with
    | none =>
      simp only at hy
      subst hy
      have e : rowOf n none = 61 :: n := by simp only [rowOf, if_pos hh']
      rw [e] at hret
      k_steps
      all_goals (dsimp only; rw [S_eq, S_append]; exact hret _ _ _ (Fr.keep (by assumption)))
    | some z =>
      obtain ⟨k', rfl⟩ := hy
      have hz : (S z).length ≤ 100 := by rw [S_len]; exact hx z rfl
      have e : rowOf n (some z) = 61 :: n ++ 61 :: z := by simp only [rowOf, if_pos hh']
      rw [e] at hret
      k_steps
      all_goals (dsimp only; rw [S_eq, S_append, S_append, S_append]; simp only [List.cons_append, List.nil_append, List.append_assoc] at hret ⊢; exact hret _ _ _ (Fr.keep (by assumption)))
  · rw [decide_eq_false hc] at hin
    simp only [Bool.not_false] at hin
    have hh' := fun h => hc (hh.mp h)
    cases x with
    | none =>
      simp only at hy
      subst hy
      have e : rowOf n none = n := by simp only [rowOf, if_neg hh']
      rw [e] at hret
      k_steps
      all_goals (dsimp only; exact hret _ _ _ (Fr.keep (by assumption)))
    | some z =>
      obtain ⟨k', rfl⟩ := hy
      have hz : (S z).length ≤ 100 := by rw [S_len]; exact hx z rfl
      have e : rowOf n (some z) = n ++ 61 :: z := by simp only [rowOf, if_neg hh']
      rw [e] at hret
      k_steps
      all_goals (dsimp only; rw [S_eq, S_append, S_append]; simp only [List.cons_append, List.nil_append, List.append_assoc] at hret ⊢; exact hret _ _ _ (Fr.keep (by assumption)))
theorem row0_ (w : World) (p : Program) (loose : List Str) (mean : ExcName → Option Value) (mg mb : Str → Option Value) (dp un : Nat) (fr : Option (List Env)) (gd : Option (List Code)) (s : Shared) (R : Result → Shared → Prop)
    (v : Value) (as : List Addr) (X : (hK w.params).In s.heap) (T : Top p loose mean mg mb s.heap)
    (hd : dp + 5 < recursionLimit) (hu : un + 200 < cLine) (hs : shaped (.list []) = true) (hv : Reads s.heap v (.list []) as)
    (hret : ∀ k h' tk', Stays s.heap h' → R (.ok (.ret (.str (S []) k))) { s with heap := h', toks := tk' }) :
    codeAny (model PySem.Challenge.rw_qu0048_01.prog w) { handled := none, depth := dp, frames := fr, guards := gd, units := un } (.call (.ref 149) ⟨[v], []⟩) R s := by
  k_with_none
  k_with "compareOp Eq ref" => (k_here; (with_reducible show wpAny _ _ (compareOp CmpOp.Eq (Value.ref _) (Value.ref _)) _ _ _); (rename News _ _ _ _ => kN); refine eq_dataH (Reads.keeps (Fr.keep ‹_›) ‹_›) (Reads.list (News.get kN (.head _)) rfl rfl .nil) ‹_› rfl (by simp only [Around.deeper_units]; omega) ?_)
  k_with "subscriptTail" => (k_here; (with_reducible show wpAny _ _ (subscriptTail _ _ (Value.ref _) (Value.int 0 _)) _ _ _); (first | refine item_litK (vs := [_]) (Heap.IsList.at (h := _) ‹_› (fun o e => Fr.keep ‹_› _ o e)) (by decide) (by decide) rfl ?_ (by with_unfolding_all rfl) | skip); k_whole)
  k_with "assign Tuple" => (k_here; (with_reducible show wpAny _ _ (assign (Expr.Tuple _ _ _) _ (Value.ref _)) _ _ _); refine unpackN_ (by k_asm) (by k_asm) (IsTup.keeps ‹_› (Fr.keep ‹_›)) rfl rfl rfl ?_; intro h' F' N'; (try k_sweep))
  revert X
  k_fill
  intro X
  obtain ⟨a, rfl, la⟩ := list_inv0 hv
  refine enter (K := hK w.params) (binds := [(Str.ofString "reading", .ref a)]) X T.nolimit (by k_is) (by k_is) (by show dp < _; omega) (BindsTo.of_eq rfl) (locs rfl) ?_ rfl rfl rfl (by decide)
  intro L' h₁ F N
  have X' := X
  have hne : (PyData.eqv (.list []) (PyData.list [])) = true := rfl
  k_steps
  all_goals (dsimp only; rw [S_nil]; exact hret _ _ _ (Fr.keep (by assumption)))
end Mine
end
section
open PySem PySem.Spec PySem.Calls PySem.W PyProof.Rows
namespace Mine
local macro_rules | `(tactic| walk_at $s:str) => `(tactic| k_extra $s)
theorem shw_ (w : World) (p : Program) (loose : List Str) (mean : ExcName → Option Value) (mg mb : Str → Option Value) (dp un : Nat) (fr : Option (List Env)) (gd : Option (List Code)) (s : Shared) (R : Result → Shared → Prop)
    (l : Addr) (nn : Nat) (b : List Nat) (t : Tok) (X : (hK w.params).In s.heap) (T : Top p loose mean mg mb s.heap)
    (hd : dp + 10 < recursionLimit) (hu : un + 300 < cLine) (hb : b.length ≤ 100) (hg : Good b) (hl : s.heap.get? l = some (listOf #[.str (S b) t] nn))
    (hret : ∀ v h' tk', Stays s.heap h' → Made s.heap h' v (rdData b) → R (.ok (.ret v)) { s with heap := h', toks := tk' }) :
    codeAny (model PySem.Challenge.rw_qu0048_01.prog w) { handled := none, depth := dp, frames := fr, guards := gd, units := un } (.call (.ref 121) ⟨[.ref l], []⟩) R s := by
  k_with_none
  k_with "exec For Name Name cons nil" => (k_here; (rename Fr _ _ _ _ => lF'); (with_unfolding_all refine' For_invVF lF' ?k1 ?k2 ?_; (case k1 => exact rfl); (case k2 => exact rfl); k_whole))
  k_with "pyIter ref" => ((with_reducible show wpAny _ _ (pyIter (Value.ref _)) (fun it s₂ => LoopAtV _ _ _ _ _ _ _ _ _ it s₂) _ _); refine one_item rfl ‹_› (by k_asm) (by k_asm) ?_; intro I' io' h' tk' l1 F' N'; (try k_lt l1); (try k_sweep))
  k_with "exec While" => (k_here; refine exec_wloop ?_)
  k_with "WLoop" => (refine wloop_turn ?_ (by passes_own))
  k_with "WNext" => (show WLoop _ _ _ _ _ _ _ _ _)
  k_with "call builtin:isinstance" => (k_here; refine PySem.IsiPair.list_str (Fr.keep ‹_› _ _ ‹_›) rfl ?_)
  k_with "own get" => (rename News _ _ _ _ => nM'; exact News.get nM' (by k_mem))
  k_with "own new" => (rename News _ _ _ _ => nM'; exact newAt nM' (by k_mem))
  k_with "own pat" => first | exact IsPat.keeps (pat_tok (by assumption)) (Fr.keep (by assumption)) | exact IsPat.keeps (pat_quo (by assumption)) (Fr.keep (by assumption)) | exact IsPat.keeps (pat_val (by assumption)) (Fr.keep (by assumption)) | exact IsPat.keeps (pat_twin (by assumption)) (Fr.keep (by assumption))
  k_with "getMethod ref" => (k_here; first | ((with_reducible show wpAny _ _ (getMethod _ (PySem.Str.ofString "search") _) _ _ _); refine search_method (by walk_at "own pat") ?_) | ((with_reducible show wpAny _ _ (getMethod _ (PySem.Str.ofString "group") _) _ _ _); refine group_method (by walk_at "own get") ?_) | ((with_reducible show wpAny _ _ (getMethod _ (PySem.Str.ofString "subn") _) _ _ _); refine subn_method (by walk_at "own pat") ?_))
  k_with "call builtin:re.Pattern.search" => (k_here; first | refine search_no (k := 5000) (by walk_at "own pat") (by assumption) (by assumption) (by decide) ?_ | (refine search_S (k := 20) (by k_asm) (by k_asm) (by walk_at "own pat") ‹_› ‹_› (by decide) (by omega) ?_; intro a' tp' h' F' N' l1 l2; (try k_lt l1); (try k_lt l2); (try k_sweep)) | refine halt ?_)
  k_with "truthy str" => (k_here; first | refine str_yes ‹_› ‹_› ?_ | refine str_no ‹_› ?_; intro tk')
  k_with "truthy ref" => (k_here; refine truthy_match (by walk_at "own get") ?_)
  k_with "call builtin:list.append" => (k_here; k_dflt (refine' append_K ?k1 ?k2 ?k3 ?_ ?z; (case k1 => k_asm); (case k2 => k_asm); (case k3 => k_upd); (case z => exact Nat.le_of_ble_eq_true rfl); k_whole); intro h' F' N'; (try k_sweep))
  k_with "call builtin:re.Match.group" => (k_here; refine group_S (by walk_at "own get") (by walk_at "own get") ‹_› ?_)
  k_with "call builtin:re.Pattern.subn" => (k_here; refine subn_S (k := 5000) (by k_asm) (by k_asm) (pat_twin ‹_›) ‹_› ‹_› ‹_› ‹_› (by decide) ?_; intro r' k1' k2' h' tk' F' N' l1; (try k_lt l1); (try k_sweep))
  k_with "call ref" => (k_here; refine unmatched_call ‹_› ‹_› (by k_asm) (by k_asm) rfl (by dsimp only [Around.deeper]; omega) (deeper_u (by dsimp only; omega)) (by walk_at "own get") (by walk_at "own get") ‹_› ‹_› ?_; intro k' h' tk' F' N'; (try k_sweep))
  k_with "own apart" => (simp only [List.cons_append, List.nil_append, List.forall_mem_cons, List.not_mem_nil, false_implies, implies_true, and_true]; (repeat' refine And.intro ?_ ?_); all_goals (first | exact Nat.ne_of_lt (by omega) | exact Nat.ne_of_gt (by omega)))
  k_with "OneEnd" => ((rename News _ _ _ _ => nO'); (first | refine one_end (pre := [_]) (by k_asm) nO' ?ne ?_ | refine one_end (pre := [_, _, _, _]) (by k_asm) nO' ?ne ?_ | refine one_end (pre := [_, _, _, _, _]) (by k_asm) nO' ?ne ?_ | refine one_end (pre := [_, _, _, _, _, _]) (by k_asm) nO' ?ne ?_ | refine one_end (pre := [_, _, _, _, _, _, _]) (by k_asm) nO' ?ne ?_); (case ne => walk_at "own apart"); intro h' tk' F' N'; clear nO'; (try dsimp only [List.cons_append, List.nil_append] at N'); (try k_sweep); dsimp only)
  k_with "getMethod ref" => (k_here; (with_reducible show wpAny _ _ (getMethod (Value.ref _) (PySem.Str.ofString "append") _) _ _ _); refine getMethod_list_append (o := listOf _ _) (News.get (by k_asm) (by k_mem)) rfl rfl ?_)
  revert X
  k_fill
  intro X
  refine enter (K := hK w.params) (binds := [(Str.ofString "header_values", .ref l)]) X T.nolimit (by k_is) (by k_is) (by show dp < _; omega) (BindsTo.of_eq rfl) (locs rfl) ?_ rfl rfl rfl (by decide)
  intro L' h₁ F N
  have X' := X
  have hP : AllP b := hg.print
  by_cases h0 : b = []
  · subst h0
    have h1 : (S []).length = 0 := rfl
    k_steps
    rename News _ _ _ _ => N'
    exact hret _ _ _ (Fr.keep (by assumption)) (made_nil (by walk_at "own new"))
  have hdat : rdData b = pairD (readName b) (readVal b) := by rw [rdData, if_neg h0]
  rw [hdat] at hret
  obtain ⟨c, t', rfl⟩ := List.exists_cons_of_ne_nil h0
  have hlen : (S (c :: t')).length ≤ 1000 := by rw [S_len]; omega
  have hpos : 1 ≤ (S (c :: t')).length := by rw [S_len, List.length_cons]; omega
  by_cases hc : c = 61
  · subst hc
    obtain ⟨x, t'', hx, hxu⟩ : ∃ x t'', t' = x :: t'' ∧ isHexU x := by
      rcases hg.head with h | ⟨x, t'', h, hxu⟩ | ⟨x, t'', h, hx, _⟩
      · cases h
      · exact ⟨x, t'', (List.cons.inj h).2, hxu⟩
      · exact absurd (List.cons.inj h).1.symm hx
    have hx61 : x ≠ 61 := by rintro rfl; revert hxu; decide
    have hPt : AllP t' := fun c hc => hP c (.tail _ hc)
    have hlt : t'.length ≤ 100 := by simp at hb; omega
    have htl : t' ≠ [] := by rw [hx]; exact List.cons_ne_nil _ _
    have hlen' : (S t').length ≤ 1000 := by rw [S_len]; omega
    have hpos' : 1 ≤ (S t').length := by rw [S_len, hx, List.length_cons]; omega
    have hf0 := row_tokNo (t := t') (by omega)
    have hst := starts_no hP
    have hf4 : Finds 5000 (Sre.forSearch twinC (S (61 :: t')).cps 0 0 (S (61 :: t')).cps.size false) 0 1 #[] (-1) (-1) := by
      rw [hx]; exact (row_twin (hPt x (by rw [hx]; exact .head _)) hx61 (by rw [hx] at hlt; simp at hlt; omega)).le (by decide)
    have hf5 := row_twinNo (t := t') (by omega)
    obtain ⟨n, hn, hf1, hf2, hl2, hname, hcase⟩ := tok_facts hPt (by omega) htl (by rw [hx]; simpa using hx61) (fun i hi y hy => hg.next (i + 1) (by simpa using hi) y (by simpa using hy))
    have e1 : readName (61 :: t') = (t'.drop 0).take (n - 0) := by rw [hname]; rfl
    k_steps
    unfold Halt
    rcases hcase with ⟨hf3, hl3, hdw⟩ | ⟨k, v, hf3, hk, hk1, hl3, hl4, hrs, hdw⟩
    · have e2 : readVal (61 :: t') = none := by simp [readVal, bareOf, hdw]
      rw [e1, e2] at hret
      k_steps
      exact hret _ _ _ (Fr.keep (by assumption)) (made_none (by walk_at "own new") (by walk_at "own new") (by walk_at "own new"))
    · have e2 : readVal (61 :: t') = some v := by simp [readVal, bareOf, hdw]
      rw [e1, e2] at hret
      k_steps
      rename News _ _ _ _ => N'
      rw [hrs] at N'
      exact hret _ _ _ (Fr.keep (by assumption)) (made_pair (by walk_at "own new") (by walk_at "own new") (by walk_at "own new"))
  · obtain ⟨n, hn, hf1, hf2, hl2, hname, hcase⟩ := tok_facts hP (by omega) h0 (by simpa using hc) hg.next
    have hb' : bareOf (c :: t') = c :: t' := by simp [bareOf, hc]
    have e1 : readName (c :: t') = ((c :: t').drop 0).take (n - 0) := by rw [hname, readName, hb']
    k_steps
    unfold Halt
    rcases hcase with ⟨hf3, hl3, hdw⟩ | ⟨k, v, hf3, hk, hk1, hl3, hl4, hrs, hdw⟩
    · have e2 : readVal (c :: t') = none := by rw [readVal, hb', hdw]
      rw [e1, e2] at hret
      k_steps
      exact hret _ _ _ (Fr.keep (by assumption)) (made_none (by walk_at "own new") (by walk_at "own new") (by walk_at "own new"))
    · have e2 : readVal (c :: t') = some v := by rw [readVal, hb', hdw]
      rw [e1, e2] at hret
      k_steps
      rename News _ _ _ _ => N'
      rw [hrs] at N'
      exact hret _ _ _ (Fr.keep (by assumption)) (made_pair (by walk_at "own new") (by walk_at "own new") (by walk_at "own new"))
end Mine
end
section
open PySem PySem.Spec PySem.Calls PySem.W PyProof.Rows
namespace Mine
/-- the sign that a number of the script stands for -/
noncomputable def bareL : List Nat := [103, 101, 34, 92, 63, 45, 90, 58, 126, 47, 122, 77, 39, 60, 38, 94]
noncomputable def signOf (x : Int) : Nat :=
  if x.fmod 8 = 0 then 10 else if x.fmod 8 = 1 then 61 else if x.fmod 8 = 2 then (128 + (x.fdiv 8).fmod 128).toNat else if x.fmod 8 = 3 then ((x.fdiv 8).fmod 9).toNat
  else bareL.getD ((x.fdiv 8).fmod 16).toNat 0
noncomputable def lead : List Int := [4, 12, 20, 28, 36, 8, 842, 44, 1, 52]
noncomputable def textOf (ns : List Int) : List Nat := (lead ++ ns.take 8).map signOf
theorem nl_S : Str.ofString "\n" = S [10] := by decide +kernel
theorem bare_S : Str.ofString "ge\"\\?-Z:~/zM'<&^" = S bareL := by decide +kernel
theorem bare_item {j : Int} (h0 : 0 ≤ j) (h1 : j < 16) : Txt.item (Str.ofString "ge\"\\?-Z:~/zM'<&^") j = S [bareL.getD j.toNat 0] := by
  rw [bare_S, item_at h0]
  have : j.toNat < bareL.length := by simp only [bareL, List.length_cons, List.length_nil]; omega
  rw [List.getD_eq_getElem?_getD, List.getElem?_eq_getElem this]; rfl
theorem joinL_ones : ∀ cs : List Nat, joinL [] (cs.map fun c => [c]) = cs
  | [] => rfl
  | [c] => rfl
  | c :: d :: cs => by
    have ih := joinL_ones (d :: cs)
    rw [List.map_cons] at ih
    rw [List.map_cons, List.map_cons, joinL, ih]; rfl
local macro_rules | `(tactic| walk_at $s:str) => `(tactic| k_extra $s)
theorem text_ (w : World) (p : Program) (loose : List Str) (mean : ExcName → Option Value) (mg mb : Str → Option Value) (dp un : Nat) (fr : Option (List Env)) (gd : Option (List Code)) (s : Shared) (R : Result → Shared → Prop)
    (l : Addr) (vs : List Value) (ns : List Int) (X : (hK w.params).In s.heap) (T : Top p loose mean mg mb s.heap)
    (hd : dp + 10 < recursionLimit) (hu : un + 300 < cLine) (hl : s.heap.IsList l vs.toArray) (hns : IntsAre vs ns) (hlen : ns.length ≤ 63)
    (hret : ∀ k h' tk', Stays s.heap h' → R (.ok (.ret (.str (S (textOf ns)) k))) { s with heap := h', toks := tk' }) :
    codeAny (model PySem.Challenge.rw_qu0048_01.prog w) { handled := none, depth := dp, frames := fr, guards := gd, units := un } (.call (.ref 128) ⟨[.ref l], []⟩) R s := by
  k_with_none
  k_with "exec For Name BinOp cons nil" => (k_here; (rename Fr _ _ _ _ => lF'); (with_reducible refine' For_invVF lF' ?k1 ?k2 ?_ ?k4 ?k5); (case k1 => exact rfl); (case k2 => exact rfl); (case k4 => (intro _; exact rfl)); (case k5 => passes_own); k_whole)
  k_with "pyIter ref" => (refine halt ?_)
  k_with "call builtin:list.append" => (k_here; (rename News _ _ _ _ => nA'); refine append_hd (by k_asm) nA' ‹_› ‹_› ?_; clear nA'; intro h' F' N'; (try k_sweep))
  k_with "getMethod ref" => (k_here; (with_reducible show wpAny _ _ (getMethod (Value.ref _) (PySem.Str.ofString "append") _) _ _ _); refine getMethod_list_append (o := listOf _ _) (News.get (by k_asm) (by k_mem)) rfl rfl ?_)
  revert X
  k_fill
  intro X
  refine enter (K := hK w.params) (binds := [(Str.ofString "script", .ref l)]) X T.nolimit (by k_is) (by k_is) (by show dp < _; omega) (BindsTo.of_eq rfl) (locs rfl) ?_ rfl rfl rfl (by decide)
  intro L' h₁ F N
  have X' := X
  k_steps
  rename_i acc _ _ _ l0 _ l1 D1 ws1 _ _ _ _ l1b D ws _ F' N' hI l2
  unfold Halt
  have hw : ws.length = (lead ++ ns.take 8).length := IntsAre.length hI
  have hwl : ws.length ≤ 18 := by rw [hw]; simp [lead]; omega
  refine each_list (σ := Array Value × Nat) (fun c => [(acc, listOf c.1 c.2), (D, listOf ws.toArray 0)]) (fun c => [(Str.ofString "signs", .ref acc), (Str.ofString "bare", .str (Str.ofString "ge\"\\?-Z:~/zM'<&^") (s.toks + 1))])
    (fun i c => StrsAre c.1.toList ((((lead ++ ns.take 8).take i).map fun x => [signOf x]).map S)) (#[], 0) rfl (fun c => .tail _ (.head _)) (fun c => rfl) F' (fun p hp => N' p ?_) ?_ .nil ?_ ?_
  · rcases List.mem_cons.mp hp with rfl | hp
    · exact .tail _ (.tail _ (.tail _ (.head _)))
    · exact (List.mem_singleton.mp hp) ▸ .head _
  · intro p hp
    simp only [List.mem_cons, List.not_mem_nil, or_false] at hp
    rcases hp with rfl | rfl <;> rfl
  · intro c i v u h tk own hv hoff hP F N
    obtain ⟨x, t, hx, rfl⟩ := ints_at hI hv
    have hne : ∀ p ∈ (D, listOf ws.toArray 0) :: own, p.1 ≠ acc := ne_own (Nat.ne_of_gt l2.2.2) (OwnOff.ne hoff (.head _))
    have hsz : c.1.size ≤ 1000 := by
      have := strs_len hP
      have h18 : (lead ++ ns.take 8).length ≤ 18 := hw ▸ hwl
      rw [Array.length_toList, List.length_map, List.length_map, List.length_take] at this; omega
    k_steps
    all_goals
      rename Fr _ _ _ _ => F9
      rename News _ _ _ _ => N9
      refine tend (c.1.push (.str _ _), c.2 + 1) F9 N9 sub_left sub_right ?_ (strs_step hx hP ?_)
      · intro p hp
        simp only [List.mem_cons, List.not_mem_nil, or_false] at hp
        rcases hp with rfl | rfl <;> rfl
    · rw [signOf, if_pos (by assumption)]; exact nl_S
    · rw [signOf, if_neg (by assumption), if_pos (by assumption)]; exact S_eq
    · rw [signOf, if_neg (by assumption), if_neg (by assumption), if_pos (by assumption)]; rfl
    · rw [signOf, if_neg (by assumption), if_neg (by assumption), if_neg (by assumption), if_pos (by assumption)]; rfl
    · rw [signOf, if_neg (by assumption), if_neg (by assumption), if_neg (by assumption), if_neg (by assumption)]
      exact bare_item (Int.fmod_nonneg_of_pos _ (by decide)) (Int.fmod_lt_of_pos _ (by decide))
  · intro c u h tk hP F N
    dsimp only
    k_steps
    have hrows : ((lead ++ ns.take 8).map fun x => [signOf x]) = (textOf ns).map fun c => [c] := by rw [textOf, List.map_map]; rfl
    rw [show ws.length = (lead ++ ns.take 8).length from hw, List.take_length, hrows] at hP
    have hj := joinL_ones (textOf ns)
    have hl8 : (textOf ns).length ≤ 18 := by rw [textOf, List.length_map]; exact hw ▸ hwl
    refine join_S_list (sep := []) (rows := (textOf ns).map fun c => [c]) (News.get N (.head _)) hP ?_ ?_
    · rw [hj, List.length_map]; simp; omega
    · intro t' k
      rw [hj]
      exact hret _ _ _ F.keep
end Mine
end
section
open PySem PySem.Spec PySem.Calls PySem.W PyProof.Rows
namespace Mine
theorem nl10 : Str.ofString "\n" = S [10] := by decide +kernel
theorem joinL_flat : ∀ ps : List (List Nat), joinL [] ps = ps.flatten
  | [] => rfl
  | [r] => by simp [joinL]
  | r :: r2 :: rs => by rw [joinL, joinL_flat (r2 :: rs)]; simp
theorem lawLoop_len (w : Nat) : ∀ (ps : List (List Nat)) (left : Nat) (row : List Nat), (lawLoop w left row ps).length ≤ ps.length + 1 ∧ 1 ≤ (lawLoop w left row ps).length
  | [], _, _ => by simp [lawLoop]
  | p :: ps, left, row => by
    rw [lawLoop]
    split
    · have := lawLoop_len w ps (left - row.length) p
      simp; omega
    · have := lawLoop_len w ps left (row ++ p)
      simp; omega
theorem piece_len3 (c : Nat) : (piece c).length ≤ 3 := by unfold piece; split <;> simp
theorem flat_len : ∀ l : List Nat, (l.map piece).flatten.length ≤ 3 * l.length
  | [] => by simp
  | c :: l => by
    have h1 := piece_len3 c
    have h2 := flat_len l
    rw [List.map_cons, List.flatten_cons, List.length_append, List.length_cons]; omega
noncomputable def hexS : List Nat := [48, 49, 50, 51, 52, 53, 54, 55, 56, 57, 65, 66, 67, 68, 69, 70]
theorem hex_S : Str.ofString "0123456789ABCDEF" = S hexS := by decide +kernel
theorem hexU_at : ∀ j, j < 16 → hexS[j]? = some (hexU j) := by decide
theorem hex_item {j : Nat} (h1 : j < 16) : Txt.item (Str.ofString "0123456789ABCDEF") (j : Int) = S [hexU j] := by
  rw [hex_S, item_at (Int.natCast_nonneg _)]
  rw [Int.toNat_natCast]; exact hexU_at j h1
theorem piece_hex {n : Nat} (h : n < 256) (ho : okc n = false) : Str.ofString "=" ++ Txt.item (Str.ofString "0123456789ABCDEF") ((n : Int).fdiv 16) ++ Txt.item (Str.ofString "0123456789ABCDEF") ((n : Int).fmod 16) = S (piece n) := by
  have e1 : (n : Int).fdiv 16 = ((n / 16 : Nat) : Int) := by rw [Int.fdiv_eq_ediv_of_nonneg _ (by decide)]; rfl
  have e2 : (n : Int).fmod 16 = ((n % 16 : Nat) : Int) := by rw [Int.fmod_eq_emod_of_nonneg _ (by decide)]; rfl
  rw [e1, e2, hex_item (by omega), hex_item (by omega), S_eq, S_append, S_append]
  unfold piece
  rw [ho]; rfl
theorem linesL_short : ∀ l, (∀ r ∈ linesL l, r.length ≤ l.length) ∧ (linesL l).length ≤ l.length + 1
  | [] => by simp [linesL]
  | c :: t => by
    obtain ⟨h1, h2⟩ := linesL_short t
    rw [linesL]
    split
    · refine ⟨fun r hr => ?_, by simp; omega⟩
      rcases List.mem_cons.mp hr with rfl | hr
      · simp
      · have := h1 r hr; simp; omega
    · split
      · simp
      · rename_i r0 rs e
        rw [e] at h1 h2
        refine ⟨fun r hr => ?_, by simp at h2 ⊢; omega⟩
        rcases List.mem_cons.mp hr with rfl | hr
        · have := h1 r0 (.head _); simp; omega
        · have := h1 r (.tail _ hr); simp; omega
theorem flatMap_len {f : List Nat → List (List Nat)} {k : Nat} : ∀ l : List (List Nat), (∀ r ∈ l, (f r).length ≤ k) → (l.flatMap f).length ≤ l.length * k
  | [], _ => by simp
  | a :: l, h => by
    have h1 := h a (.head _)
    have h2 := flatMap_len l fun r hr => h r (.tail _ hr)
    rw [List.flatMap_cons, List.length_append, List.length_cons, Nat.succ_mul]; omega
theorem drop_get {α : Type} {l : List α} {j : Nat} {a : α} (h : l[j]? = some a) : l.drop j = a :: l.drop (j + 1) := by
  obtain ⟨hj, e⟩ := List.getElem?_eq_some_iff.mp h
  rw [List.drop_eq_getElem_cons hj, e]
theorem all5 {α : Type} {q : α → Prop} {a b c d e : α} (h1 : q a) (h2 : q b) (h3 : q c) (h4 : q d) (h5 : q e) : ∀ p ∈ [a, b, c, d, e], q p := by
  intro p hp
  simp only [List.mem_cons, List.not_mem_nil, or_false] at hp
  rcases hp with rfl | rfl | rfl | rfl | rfl <;> assumption
noncomputable def rowsOf (W : Nat) (line : List Nat) : List (List Nat) := lawLoop W (line.map piece).flatten.length [] (line.map piece)
noncomputable def allRows (W : Nat) (x : List Nat) : List (List Nat) := (linesL x).flatMap (rowsOf W)
local macro_rules | `(tactic| walk_at "exec For Name Call cons nil") => `(tactic| ((k_here; (rename Fr _ _ _ _ => lF'); (with_reducible refine' For_invVF lF' ?k1 ?k2 ?_ ?k4 ?k5); (case k1 => exact rfl); (case k2 => exact rfl); (case k4 => (intro _; exact rfl)); (case k5 => passes_own); k_whole)))
local macro_rules | `(tactic| walk_at "exec For Name Name cons nil") => `(tactic| ((k_here; (rename Fr _ _ _ _ => lF'); (with_reducible refine' For_invVF lF' ?k1 ?k2 ?_ ?k4 ?k5); (case k1 => exact rfl); (case k2 => exact rfl); (case k4 => (intro _; exact rfl)); (case k5 => passes_own); k_whole)))
local macro_rules | `(tactic| walk_at "pyIter ref") => `(tactic| (refine halt ?_))
local macro_rules | `(tactic| walk_at "pyIter str") => `(tactic| (refine halt ?_))
local macro_rules | `(tactic| walk_at "call builtin:str.split") => `(tactic| (k_here; refine split_call (by k_asm) (by k_asm) rfl ‹_› ?_; intro D' vs' h' tk' e' F' N' l1; (try k_lt l1); (try k_sweep)))
local macro_rules | `(tactic| walk_at "call builtin:list.append") => `(tactic| (k_here; (rename News _ _ _ _ => nA'); refine append_hd (by k_asm) nA' ‹_› ‹_› ?_; clear nA'; intro h' F' N'; (try k_sweep)))
local macro_rules | `(tactic| walk_at "call builtin:str.join") => `(tactic| (k_here; (rename News _ _ _ _ => nJ'); refine join_S_list (sep := []) (News.get nJ' (.head _)) ‹_› ‹_› ?_; intro t' tk'))
local macro_rules | `(tactic| walk_at "getMethod ref") => `(tactic| (k_here; (with_reducible show wpAny _ _ (getMethod (Value.ref _) (PySem.Str.ofString "append") _) _ _ _); refine getMethod_list_append (o := listOf _ _) (News.get (by k_asm) (by k_mem)) rfl rfl ?_))
theorem rows_ (w : World) (p : Program) (loose : List Str) (mean : ExcName → Option Value) (mg mb : Str → Option Value) (dp un : Nat) (fr : Option (List Env)) (gd : Option (List Code)) (s : Shared) (R : Result → Shared → Prop)
    (x : List Nat) (tx tw : Tok) (W : Nat) (X : (hK w.params).In s.heap) (T : Top p loose mean mg mb s.heap)
    (hd : dp + 10 < recursionLimit) (hu : un + 300 < cLine) (hx : x.length ≤ 18) (hc : ∀ c ∈ x, c < 256) (h4 : 4 ≤ W) (h9 : W ≤ 9)
    (hret : ∀ r its n h' tk', Stays s.heap h' → h'.get? r = some (listOf its n) ∧ s.heap.get? r = none → StrsAre its.toList ((allRows W x).map S) → R (.ok (.ret (.ref r))) { s with heap := h', toks := tk' }) :
    codeAny (model PySem.Challenge.rw_qu0048_01.prog w) { handled := none, depth := dp, frames := fr, guards := gd, units := un } (.call (.ref 135) ⟨[.str (S x) tx, .int W tw], []⟩) R s := by
  revert X
  k_fill
  intro X
  refine enter (K := hK w.params) (binds := [(Str.ofString "text", .str (S x) tx), (Str.ofString "width", .int W tw)]) X T.nolimit (by k_is) (by k_is) (by show dp < _; omega) (BindsTo.of_eq rfl) (locs rfl) ?_ rfl rfl rfl (by decide)
  intro L' h₁ F N
  have X' := X
  have hlen : (S x).length ≤ 1000 := by rw [S_len]; omega
  k_steps
  rename_i acc _ _ _ D vs _ _ hvs F' N' l2
  rw [nl10, split_S] at hvs
  have hvl : vs.length = (linesL x).length := by rw [strs_len hvs, List.length_map]
  unfold Halt
  refine each_list (σ := Array Value × Nat) (fun c => [(acc, listOf c.1 c.2), (D, listOf vs.toArray 0)]) (fun c => [(Str.ofString "rows", .ref acc), (Str.ofString "figures", .str (Str.ofString "0123456789ABCDEF") (s.toks + 2)), (Str.ofString "width", .int W tw)])
    (fun i c => StrsAre c.1.toList ((((linesL x).take i).flatMap (rowsOf W)).map S)) (#[], 0) rfl (fun c => .tail _ (.head _)) (fun c => rfl) F' (fun p hp => N' p ?_) ?_ .nil ?_ ?_
  · rcases List.mem_cons.mp hp with rfl | hp
    · exact .tail _ (.head _)
    · exact (List.mem_singleton.mp hp) ▸ .head _
  · intro p hp
    simp only [List.mem_cons, List.not_mem_nil, or_false] at hp
    rcases hp with rfl | rfl | rfl <;> rfl
  · intro c i v u h tk own hv hoff hP F N
    obtain ⟨y, t, hy, rfl⟩ := strs_at hvs hv
    obtain ⟨line, hline, rfl⟩ : ∃ line, (linesL x)[i]? = some line ∧ y = S line := by
      rw [List.getElem?_map] at hy
      cases e : (linesL x)[i]? with
      | none => rw [e] at hy; cases hy
      | some line => rw [e] at hy; exact ⟨line, rfl, (Option.some.inj hy).symm⟩
    have hne : ∀ p ∈ (D, listOf vs.toArray 0) :: own, p.1 ≠ acc := ne_own (Nat.ne_of_gt l2) (OwnOff.ne hoff (.head _))
    have hll : line.length ≤ 18 := Nat.le_trans ((linesL_short x).1 line (List.mem_of_getElem? hline)) hx
    have hrl : ∀ r ∈ linesL x, (rowsOf W r).length ≤ 19 := fun r hr => by
      have h1 := (lawLoop_len W (r.map piece) (r.map piece).flatten.length []).1
      have h2 := (linesL_short x).1 r hr
      rw [List.length_map] at h1
      exact Nat.le_trans h1 (by omega)
    have htot : (((linesL x).take i).flatMap (rowsOf W) ++ rowsOf W line).length ≤ 900 := by
      have h1 := flatMap_len (k := 19) ((linesL x).take i) fun r hr => hrl r (List.mem_of_mem_take hr)
      have h2 := hrl line (List.mem_of_getElem? hline)
      have h3 := (linesL_short x).2
      rw [List.length_take] at h1
      rw [List.length_append]; omega
    k_steps
    rename_i pc _ _ _ l3 _ F' N'
    unfold Halt
    refine each_sign (σ := Array Value × Nat) (fun c1 => (pc, listOf c1.1 c1.2) :: ([(acc, listOf c.1 c.2), (D, listOf vs.toArray 0)] ++ own)) (fun c1 => [(Str.ofString "pieces", .ref pc), (Str.ofString "rows", .ref acc), (Str.ofString "figures", .str (Str.ofString "0123456789ABCDEF") (s.toks + 2)), (Str.ofString "width", .int W tw)])
      (fun j c1 => StrsAre c1.1.toList (((line.take j).map piece).map S)) (#[], 0) rfl (fun c => rfl) F' N' ?_ .nil ?_ ?_
    · intro p hp
      simp only [List.mem_cons, List.not_mem_nil, or_false] at hp
      rcases hp with rfl | rfl | rfl | rfl <;> rfl
    · intro c1 j n t1 u1 h1 tk1 own1 hn hoff1 hP1 F1 N1
      have hnl : line[j]? = some n := by rw [← S_list line, ← Array.getElem?_toList] at *; exact hn
      have hne1 : ∀ p ∈ ([(acc, listOf c.1 c.2), (D, listOf vs.toArray 0)] ++ own) ++ own1, p.1 ≠ pc := by
        intro p hp
        rcases List.mem_append.mp hp with h | h
        · exact Nat.ne_of_lt (l3 p h)
        · exact OwnOff.ne hoff1 (.head _) p h
      have hsz1 : c1.1.size ≤ 1000 := by
        have := strs_len hP1
        rw [Array.length_toList, List.length_map, List.length_map, List.length_take] at this; omega
      have hn256 : n < 256 := hc n (linesL_mem x line (List.mem_of_getElem? hline) n (List.mem_of_getElem? hnl))
      k_steps
      all_goals
        rename Fr _ _ _ _ => F9
        rename News _ _ _ _ => N9
        refine tend (c1.1.push (.str _ _), c1.2 + 1) F9 N9 sub_left sub_right ?_ (strs_step hnl hP1 ?_)
        · intro p hp
          simp only [List.mem_cons, List.not_mem_nil, or_false] at hp
          rcases hp with rfl | rfl | rfl | rfl <;> rfl
      · rename (({ cps := #[n] } : Str) != Str.ofString "=") = true => a3
        have h61 : n ≠ 61 := by rintro rfl; revert a3; decide +kernel
        have ho : okc n = true := by
          have h1 : 33 ≤ n := by omega
          have h2 : n ≤ 126 := by omega
          simp [okc, h61, h1, h2]
        rw [piece, if_pos ho]; rfl
      · rename (({ cps := #[n] } : Str) != Str.ofString "=") = false => a3
        refine piece_hex hn256 ?_
        have h61 : n = 61 := by
          rw [bne_eq_false_iff_eq, S_eq] at a3
          exact (List.cons.inj (S_inj (a := [n]) (b := [61]) a3)).1
        rw [h61]; rfl
      · refine piece_hex hn256 ?_
        simp [okc]; omega
      · refine piece_hex hn256 ?_
        simp [okc]; omega
    · intro c1 u1 h1 tk1 hP1 F1 N1
      dsimp only
      have hsz : (S line).cps.size = line.length := by rw [S_size]
      rw [hsz, List.take_length] at hP1
      have hj := joinL_flat (line.map piece)
      have hfl := flat_len line
      have hok : (joinL [] (line.map piece)).length + (line.map piece).length + ([] : List Nat).length * (line.map piece).length ≤ 100000 := by rw [hj, List.length_map]; simp only [List.length_nil]; omega
      have hjl : (S (joinL [] (line.map piece))).length ≤ 1000 := by rw [S_len, hj]; omega
      k_steps
      rename_i t9 tk9 _ _ F' N'
      unfold Halt
      refine each_list (l := pc) (vs := c1.1.toList) (nn := c1.2) (σ := Array Value × Nat × Nat × Tok × List Nat × Tok) (fun c2 => (acc, listOf c2.1 c2.2.1) :: ((pc, listOf c1.1 c1.2) :: (D, listOf vs.toArray 0) :: own))
        (fun c2 => [(Str.ofString "left", .int c2.2.2.1 c2.2.2.2.1), (Str.ofString "row", .str (S c2.2.2.2.2.1) c2.2.2.2.2.2), (Str.ofString "rows", .ref acc), (Str.ofString "figures", .str (Str.ofString "0123456789ABCDEF") (s.toks + 2)), (Str.ofString "width", .int W tw)])
        (fun j c2 => (∃ done : List (List Nat), StrsAre c2.1.toList (done.map S) ∧ done ++ lawLoop W c2.2.2.1 c2.2.2.2.2.1 ((line.map piece).drop j) = ((linesL x).take i).flatMap (rowsOf W) ++ rowsOf W line) ∧ c2.2.2.1 = c2.2.2.2.2.1.length + ((line.map piece).drop j).flatten.length ∧ c2.2.2.1 ≤ 54)
        (c.1, c.2, (S (joinL [] (line.map piece))).length, tk9 + 1, [], tk) rfl (fun c => .tail _ (.head _)) (fun c => rfl) F' (fun p hp => N' p ?_) ?_ ⟨⟨_, hP, ?_⟩, ?_, ?_⟩ ?_ ?_
      · rcases List.mem_cons.mp hp with rfl | hp
        · exact .tail _ (.head _)
        · rcases List.mem_cons.mp hp with rfl | hp
          · exact .head _
          · exact .tail _ (.tail _ hp)
      · intro p hp
        simp only [List.mem_cons, List.not_mem_nil, or_false] at hp
        rcases hp with rfl | rfl | rfl | rfl | rfl <;> rfl
      · rw [List.drop_zero, S_len, hj]; rfl
      · rw [List.drop_zero, S_len, hj]; simp
      · show (S (joinL [] (line.map piece))).length ≤ 54
        rw [S_len, hj]; omega
      · rintro ⟨rs, rn, left, tl, row, tr⟩ j v u2 h2 tk2 own2 hv2 hoff2 ⟨⟨done, hD, hE⟩, hL, h54⟩ F2 N2
        dsimp only at hD hE hL h54 F2 N2
        obtain ⟨y, t2, hy, rfl⟩ := strs_at hP1 hv2
        obtain ⟨pz, hpz, rfl⟩ : ∃ pz, (line.map piece)[j]? = some pz ∧ y = S pz := by
          rw [List.getElem?_map] at hy
          cases e : (line.map piece)[j]? with
          | none => rw [e] at hy; cases hy
          | some z => rw [e] at hy; exact ⟨z, rfl, (Option.some.inj hy).symm⟩
        have hne2 : ∀ p ∈ ((pc, listOf c1.1 c1.2) :: (D, listOf vs.toArray 0) :: own) ++ own2, p.1 ≠ acc := by
          intro p hp
          rcases List.mem_append.mp hp with h | h
          · rcases List.mem_cons.mp h with rfl | h
            · exact Nat.ne_of_gt (l3 _ (.head _))
            · exact hne p h
          · exact OwnOff.ne hoff2 (.head _) p h
        have hsz2 : rs.size ≤ 1000 := by
          have h1 := strs_len hD
          have h2 := congrArg List.length hE
          rw [Array.length_toList, List.length_map] at h1
          rw [List.length_append] at h2; omega
        have hr1 : (S row).length ≤ 54 := by rw [S_len]; omega
        have hp1 : (S pz).length ≤ 3 := by
          obtain ⟨z, _, e⟩ := List.mem_map.mp (List.mem_of_getElem? hpz)
          rw [S_len, ← e]; exact piece_len3 z
        have hdr := drop_get hpz
        rw [hdr, List.flatten_cons, List.length_append] at hL
        rw [hdr, lawLoop] at hE
        have hsr := S_len row
        have hsp := S_len pz
        have hrp : S row ++ S pz = S (row ++ pz) := S_append _ _
        k_steps
        · rename Fr _ _ _ _ => F9
          rename News _ _ _ _ => N9
          have hle : row.length ≤ left := by omega
          have hleft : ((left : Int) - ((S row).length : Nat)) = ((left - row.length : Nat) : Int) := by rw [S_len]; omega
          have hemp : Str.ofString "" ++ S pz = S pz := by rw [S_nil, S_append]; rfl
          rw [if_pos ⟨by omega, by omega⟩] at hE
          refine tend (rs.push (.str (S row ++ Str.ofString "=") _), rn + 1, left - row.length, _, pz, _) F9 N9 sub_left sub_right (all5 (congrArg (fun z => some (Value.int z _)) hleft) (congrArg (fun z => some (Value.str z _)) hemp) rfl rfl rfl) ⟨⟨done ++ [row ++ [61]], ?_, ?_⟩, ?_, ?_⟩
          · rw [S_eq, S_append, List.map_append]; exact strs_push hD
          · rw [List.append_assoc]; exact hE
          · show left - row.length = pz.length + _; omega
          · show left - row.length ≤ 54; omega
        all_goals
          rename Fr _ _ _ _ => F9
          rename News _ _ _ _ => N9
          refine tend (rs, rn, left, tl, row ++ pz, _) F9 N9 (fun p hp => List.mem_append_left _ hp) (fun p hp => List.mem_append_right _ hp) (all5 rfl (congrArg (fun z => some (Value.str z _)) hrp) rfl rfl rfl) ⟨⟨done, hD, ?_⟩, ?_, h54⟩
        · rw [if_neg (by omega)] at hE; exact hE
        · show left = (row ++ pz).length + _; rw [List.length_append]; omega
        · rw [if_neg (by omega)] at hE; exact hE
        · show left = (row ++ pz).length + _; rw [List.length_append]; omega
      · rintro ⟨rs, rn, left, tl, row, tr⟩ u2 h2 tk2 ⟨⟨done, hD, hE⟩, hL, h54⟩ F2 N2
        dsimp only at hD hE hL h54 F2 N2
        dsimp only
        have hne2 : ∀ p ∈ ((pc, listOf c1.1 c1.2) :: (D, listOf vs.toArray 0) :: own), p.1 ≠ acc := by
          intro p h
          rcases List.mem_cons.mp h with rfl | h
          · exact Nat.ne_of_gt (l3 _ (.head _))
          · exact hne p h
        have hsz2 : rs.size ≤ 1000 := by
          have h1 := strs_len hD
          have h2 := congrArg List.length hE
          rw [Array.length_toList, List.length_map] at h1
          rw [List.length_append] at h2; omega
        have hpl := strs_len hP1
        rw [List.length_map] at hpl
        rw [hpl, List.drop_length, lawLoop] at hE
        k_steps
        rename Fr _ _ _ _ => F9
        rename News _ _ _ _ => N9
        refine tend (rs.push (.str (S row) tr), rn + 1) F9 N9 ?_ ?_ ?_ ?_
        · intro p hp
          rcases List.mem_cons.mp hp with rfl | hp
          · exact .head _
          · exact (List.mem_singleton.mp hp) ▸ .tail _ (.tail _ (.head _))
        · intro p hp
          exact .tail _ (.tail _ (.tail _ hp))
        · intro p hp
          simp only [List.mem_cons, List.not_mem_nil, or_false] at hp
          rcases hp with rfl | rfl | rfl <;> rfl
        · show StrsAre _ ((((linesL x).take (i + 1)).flatMap (rowsOf W)).map S)
          rw [List.take_add_one, hline, List.flatMap_append]
          have e : (some line).toList.flatMap (rowsOf W) = rowsOf W line := by simp
          rw [e, ← hE, List.map_append]
          exact strs_push hD
  · intro c u h tk hP F N
    dsimp only
    k_steps
    rw [hvl, List.take_length] at hP
    rename News _ _ _ _ => N9
    exact hret _ _ _ _ _ (Fr.keep (by assumption)) ⟨News.get N9 (.head _), (N9 _ (.head _)).2.2⟩ hP
end Mine
end
section
namespace Mine
open PySem PySem.Spec PySem.Calls PyProof.Rows
/-- a text of the law's -/
noncomputable def TextOk (x : List Nat) : Prop := ∀ c ∈ x, Sg c ∧ c ≠ 9 ∧ c ≠ 13 ∧ c ≠ 32
noncomputable def enc (l : List Nat) : List Nat := l.flatMap piece
theorem enc_flat (l : List Nat) : enc l = (l.map piece).flatten := by rw [enc, List.flatMap_def]
theorem enc_cons (c : Nat) (l : List Nat) : enc (c :: l) = piece c ++ enc l := by rw [enc, List.flatMap_cons]; rfl
theorem joinL_pre (sep p r : List Nat) (rs : List (List Nat)) : joinL sep ((p ++ r) :: rs) = p ++ joinL sep (r :: rs) := by
  cases rs with
  | nil => rfl
  | cons a b => rw [joinL, joinL, List.append_assoc, List.append_assoc, List.append_assoc]
theorem trans_len1 (c : Nat) : 1 ≤ (trans c).length ∧ (trans c).length ≤ 3 := by
  unfold trans
  split
  · simp
  · exact piece_len c
theorem trans_len : ∀ x : List Nat, (x.flatMap trans).length ≤ 3 * x.length
  | [] => by simp
  | a :: l => by rw [List.flatMap_cons, List.length_append, List.length_cons]; have := trans_len1 a; have := trans_len l; omega
theorem trans_pos {x : List Nat} (h : x ≠ []) : 1 ≤ (x.flatMap trans).length := by
  obtain ⟨c, t, rfl⟩ := List.exists_cons_of_ne_nil h
  have := trans_len1 c
  rw [List.flatMap_cons, List.length_append]; omega
theorem trans_lines : ∀ x, TextOk x → x.flatMap trans = joinL [10] ((linesL x).map enc)
  | [], _ => rfl
  | c :: t, h => by
    have ih := trans_lines t fun d hd => h d (.tail _ hd)
    have hc := h c (.head _)
    rw [List.flatMap_cons, linesL, ih]
    by_cases h10 : c = 10
    · subst h10
      rw [if_pos rfl, List.map_cons, joinL_cons (by rw [ne_eq, List.map_eq_nil_iff]; exact linesL_ne t)]; rfl
    · rw [if_neg h10]
      have ht : trans c = piece c := by unfold trans; rw [if_neg (by omega)]
      rw [ht]
      split
      · rename_i e; exact absurd e (linesL_ne t)
      · rename_i r rs e
        rw [e, List.map_cons, List.map_cons, enc_cons, joinL_pre]
theorem line_sg {x : List Nat} (h : TextOk x) : ∀ l ∈ linesL x, ∀ c ∈ l, Sg c := fun l hl c hc => (h c (linesL_mem x l hl c hc)).1
theorem flat_prn {r : List Nat} (h : ∀ c ∈ r, 33 ≤ c ∧ c ≤ 126 ∧ c ≠ 44 ∧ c ≠ 59) : Flat r := by
  have key : (List.range 127).all (fun c => decide (c < 33) || !Unicode.isLineBreak c) = true := by decide +kernel
  intro c hc
  have h1 := List.all_eq_true.mp key c (List.mem_range.mpr (by have := h c hc; omega))
  have h2 := h c hc
  rw [decide_eq_false (by omega), Bool.false_or] at h1
  simpa using h1
theorem enc_prn {l : List Nat} (h : ∀ c ∈ l, Sg c) : ∀ c ∈ enc l, 33 ≤ c ∧ c ≤ 126 ∧ c ≠ 44 ∧ c ≠ 59 := by
  intro c hc
  obtain ⟨a, ha, hc⟩ := List.mem_flatMap.mp hc
  exact piece_print (h a ha) c hc
theorem lines_flat {x : List Nat} (h : TextOk x) : ∀ r ∈ (linesL x).map enc, Flat r := by
  intro r hr
  obtain ⟨l, hl, rfl⟩ := List.mem_map.mp hr
  exact flat_prn (enc_prn (line_sg h l hl))
theorem prog_rows {l : List Nat} {W : Nat} (h : ∀ c ∈ l, Sg c) (hw : 4 ≤ W) : progLoop W (enc l) = rowsOf W l := by
  have := prog_eq_law hw (l.map piece) [] (fun p hp => by
    obtain ⟨c, hc, rfl⟩ := List.mem_map.mp hp
    exact isPiece_piece (h c hc).1) Whole.nil (fun _ => Nat.zero_le _)
  rw [List.nil_append, ← enc_flat] at this
  rw [this, rowsOf, ← enc_flat]
theorem all_rows {x : List Nat} {W : Nat} (h : TextOk x) (hw : 4 ≤ W) : ((linesL x).map enc).flatMap (progLoop W) = allRows W x := by
  rw [allRows, List.flatMap_def, List.flatMap_def, List.map_map]
  congr 1
  exact List.map_congr_left fun l hl => prog_rows (line_sg h l hl) hw
theorem trimL_snoc : ∀ (i : List (List Nat)) (z : List Nat), trimL (i ++ [z]) = if z = [] then i else i ++ [z]
  | [], z => rfl
  | [a], z => by rw [List.singleton_append, trimL, trimL]; split <;> rfl
  | a :: b :: i, z => by
    have ih := trimL_snoc (b :: i) z
    rw [List.cons_append] at ih
    rw [List.cons_append, List.cons_append, trimL, ih]
    split <;> rfl
/-- the last sign tells whether a row was lost -/
theorem last_rows {x : List Nat} {W : Nat} (h : TextOk x) (hne : x ≠ []) (hw : 4 ≤ W) : ∃ c, (x.flatMap trans).getLast? = some c ∧
    ((c = 10 ∧ (trimL ((linesL x).map enc)).flatMap (progLoop W) ++ [[]] = allRows W x) ∨ (c ≠ 10 ∧ c ≠ 13 ∧ (trimL ((linesL x).map enc)).flatMap (progLoop W) = allRows W x)) := by
  rw [trans_lines x h, ← all_rows h hw]
  have hL : (linesL x).map enc ≠ [] := by rw [ne_eq, List.map_eq_nil_iff]; exact linesL_ne x
  have hx0 : x.flatMap trans ≠ [] := by
    obtain ⟨c, t, rfl⟩ := List.exists_cons_of_ne_nil hne
    have : 1 ≤ (trans c).length := by
      unfold trans
      split
      · simp
      · exact (piece_len c).1
    intro e
    have := congrArg List.length e
    rw [List.flatMap_cons, List.length_append, List.length_nil] at this
    omega
  rw [trans_lines x h] at hx0
  have hp : ∀ r ∈ (linesL x).map enc, ∀ c ∈ r, c ≠ 10 ∧ c ≠ 13 := by
    intro r hr c hc
    obtain ⟨l, hl, rfl⟩ := List.mem_map.mp hr
    have := enc_prn (line_sg h l hl) c hc
    omega
  generalize (linesL x).map enc = L at *
  have hd : L = L.dropLast ++ [L.getLast hL] := (List.dropLast_concat_getLast hL).symm
  generalize L.getLast hL = z at hd
  generalize L.dropLast = i at hd
  subst hd
  have hj : ∀ (i : List (List Nat)), i ≠ [] → joinL [10] (i ++ [z]) = joinL [10] i ++ [10] ++ z := by
    intro i
    induction i with
    | nil => intro h; exact absurd rfl h
    | cons a i ih =>
      intro _
      cases i with
      | nil => rfl
      | cons b i =>
        have e1 : joinL [10] (a :: (b :: i ++ [z])) = a ++ [10] ++ joinL [10] (b :: i ++ [z]) := joinL_cons (by simp)
        have e2 : joinL [10] (a :: b :: i) = a ++ [10] ++ joinL [10] (b :: i) := joinL_cons (by simp)
        rw [List.cons_append, e1, ih (by simp), e2]; simp only [List.append_assoc]
  rw [trimL_snoc]
  by_cases hz : z = []
  · subst hz
    have hi : i ≠ [] := by rintro rfl; exact hx0 rfl
    refine ⟨10, by rw [hj i hi, List.append_nil, List.getLast?_append]; rfl, .inl ⟨rfl, ?_⟩⟩
    rw [if_pos rfl, List.flatMap_append]
    have : ([[]] : List (List Nat)).flatMap (progLoop W) = [[]] := by
      rw [List.flatMap_cons, List.flatMap_nil, List.append_nil, progLoop_short (Nat.zero_le _)]
    rw [this]
  · obtain ⟨c, hc⟩ : ∃ c, z.getLast? = some c := ⟨_, List.getLast?_eq_some_getLast hz⟩
    refine ⟨c, ?_, .inr ⟨?_, ?_, ?_⟩⟩
    · by_cases hi : i = []
      · subst hi; exact hc
      · rw [hj i hi, List.getLast?_append, hc]; rfl
    · exact (hp z (by simp) c (List.mem_of_getLast? hc)).1
    · exact (hp z (by simp) c (List.mem_of_getLast? hc)).2
    · rw [if_neg hz]
theorem progLoop_len (w : Nat) : ∀ (n : Nat) (r : List Nat), r.length ≤ n → (progLoop w r).length ≤ r.length + 1
  | 0, r, h => by
    have : r = [] := by cases r with | nil => rfl | cons a b => simp at h
    subst this
    rw [progLoop_short (Nat.zero_le _)]; simp
  | n + 1, r, h => by
    rw [progLoop.eq_1]
    split
    · rename_i hl
      split
      · have := progLoop_len w n (r.drop (w - 3)) (by rw [List.length_drop]; omega)
        rw [List.length_drop] at this
        rw [List.length_cons]; omega
      · split
        · have := progLoop_len w n (r.drop (w - 2)) (by rw [List.length_drop]; omega)
          rw [List.length_drop] at this
          rw [List.length_cons]; omega
        · have := progLoop_len w n (r.drop (w - 1)) (by rw [List.length_drop]; omega)
          rw [List.length_drop] at this
          rw [List.length_cons]; omega
    · simp
theorem trimL_sub : ∀ (L : List (List Nat)), (∀ r ∈ trimL L, r ∈ L) ∧ (trimL L).length ≤ L.length
  | [] => ⟨fun _ h => h, Nat.le_refl _⟩
  | [r] => by
    rw [trimL]
    split
    · exact ⟨fun z (hz : z ∈ ([] : List (List Nat))) => absurd hz List.not_mem_nil, Nat.zero_le _⟩
    · exact ⟨fun _ h => h, Nat.le_refl _⟩
  | r :: r2 :: rs => by
    obtain ⟨h1, h2⟩ := trimL_sub (r2 :: rs)
    rw [trimL]
    refine ⟨fun z hz => ?_, by rw [List.length_cons, List.length_cons]; omega⟩
    rcases List.mem_cons.mp hz with rfl | hz
    · exact .head _
    · exact .tail _ (h1 z hz)
theorem trim_facts {x : List Nat} (ok : TextOk x) (hx : x.length ≤ 18) : (∀ r ∈ trimL ((linesL x).map enc), r.length ≤ 54 ∧ ∀ c ∈ r, 33 ≤ c ∧ c ≤ 126) ∧ (trimL ((linesL x).map enc)).length ≤ 19 := by
  obtain ⟨h1, h2⟩ := trimL_sub ((linesL x).map enc)
  refine ⟨fun r hr => ?_, ?_⟩
  · obtain ⟨l, hl, rfl⟩ := List.mem_map.mp (h1 r hr)
    refine ⟨?_, fun c hc => ?_⟩
    · have h3 := flat_len l
      rw [← enc_flat] at h3
      have := (linesL_short x).1 l hl
      omega
    · have := enc_prn (line_sg ok l hl) c hc; omega
  · rw [List.length_map] at h2
    have := (linesL_short x).2
    omega
/-- the while's turns, as places in the row -/
theorem prog_at {w : Nat} {r : List Nat} {i : Nat} (hw : 4 ≤ w) (hi : w < r.length - i) : progLoop w (r.drop i) =
    if r[i + w - 3]? = some 61 then ((r.drop i).take (w - 2)) :: progLoop w (r.drop (i + w - 3))
    else if r[i + w - 2]? = some 61 then ((r.drop i).take (w - 1)) :: progLoop w (r.drop (i + w - 2))
    else ((r.drop i).take (w - 1) ++ [61]) :: progLoop w (r.drop (i + w - 1)) := by
  rw [progLoop.eq_1, dif_pos ⟨by rw [List.length_drop]; omega, hw⟩]
  simp only [List.getElem?_drop, List.drop_drop]
  rw [show i + (w - 3) = i + w - 3 by omega, show i + (w - 2) = i + w - 2 by omega, show i + (w - 1) = i + w - 1 by omega]
theorem progLoop_row (w : Nat) : ∀ (n : Nat) (r : List Nat), r.length ≤ n → ∀ z ∈ progLoop w r, z.length ≤ r.length + 1
  | 0, r, h => by
    have : r = [] := by cases r with | nil => rfl | cons a b => simp at h
    subst this
    rw [progLoop_short (Nat.zero_le _)]
    intro z hz
    rw [List.mem_singleton.mp hz]; simp
  | n + 1, r, h => by
    rw [progLoop.eq_1]
    split
    · rename_i hl
      have key : ∀ (a : List Nat) (k : Nat), 1 ≤ k → a.length ≤ r.length + 1 → ∀ z ∈ a :: progLoop w (r.drop k), z.length ≤ r.length + 1 := by
        intro a k hk ha z hz
        rcases List.mem_cons.mp hz with rfl | hz
        · exact ha
        · have := progLoop_row w n (r.drop k) (by rw [List.length_drop]; omega) z hz
          rw [List.length_drop] at this; omega
      split
      · exact key _ _ (by omega) (by rw [List.length_take]; omega)
      · split
        · exact key _ _ (by omega) (by rw [List.length_take]; omega)
        · exact key _ _ (by omega) (by rw [List.length_append, List.length_take]; simp; omega)
    · intro z hz
      rw [List.mem_singleton.mp hz]; omega
theorem joinL_len {sep : List Nat} {k : Nat} (hs : sep.length ≤ 2) : ∀ rows : List (List Nat), (∀ r ∈ rows, r.length ≤ k) → (joinL sep rows).length ≤ rows.length * (k + 2)
  | [], _ => by simp [joinL]
  | [r], h => by
    have := h r (.head _)
    simp [joinL]; omega
  | r :: r2 :: rs, h => by
    have h1 := h r (.head _)
    have h2 := joinL_len hs (r2 :: rs) fun z hz => h z (.tail _ hz)
    rw [joinL_cons (by simp), List.length_append, List.length_append, List.length_cons, Nat.succ_mul]; omega
theorem all_len {x : List Nat} {W : Nat} (ok : TextOk x) (hx : x.length ≤ 18) (h4 : 4 ≤ W) : (∀ r ∈ allRows W x, r.length ≤ 55) ∧ (allRows W x).length ≤ 1045 := by
  rw [← all_rows ok h4]
  have h54 : ∀ r ∈ (linesL x).map enc, r.length ≤ 54 := by
    intro r hr
    obtain ⟨l, hl, rfl⟩ := List.mem_map.mp hr
    have h3 := flat_len l
    rw [← enc_flat] at h3
    have := (linesL_short x).1 l hl
    omega
  refine ⟨fun r hr => ?_, ?_⟩
  · obtain ⟨l, hl, hr⟩ := List.mem_flatMap.mp hr
    have := progLoop_row W _ l (Nat.le_refl _) r hr
    have := h54 l hl
    omega
  · have h1 := flatMap_len (k := 55) (f := progLoop W) ((linesL x).map enc) fun z hz => by
      have h1 := progLoop_len W _ z (Nat.le_refl _)
      have h2 := h54 z hz
      omega
    rw [List.length_map] at h1
    have := (linesL_short x).2
    omega
theorem eol_len {e : List Nat} (h : IsEol e) : 1 ≤ e.length ∧ e.length ≤ 2 := by rcases h with rfl | rfl <;> simp
theorem all_fits {x e : List Nat} {W : Nat} (ok : TextOk x) (hx : x.length ≤ 18) (h4 : 4 ≤ W) (he : IsEol e) : (joinL e (allRows W x)).length ≤ 59565 := by
  obtain ⟨h1, h2⟩ := all_len ok hx h4
  have h3 := joinL_len (eol_len he).2 _ h1
  have := Nat.mul_le_mul_right 57 h2
  omega
theorem item_is {r : List Nat} {i : Int} {j : Nat} (h : j < r.length) (e : i = (j : Int)) : (Txt.item (S r) i == Str.ofString "=") = decide (r[j]? = some 61) := by
  have hj : r[j]? = some r[j] := List.getElem?_eq_getElem h
  rw [item_at (i := i) (c := r[j]) (by omega) (by rw [e, Int.toNat_natCast]; exact hj), S_eq, S_beq, hj]
  simp
theorem blank_not {r : List Nat} (h0 : r ≠ []) (h : ∀ c ∈ r, 33 ≤ c ∧ c ≤ 126) : (Builtin.Str.occurrences (Str.ofString " \t") (Txt.item (S r) (-1)) 0 (Str.ofString " \t").length 1).isEmpty = true := by
  obtain ⟨c, hc⟩ : ∃ c, r.getLast? = some c := ⟨_, List.getLast?_eq_some_getLast h0⟩
  have := h c (List.mem_of_getLast? hc)
  rw [item_last hc, show Str.ofString " \t" = S [32, 9] by decide +kernel, occ_none_iff]
  simp; omega
theorem crlf_in {y : List Nat} {c : Nat} (hc : y.getLast? = some c) : (Builtin.Str.occurrences (Str.ofString "\r\n") (Txt.item (S y) (-1)) 0 (Str.ofString "\r\n").length 1).isEmpty = !decide (c = 13 ∨ c = 10) := by
  rw [item_last hc, show Str.ofString "\r\n" = S [13, 10] by decide +kernel, occ_none_iff]
  simp
end Mine
end
section
open PySem PySem.Spec PySem.Calls PySem.W PyProof.Rows
namespace Mine
local macro_rules | `(tactic| walk_at "exec For Name Call cons nil") => `(tactic| ((k_here; (rename Fr _ _ _ _ => lF'); (with_reducible refine' For_invVF lF' ?k1 ?k2 ?_ ?k4 ?k5); (case k1 => exact rfl); (case k2 => exact rfl); (case k4 => (intro _; exact rfl)); (case k5 => passes_own); k_whole)))
local macro_rules | `(tactic| walk_at "pyIter ref") => `(tactic| (refine halt ?_))
local macro_rules | `(tactic| walk_at "exec While") => `(tactic| (k_here; refine halt ?_))
local macro_rules | `(tactic| walk_at "call builtin:str.splitlines") => `(tactic| (k_here; refine lines_call (by k_asm) (by k_asm) ‹_› ?_; intro D' vs' h' tk' e' F' N' l1; (try k_lt l1); (try k_sweep)))
local macro_rules | `(tactic| walk_at "truthy str") => `(tactic| (k_here; first | (refine str_yes ‹_› ‹_› ?_; intro tk') | (refine str_no ‹_› ?_; intro tk') | refine halt ?_))
local macro_rules | `(tactic| walk_at "getMethod str") => `(tactic| (k_here; refine translate_method ?_))
local macro_rules | `(tactic| walk_at "call builtin:str.translate") => `(tactic| (k_here; refine translate_map ‹_› (by k_asm) ‹_› ‹_› ‹_› ‹_› ?_; intro tk' k'))
local macro_rules | `(tactic| walk_at "getAttr ref") => `(tactic| (k_here; refine append_bind (by k_asm) (by k_asm) (by rename News _ _ _ _ => nM'; exact News.get nM' (.head _)) ?_; intro q' h' tk' F' N' l1; (try k_lt l1); (try k_sweep)))
local macro_rules | `(tactic| walk_at "callWith ref") => `(tactic| (k_here; refine' callWith_boundB ?k1 ?k2 ?_; (case k1 => k_asm); (case k2 => first | assumption | k_mem); k_whole))
local macro_rules | `(tactic| walk_at "And") => `(tactic| ((with_reducible show StandsB _ _ _ ∧ _); rename News _ _ _ _ => nM'; (first | refine ⟨News.get nM' ‹_›, ?_⟩ | refine ⟨News.get nM' (by k_mem), ?_⟩); clear nM'; (try dsimp only [List.nil_append, List.cons_append])))
local macro_rules | `(tactic| walk_at "call ref") => `(tactic| (k_here; (rename News _ _ _ _ => nA'); refine call_append_hd (by k_asm) nA' (by first | assumption | k_mem) ‹_› ‹_› ?_; clear nA'; intro h' F' N'; (try k_sweep)))
local macro_rules | `(tactic| walk_at "StandsB") => `(tactic| (rename News _ _ _ _ => nM'; exact News.get nM' (by k_mem)))
local macro_rules | `(tactic| walk_at "call builtin:str.join") => `(tactic| (k_here; refine halt ?_))
theorem all6 {α : Type} {q : α → Prop} {a b c d e f : α} (h1 : q a) (h2 : q b) (h3 : q c) (h4 : q d) (h5 : q e) (h6 : q f) : ∀ p ∈ [a, b, c, d, e, f], q p := by
  intro p hp
  simp only [List.mem_cons, List.not_mem_nil, or_false] at hp
  rcases hp with rfl | rfl | rfl | rfl | rfl | rfl <;> assumption
theorem all9 {α : Type} {q : α → Prop} {a b c d e f g h i : α} (h1 : q a) (h2 : q b) (h3 : q c) (h4 : q d) (h5 : q e) (h6 : q f) (h7 : q g) (h8 : q h) (h9 : q i) : ∀ p ∈ [a, b, c, d, e, f, g, h, i], q p := by
  intro p hp
  simp only [List.mem_cons, List.not_mem_nil, or_false] at hp
  rcases hp with rfl | rfl | rfl | rfl | rfl | rfl | rfl | rfl | rfl <;> assumption
theorem sub3l {α : Type} {a b c : α} {own : List α} : ∀ p ∈ [a, b, c], p ∈ a :: b :: c :: own := by
  intro p hp
  simp only [List.mem_cons, List.not_mem_nil, or_false] at hp ⊢
  rcases hp with rfl | rfl | rfl
  · exact .inl rfl
  · exact .inr (.inl rfl)
  · exact .inr (.inr (.inl rfl))
theorem sub3r {α : Type} {a b c : α} {own : List α} : ∀ p ∈ own, p ∈ a :: b :: c :: own := fun _ h => .tail _ (.tail _ (.tail _ h))
/-- where a long piece stops: the three stops of the loop, each told once -/
theorem stop_facts {r : List Nat} {st W : Nat} (h4 : 4 ≤ W) (hlt : W < r.length - st) :
    ((Txt.item (S r) ((st : Int) + ((W : Int) - 1) - 2) == Str.ofString "=") = decide (r[st + W - 3]? = some 61)) ∧ ((Txt.item (S r) ((st : Int) + ((W : Int) - 1) - 1) == Str.ofString "=") = decide (r[st + W - 2]? = some 61)) ∧
    (Txt.slice (S r) (some (st : Int)) (some ((st : Int) + ((W : Int) - 1) - 1)) = S ((r.drop st).take (W - 2))) ∧ (Txt.slice (S r) (some (st : Int)) (some ((st : Int) + ((W : Int) - 1))) = S ((r.drop st).take (W - 1))) ∧
    ((st : Int) + ((W : Int) - 1) - 2 = ((st + W - 3 : Nat) : Int)) ∧ ((st : Int) + ((W : Int) - 1) - 1 = ((st + W - 2 : Nat) : Int)) ∧ ((st : Int) + ((W : Int) - 1) = ((st + W - 1 : Nat) : Int)) ∧
    (st + W - 3 ≤ r.length ∧ r.length - (st + W - 3) < r.length - st) ∧ (st + W - 2 ≤ r.length ∧ r.length - (st + W - 2) < r.length - st) ∧ (st + W - 1 ≤ r.length ∧ r.length - (st + W - 1) < r.length - st) := by
  have b : (st + W - 3 ≤ r.length ∧ r.length - (st + W - 3) < r.length - st) ∧ (st + W - 2 ≤ r.length ∧ r.length - (st + W - 2) < r.length - st) ∧ (st + W - 1 ≤ r.length ∧ r.length - (st + W - 1) < r.length - st) := by omega
  have z3 : ((st : Int) + ((W : Int) - 1) = ((st + W - 1 : Nat) : Int)) := by omega
  have z2 : ((st : Int) + ((W : Int) - 1) - 1 = ((st + W - 2 : Nat) : Int)) := by omega
  have z1 : ((st : Int) + ((W : Int) - 1) - 2 = ((st + W - 3 : Nat) : Int)) := by omega
  refine ⟨item_is (by clear b z1 z2 z3; omega) z1, item_is (by clear b z1 z2 z3; omega) z2, ?_, ?_, z1, z2, z3, b⟩ <;> clear b z1
  · clear z3; rw [z2, slice_mid (by omega) (by omega) (by omega), show (((st + W - 2 : Nat) : Int) - (st : Int)).toNat = W - 2 by omega, Int.toNat_natCast]
  · clear z2; rw [z3, slice_mid (by omega) (by omega) (by omega), show (((st + W - 1 : Nat) : Int) - (st : Int)).toNat = W - 1 by omega, Int.toNat_natCast]
theorem enc_ (w : World) (p : Program) (loose : List Str) (mean : ExcName → Option Value) (mg mb : Str → Option Value) (dp un : Nat) (fr : Option (List Env)) (gd : Option (List Code)) (s : Shared) (R : Result → Shared → Prop)
    (x eol : List Nat) (tx tw te : Tok) (W : Nat) (X : (hK w.params).In s.heap) (T : Top p loose mean mg mb s.heap)
    (hd : dp + 10 < recursionLimit) (hu : un + 300 < cLine) (hx : x.length ≤ 18) (hne : x ≠ []) (he : IsEol eol) (ok : TextOk x) (hnf : x.all (· < 128) = false) (h4 : 4 ≤ W) (h9 : W ≤ 9)
    (hret : ∀ k h' tk', Stays s.heap h' → R (.ok (.ret (.str (S (joinL eol (allRows W x))) k))) { s with heap := h', toks := tk' }) :
    codeAny (model PySem.Challenge.rw_qu0048_01.prog w) { handled := none, depth := dp, frames := fr, guards := gd, units := un } (.call (.ref 74) ⟨[.str (S x) tx, .int W tw, .str (S eol) te], []⟩) R s := by
  revert X
  k_fill
  intro X
  refine enter (K := hK w.params) (binds := [(Str.ofString "body", .str (S x) tx), (Str.ofString "maxlinelen", .int W tw), (Str.ofString "eol", .str (S eol) te)]) X T.nolimit (by k_is) (by k_is) (by show dp < _; omega) (binds_K X rfl (by k_is) rfl rfl rfl) (locs rfl) ?_ rfl rfl rfl (by decide)
  intro L' h₁ F N
  have X' := X
  have hc : ∀ c ∈ x, c < 256 := fun c hc => (ok c hc).1.1
  have hlen : (S x).length ≤ 1000 := by rw [S_len]; omega
  have hel : (S eol).length ≤ 1000 := by rcases he with rfl | rfl <;> decide
  have hpos : 1 ≤ (S x).length := by rw [S_len]; exact List.length_pos_iff.mpr hne
  have hlen2 : (S (x.flatMap trans)).length ≤ 1000 := by rw [S_len]; exact Nat.le_trans (trans_len x) (by omega)
  have hpos2 : 1 ≤ (S (x.flatMap trans)).length := by rw [S_len]; exact trans_pos hne
  have hlb : Txt.lines (S (x.flatMap trans)) = (trimL ((linesL x).map enc)).map S := by
    rw [trans_lines x ok]
    exact lines_join (.inl rfl) (by rw [ne_eq, List.map_eq_nil_iff]; exact linesL_ne x) (lines_flat ok)
  have hrow := trim_facts ok hx
  have hlast := last_rows ok hne h4
  generalize hrows : trimL ((linesL x).map enc) = rows at hlb hrow hlast
  have hjn : (joinL eol (allRows W x)).length + (allRows W x).length + eol.length * (allRows W x).length ≤ 100000 := by
    have h1 := all_fits ok hx h4 he
    have h2 := (all_len ok hx h4).2
    have h3 := Nat.mul_le_mul_right (allRows W x).length (eol_len he).2
    omega
  k_steps
  rename_i _ _ _ kb _ _ ts k0 _ _ _ acc _ _ _ q _ _ lq _ D vs _ _ hvs F' N' lD
  unfold Halt
  rw [hlb] at hvs
  have hvl : vs.length = rows.length := by rw [strs_len hvs, List.length_map]
  obtain ⟨T1, F'⟩ : ∃ T1, Fr s.heap L' _ (fun y => if y = Str.ofString "append" then some (Value.ref q) else if y = Str.ofString "encoded_body" then some (Value.ref acc) else if y = Str.ofString "maxlinelen1" then some (Value.int (↑W - 1) T1) else
    if y = Str.ofString "soft_break" then some (Value.str (Str.ofString "=" ++ S eol) ts) else if y = Str.ofString "body" then some (Value.str (S (List.flatMap trans x)) kb) else
      List.lookup y [(Str.ofString "body", Value.str (S x) tx), (Str.ofString "maxlinelen", Value.int (↑W) tw), (Str.ofString "eol", Value.str (S eol) te)].reverse) := ⟨_, F'⟩
  refine each_list (σ := Array Value × Nat) (fun c => [(acc, listOf c.1 c.2), (q, boundObj acc), (D, listOf vs.toArray 0)])
    (fun c => [(Str.ofString "append", .ref q), (Str.ofString "encoded_body", .ref acc), (Str.ofString "maxlinelen1", .int (↑W - 1) T1), (Str.ofString "body", .str (S (List.flatMap trans x)) kb), (Str.ofString "maxlinelen", .int W tw), (Str.ofString "eol", .str (S eol) te)])
    (fun i c => StrsAre c.1.toList (((rows.take i).flatMap (progLoop W)).map S)) (#[], 0) rfl (fun c => .tail _ (.tail _ (.head _))) (fun c => rfl) F' (fun p hp => N' p ?_) ?_ .nil ?_ ?_
  · rcases List.mem_cons.mp hp with rfl | hp
    · exact .tail _ (.tail _ (.head _))
    · rcases List.mem_cons.mp hp with rfl | hp
      · exact .tail _ (.head _)
      · exact (List.mem_singleton.mp hp) ▸ .head _
  · intro p hp
    simp only [List.mem_cons, List.not_mem_nil, or_false] at hp
    rcases hp with rfl | rfl | rfl | rfl | rfl | rfl <;> rfl
  · intro c i v u h tk own hv hoff hP F N
    obtain ⟨y, t, hy, rfl⟩ := strs_at hvs hv
    obtain ⟨r, hr, rfl⟩ : ∃ r, rows[i]? = some r ∧ y = S r := by
      rw [List.getElem?_map] at hy
      cases e : rows[i]? with
      | none => rw [e] at hy; cases hy
      | some r => rw [e] at hy; exact ⟨r, rfl, (Option.some.inj hy).symm⟩
    have hr54 := (hrow.1 r (List.mem_of_getElem? hr)).1
    have hsr := S_len r
    have hlr : (S r).length ≤ 1000 := by omega
    have hne : ∀ p ∈ (q, boundObj acc) :: (D, listOf vs.toArray 0) :: own, p.1 ≠ acc := ne_own (Nat.ne_of_gt lq) (ne_own (Nat.ne_of_gt lD.2) (OwnOff.ne hoff (.head _)))
    have hcnt : (((rows.take i).flatMap (progLoop W)) ++ progLoop W r).length ≤ 2000 := by
      have h1 := flatMap_len (k := 55) (f := progLoop W) (rows.take i) fun z hz => by
        have h1 := progLoop_len W _ z (Nat.le_refl _)
        have h2 := (hrow.1 z (List.mem_of_mem_take hz)).1
        omega
      have h2 := progLoop_len W _ r (Nat.le_refl _)
      rw [List.length_take] at h1
      rw [List.length_append]; omega
    k_steps
    unfold Halt
    rename Fr _ _ _ _ => F'
    rename News _ _ _ _ => N'
    refine while_ (σ := Array Value × Nat × Nat × Tok × Tok) (fun c1 => (acc, listOf c1.1 c1.2.1) :: (q, boundObj acc) :: (D, listOf vs.toArray 0) :: own)
      (fun c1 => [(Str.ofString "start", .int c1.2.2.1 c1.2.2.2.1), (Str.ofString "laststart", .int ((S r).length - 1 - W) c1.2.2.2.2), (Str.ofString "line", .str (S r) t), (Str.ofString "append", .ref q), (Str.ofString "encoded_body", .ref acc), (Str.ofString "maxlinelen1", .int (↑W - 1) T1), (Str.ofString "body", .str (S (List.flatMap trans x)) kb), (Str.ofString "maxlinelen", .int W tw), (Str.ofString "eol", .str (S eol) te)])
      (fun c1 => (∃ done : List (List Nat), StrsAre c1.1.toList (done.map S) ∧ done ++ progLoop W (r.drop c1.2.2.1) = (rows.take i).flatMap (progLoop W) ++ progLoop W r) ∧ c1.2.2.1 ≤ r.length)
      (fun c1 => r.length - c1.2.2.1) (c.1, c.2, 0, ?t1, ?t2) F' N' ?hk ⟨⟨_, hP, by rw [List.drop_zero]⟩, Nat.zero_le _⟩ ?turn
    case hk =>
      intro p hp
      simp only [List.mem_cons, List.not_mem_nil, or_false] at hp
      rcases hp with rfl | rfl | rfl | rfl | rfl | rfl | rfl | rfl | rfl <;> rfl
    case turn =>
      rintro ⟨rs, rn, st, ts1, tl⟩ u1 h1 tk1 ⟨⟨done, hD, hE⟩, hst⟩ F1 N1
      dsimp only at hD hE hst F1 N1
      have hsz1 : rs.size ≤ 100000 := by
        have h1 := strs_len hD
        have h2 := congrArg List.length hE
        rw [Array.length_toList, List.length_map] at h1
        rw [List.length_append] at h2; omega
      k_steps
      · rename Fr _ _ _ _ => F9
        rename News _ _ _ _ => N9
        have hlt : W < r.length - st := by omega
        have hpa := prog_at (r := r) (i := st) h4 hlt
        obtain ⟨it2, it1, hs2, hs1, z1, z2, z3, b1, b2, b3⟩ := stop_facts h4 hlt
        rename (Txt.item (S r) (↑st + (↑W - 1) - 2) == Str.ofString "=") = true => e1
        have d1 := it2.symm.trans e1
        rw [hpa, if_pos (of_decide_eq_true d1)] at hE
        refine tend (rs.push (.str (Txt.slice (S r) (some ↑st) (some (↑st + (↑W - 1) - 1))) _), rn + 1, st + W - 3, _, tl) F9 N9 (fun _ h => h) (fun _ h => nomatch h) (all9 (congrArg (fun z => some (Value.int z _)) z1) rfl rfl rfl rfl rfl rfl rfl rfl) ⟨⟨⟨done ++ [(r.drop st).take (W - 2)], ?_, ?_⟩, ?_⟩, ?_⟩
        · rw [hs2, List.map_append]
          exact strs_push hD
        · rw [List.append_assoc]; exact hE
        · exact b1.1
        · exact b1.2
      · rename Fr _ _ _ _ => F9
        rename News _ _ _ _ => N9
        have hlt : W < r.length - st := by omega
        have hpa := prog_at (r := r) (i := st) h4 hlt
        obtain ⟨it2, it1, hs2, hs1, z1, z2, z3, b1, b2, b3⟩ := stop_facts h4 hlt
        rename (Txt.item (S r) (↑st + (↑W - 1) - 2) == Str.ofString "=") = false => e0
        rename (Txt.item (S r) (↑st + (↑W - 1) - 1) == Str.ofString "=") = true => e1
        have d0 := it2.symm.trans e0
        have d1 := it1.symm.trans e1
        rw [hpa, if_neg (of_decide_eq_false d0), if_pos (of_decide_eq_true d1)] at hE
        refine tend (rs.push (.str (Txt.slice (S r) (some ↑st) (some (↑st + (↑W - 1)))) _), rn + 1, st + W - 2, _, tl) F9 N9 (fun _ h => h) (fun _ h => nomatch h) (all9 (congrArg (fun z => some (Value.int z _)) z2) rfl rfl rfl rfl rfl rfl rfl rfl) ⟨⟨⟨done ++ [(r.drop st).take (W - 1)], ?_, ?_⟩, ?_⟩, ?_⟩
        · rw [hs1, List.map_append]
          exact strs_push hD
        · rw [List.append_assoc]; exact hE
        · exact b2.1
        · exact b2.2
      · rename Fr _ _ _ _ => F9
        rename News _ _ _ _ => N9
        have hlt : W < r.length - st := by omega
        have hpa := prog_at (r := r) (i := st) h4 hlt
        obtain ⟨it2, it1, hs2, hs1, z1, z2, z3, b1, b2, b3⟩ := stop_facts h4 hlt
        rename (Txt.item (S r) (↑st + (↑W - 1) - 1) == Str.ofString "=") = false => e1
        rename (Txt.item (S r) (↑st + (↑W - 1) - 2) == Str.ofString "=") = false => e0
        have d0 := it2.symm.trans e0
        have d1 := it1.symm.trans e1
        rw [hpa, if_neg (of_decide_eq_false d0), if_neg (of_decide_eq_false d1)] at hE
        refine tend (rs.push (.str (Txt.slice (S r) (some ↑st) (some (↑st + (↑W - 1))) ++ Str.ofString "=") _), rn + 1, st + W - 1, _, tl) F9 N9 (fun _ h => h) (fun _ h => nomatch h) (all9 (congrArg (fun z => some (Value.int z _)) z3) rfl rfl rfl rfl rfl rfl rfl rfl) ⟨⟨⟨done ++ [(r.drop st).take (W - 1) ++ [61]], ?_, ?_⟩, ?_⟩, ?_⟩
        · rw [hs1, List.map_append, S_eq, S_append]
          exact strs_push hD
        · rw [List.append_assoc]; exact hE
        · exact b3.1
        · exact b3.2
      · unfold Halt
        rw [progLoop_short (by rw [List.length_drop]; omega)] at hE
        by_cases h0 : r = []
        · have hl0 : (S r).length = 0 := by rw [S_len, h0]; rfl
          k_steps
          rename Fr _ _ _ _ => F9
          rename News _ _ _ _ => N9
          refine tend (rs.push (.str (Txt.slice (S r) (some ↑st) none) _), rn + 1) F9 N9 sub3l sub3r ?_ ?_
          · exact all6 rfl rfl rfl rfl rfl rfl
          · rw [slice_from (by omega) (by omega), Int.toNat_natCast, List.take_add_one, hr, List.flatMap_append]
            have e : (some r).toList.flatMap (progLoop W) = progLoop W r := by simp
            rw [e, ← hE, List.map_append]
            exact strs_push hD
        · have hl1 : 1 ≤ (S r).length := by rw [S_len]; exact List.length_pos_iff.mpr h0
          have hbl := blank_not h0 (hrow.1 r (List.mem_of_getElem? hr)).2
          k_steps
          rename Fr _ _ _ _ => F9
          rename News _ _ _ _ => N9
          refine tend (rs.push (.str (Txt.slice (S r) (some ↑st) none) _), rn + 1) F9 N9 sub3l sub3r ?_ ?_
          · exact all6 rfl rfl rfl rfl rfl rfl
          · rw [slice_from (by omega) (by omega), Int.toNat_natCast, List.take_add_one, hr, List.flatMap_append]
            have e : (some r).toList.flatMap (progLoop W) = progLoop W r := by simp
            rw [e, ← hE, List.map_append]
            exact strs_push hD
  · intro c u h tk hP F N
    dsimp only at hP F N ⊢
    have hne : ∀ p ∈ [(q, boundObj acc), (D, listOf vs.toArray 0)], p.1 ≠ acc := ne_own (Nat.ne_of_gt lq) (ne_own (Nat.ne_of_gt lD.2) fun _ h => nomatch h)
    rw [hvl, List.take_length] at hP
    have hsz : c.1.size ≤ 100000 := by
      have h1 := strs_len hP
      have h2 := flatMap_len (k := 55) (f := progLoop W) rows fun z hz => by
        have h1 := progLoop_len W _ z (Nat.le_refl _)
        have h2 := (hrow.1 z hz).1
        omega
      rw [Array.length_toList, List.length_map] at h1
      omega
    obtain ⟨ce, hce, ⟨rfl, hall⟩ | ⟨hc1, hc2, hall⟩⟩ := hlast
    · have hin := crlf_in hce
      rw [decide_eq_true (.inr rfl)] at hin
      simp only [Bool.not_true] at hin
      k_steps
      unfold Halt
      rename Fr _ _ _ _ => F9
      rename News _ _ _ _ => N9
      refine join_S_list (rows := allRows W x) (News.get N9 (.head _)) ?_ hjn ?_
      · rw [← hall, List.map_append]
        exact strs_push hP
      · intro t' tk'
        k_steps
        exact hret _ _ _ F9.keep
    · have hin := crlf_in hce
      rw [decide_eq_false (by omega)] at hin
      simp only [Bool.not_false] at hin
      rw [hall] at hP
      k_steps
      unfold Halt
      rename News _ _ _ _ => N9
      refine join_S_list (rows := allRows W x) (News.get N9 (.head _)) hP hjn ?_
      intro t' tk'
      k_steps
      exact hret _ _ _ (Fr.keep (by assumption))
end Mine
end
section
namespace Mine
open PySem PySem.Spec PySem.Calls PyProof.Rows
noncomputable def rowDec (e : List Nat) (p : List Nat × Bool) : List Nat := p.1 ++ (if p.2 then [] else e)
structure SRow (p : List Nat × Bool) : Prop where
  sg : ∀ c ∈ p.1, Sg c
  ne : p.2 = true → p.1 ≠ []
theorem render_nil {p : List Nat × Bool} (h : SRow p) : render p = [] ↔ p = ([], false) := by
  obtain ⟨s, b⟩ := p
  constructor
  · intro e
    cases b with
    | true => simp [render] at e
    | false =>
      by_cases hs : s = []
      · rw [hs]
      · simp only [render, Bool.false_eq_true, if_false, List.append_nil] at e
        exact absurd e (flat_ne hs)
  · intro e; cases e; rfl
theorem dec_row {e : List Nat} {p : List Nat × Bool} (h : SRow p) : (if render p = [] then e else decR e (render p)) = rowDec e p := by
  by_cases h0 : render p = []
  · rw [if_pos h0, (render_nil h).mp h0]; rfl
  · rw [if_neg h0]
    obtain ⟨s, b⟩ := p
    have hs : s ≠ [] := by
      cases b with
      | true => exact h.ne rfl
      | false => rintro rfl; exact h0 rfl
    obtain ⟨h1, h2⟩ := decR_render e s (fun c hc => (h.sg c hc).1) hs
    cases b with
    | true => rw [h1]; simp [rowDec]
    | false => rw [h2]; rfl
theorem render_prn {p : List Nat × Bool} (h : ∀ c ∈ p.1, Sg c) : AllP (render p) := by
  intro c hc
  obtain ⟨s, b⟩ := p
  simp only [render, List.mem_append, List.mem_flatMap] at hc
  rcases hc with ⟨a, ha, hc⟩ | hc
  · exact piece_print (h a ha) c hc
  · cases b <;> simp at hc
    subst hc; exact ⟨by decide, by decide, by decide, by decide⟩
theorem joinL_snoc (e : List Nat) (z : List Nat) : ∀ (i : List (List Nat)), i ≠ [] → joinL e (i ++ [z]) = joinL e i ++ e ++ z
  | [], h => absurd rfl h
  | [a], _ => rfl
  | a :: b :: i, _ => by
    have ih := joinL_snoc e z (b :: i) (by simp)
    have e1 : joinL e (a :: (b :: i ++ [z])) = a ++ e ++ joinL e (b :: i ++ [z]) := joinL_cons (by simp)
    have e2 : joinL e (a :: b :: i) = a ++ e ++ joinL e (b :: i) := joinL_cons (by simp)
    rw [List.cons_append, e1, ih, e2]; simp only [List.append_assoc]
theorem eol_last {e : List Nat} (h : IsEol e) (l : List Nat) : (l ++ e).getLast? = some 10 := by
  rcases h with rfl | rfl <;> simp
/-- the lines that are read -/
noncomputable def readOf (q : List (List Nat × Bool)) (z : List Nat) : List (List Nat × Bool) := if z = [] then q else q ++ [(z, false)]
theorem read_trim {q : List (List Nat × Bool)} {z : List Nat} : trimL ((q ++ [(z, false)]).map render) = (readOf q z).map render := by
  rw [List.map_append, List.map_cons, List.map_nil, trimL_snoc, readOf]
  by_cases hz : z = []
  · subst hz; simp [render]
  · have : render (z, false) ≠ [] := by simp only [render, Bool.false_eq_true, if_false, List.append_nil]; exact flat_ne hz
    rw [if_neg this, if_neg hz, List.map_append, List.map_cons, List.map_nil]
theorem read_sub {q : List (List Nat × Bool)} {z : List Nat} : ∀ p ∈ readOf q z, p ∈ q ++ [(z, false)] := by
  intro p hp
  unfold readOf at hp
  split at hp
  · exact List.mem_append_left _ hp
  · exact hp
theorem read_last {q : List (List Nat × Bool)} {z e : List Nat} (he : IsEol e) (hs : ∀ c ∈ z, Sg c) (hne : joinL e ((q ++ [(z, false)]).map render) ≠ []) : ∃ c, (joinL e ((q ++ [(z, false)]).map render)).getLast? = some c ∧
    ((c = 10 ∧ (readOf q z).flatMap (rowDec e) = q.flatMap (rowDec e) ++ z) ∨ (c ≠ 10 ∧ c ≠ 13 ∧ (readOf q z).flatMap (rowDec e) = (q.flatMap (rowDec e) ++ z) ++ e)) := by
  rw [List.map_append, List.map_cons, List.map_nil] at hne ⊢
  by_cases hz : z = []
  · subst hz
    have hi : q.map render ≠ [] := by intro h; rw [h] at hne; exact hne rfl
    refine ⟨10, ?_, .inl ⟨rfl, ?_⟩⟩
    · rw [joinL_snoc _ _ _ hi]
      show (joinL e (q.map render) ++ e ++ []).getLast? = some 10
      rw [List.append_nil]; exact eol_last he _
    · rw [readOf, if_pos rfl, List.append_nil]
  · have hr : render (z, false) ≠ [] := by simp only [render, Bool.false_eq_true, if_false, List.append_nil]; exact flat_ne hz
    obtain ⟨c, hc⟩ : ∃ c, (render (z, false)).getLast? = some c := ⟨_, List.getLast?_eq_some_getLast hr⟩
    have hp := render_prn (p := (z, false)) hs c (List.mem_of_getLast? hc)
    unfold Prn at hp
    refine ⟨c, ?_, .inr ⟨by omega, by omega, ?_⟩⟩
    · by_cases hi : q.map render = []
      · rw [hi]; exact hc
      · rw [joinL_snoc _ _ _ hi, List.getLast?_append, hc]; rfl
    · rw [readOf, if_neg hz, List.flatMap_append, List.append_assoc]
      congr 1
      simp [rowDec]
theorem slice_chop {a e : List Nat} (h1 : 1 ≤ e.length) : Txt.slice (S (a ++ e)) none (some (-(e.length : Int))) = S a := by
  have h : Txt.slice (S (a ++ e)) none (some (-(e.length : Int))) = Txt.slice (S (a ++ e)) none (some (-(e.length : Int) + ((S (a ++ e)).length : Int))) :=
    StrLaws.sliceText_neg_hi (S (a ++ e)) none (by omega) (by rw [S_len, List.length_append]; omega)
  rw [h, S_len, slice_to (by rw [List.length_append]; omega) (by rw [List.length_append]; omega)]
  congr 1
  have : (-(e.length : Int) + ((a ++ e).length : Int)).toNat = a.length := by rw [List.length_append]; omega
  rw [this, List.take_left]
theorem ends_S (a e : List Nat) : Txt.endswith (S (a ++ e)) (S e) = true := by
  unfold Txt.endswith
  rw [S_len, S_len, Bool.and_eq_true]
  refine ⟨by simp, ?_⟩
  rw [StrLaws.subAt_eq, S_list, S_list]
  have : (a ++ e).length - e.length = a.length := by simp
  rw [this, List.drop_left, S_len]
  simp
theorem drop_item {r t : List Nat} {i c : Nat} (h : r.drop i = c :: t) : r[i]? = some c ∧ r.drop (i + 1) = t ∧ i < r.length ∧ r.length = i + 1 + t.length := by
  have hl := congrArg List.length h
  rw [List.length_drop, List.length_cons] at hl
  refine ⟨?_, ?_, by omega, by omega⟩
  · have := congrArg List.head? h
    simpa [List.head?_drop] using this
  · have := congrArg List.tail h
    simpa [List.tail_drop] using this
section
variable {prog : Program} {w : World} {A : Around} {E : Value → Shared → Prop} {s : Shared}
theorem rstrip_row {r : List Nat} {t : Tok} {Q : Value → Shared → Prop} (hr : AllP r) (hl : (S r).length ≤ 1000) (h : ∀ k tk, Q (.str (S r) k) { s with toks := tk }) : wpAny (model prog w) A (call (.builtin "str.rstrip") [.str (S r) t]) Q E s :=
  SC.rstrip (fun t' k => by rw [rstrip_S hr]; exact h t' k) (Nat.le_trans hl (by decide))
end
theorem hexd_in {c : Nat} (h : isHexU c) : c ∈ [48, 49, 50, 51, 52, 53, 54, 55, 56, 57, 97, 98, 99, 100, 101, 102, 65, 66, 67, 68, 69, 70] :=
  (show ∀ c : Fin 71, isHexU c.val → c.val ∈ [48, 49, 50, 51, 52, 53, 54, 55, 56, 57, 97, 98, 99, 100, 101, 102, 65, 66, 67, 68, 69, 70] by decide +kernel) ⟨c, by unfold isHexU at h; omega⟩ h
theorem hexd_S : Str.ofString "0123456789abcdefABCDEF" = S [48, 49, 50, 51, 52, 53, 54, 55, 56, 57, 97, 98, 99, 100, 101, 102, 65, 66, 67, 68, 69, 70] := by decide +kernel
theorem hexd_occ {r : List Nat} {i : Int} {j c : Nat} (e : i = (j : Int)) (hj : r[j]? = some c) (h : isHexU c) : (Builtin.Str.occurrences (Str.ofString "0123456789abcdefABCDEF") (Txt.item (S r) i) 0 (Str.ofString "0123456789abcdefABCDEF").length 1).isEmpty = false := by
  rw [item_at (i := i) (c := c) (by omega) (by rw [e, Int.toNat_natCast]; exact hj), hexd_S, occ_none_iff]
  simp only [Bool.not_eq_false', decide_eq_true_eq]
  exact hexd_in h
theorem flat_take {α : Type} {f : α → List Nat} {l : List α} {i : Nat} {p : α} (h : l[i]? = some p) : (l.take (i + 1)).flatMap f = (l.take i).flatMap f ++ f p ∧ ((l.take i).flatMap f ++ f p).length ≤ (l.flatMap f).length := by
  have e : (l.take (i + 1)).flatMap f = (l.take i).flatMap f ++ f p := by
    rw [List.take_add_one, h, List.flatMap_append]; simp
  refine ⟨e, ?_⟩
  rw [← e]
  conv => rhs; rw [← List.take_append_drop (i + 1) l, List.flatMap_append, List.length_append]
  omega
theorem joinL_mem {e : List Nat} : ∀ (rows : List (List Nat)), ∀ r ∈ rows, r.length ≤ (joinL e rows).length
  | [], r, h => nomatch h
  | [a], r, h => by rw [List.mem_singleton.mp h]; simp [joinL]
  | a :: b :: i, r, h => by
    have e2 : joinL e (a :: b :: i) = a ++ e ++ joinL e (b :: i) := joinL_cons (by simp)
    rw [e2, List.length_append, List.length_append]
    rcases List.mem_cons.mp h with rfl | h
    · omega
    · have := joinL_mem (e := e) (b :: i) r h; omega
theorem render_cons (c : Nat) (s : List Nat) (b : Bool) : render (c :: s, b) = piece c ++ render (s, b) := by simp [render]
theorem ne_eq_fact {r : List Nat} {i : Int} {j c : Nat} (e : i = (j : Int)) (h : r[j]? = some c) : (Txt.item (S r) i != Str.ofString "=") = !decide (c = 61) := by
  rw [item_at (i := i) (c := c) (by omega) (by rw [e, Int.toNat_natCast]; exact h), S_eq, bne, S_beq]
  simp
theorem item_nat {r : List Nat} {j c : Nat} (h : r[j]? = some c) : Txt.item (S r) (j : Int) = S [c] := item_at (Int.natCast_nonneg j) (by rw [Int.toNat_natCast]; exact h)
theorem all3 {α : Type} {q : α → Prop} {a b c : α} (h1 : q a) (h2 : q b) (h3 : q c) : ∀ p ∈ [a, b, c], q p := by
  intro p hp
  simp only [List.mem_cons, List.not_mem_nil, or_false] at hp
  rcases hp with rfl | rfl | rfl <;> assumption
theorem all6' {α : Type} {q : α → Prop} {a b c d e f : α} (h1 : q a) (h2 : q b) (h3 : q c) (h4 : q d) (h5 : q e) (h6 : q f) : ∀ p ∈ [a, b, c, d, e, f], q p := by
  intro p hp
  simp only [List.mem_cons, List.not_mem_nil, or_false] at hp
  rcases hp with rfl | rfl | rfl | rfl | rfl | rfl <;> assumption
end Mine
end
section
open PySem PySem.Spec PySem.Calls PySem.W PyProof.Rows
namespace Mine
local macro_rules | `(tactic| walk_at "exec For Name Call cons nil") => `(tactic| ((k_here; (rename Fr _ _ _ _ => lF'); (with_reducible refine' For_invVF lF' ?k1 ?k2 ?_ ?k4 ?k5); (case k1 => exact rfl); (case k2 => exact rfl); (case k4 => (intro _; exact rfl)); (case k5 => passes_own); k_whole)))
local macro_rules | `(tactic| walk_at "pyIter ref") => `(tactic| (refine halt ?_))
local macro_rules | `(tactic| walk_at "exec While") => `(tactic| (k_here; refine halt ?_))
local macro_rules | `(tactic| walk_at "call builtin:str.splitlines") => `(tactic| (k_here; refine lines_call (by k_asm) (by k_asm) ‹_› ?_; intro D' vs' h' tk' e' F' N' l1; (try k_lt l1); (try k_sweep)))
local macro_rules | `(tactic| walk_at "truthy str") => `(tactic| (k_here; first | (refine str_yes ‹_› ‹_› ?_; intro tk') | (refine str_no ‹_› ?_; intro tk') | refine halt ?_))
local macro_rules | `(tactic| walk_at "call builtin:str.rstrip") => `(tactic| (k_here; refine rstrip_row ‹_› ‹_› ?_; intro k' tk'))
theorem unquote_call {w : World} {p : Program} {loose : List Str} {mean : ExcName → Option Value} {mg mb : Str → Option Value} {A : Around} {s : Shared} {Q : Value → Shared → Prop} {E : Value → Shared → Prop}
    {h₀ : Heap} {L : Addr} {m : Str → Option Value} {news : List (Addr × Obj)} {v : Str} {c : Nat} {t : Tok} (X : (hK w.params).In h₀) (T : Top p loose mean mg mb h₀) (F : Fr h₀ L s.heap m) (N : News h₀ L s.heap news) (hh : A.handled = none)
    (hd : A.depth + 5 < recursionLimit) (hv : v = S [61, hexU (c / 16), hexU (c % 16)]) (hc : c < 256)
    (h : ∀ k h' tk', Fr h₀ L h' m → News h₀ L h' news → Q (.str (S [c]) k) { s with heap := h', toks := tk' }) :
    wpAny (model PySem.Challenge.rw_qu0048_01.prog w) A (call (.ref 54) [.str v t]) Q E s := by
  obtain ⟨hn, dp, fr, gd, un⟩ := A
  cases hh
  subst hv
  exact wpAny_call (unquote_ w p loose mean mg mb dp un fr gd s _ c t (X.keeps F.keep) (T.keeps F.keep) hd hc fun k h' tk' st => h k h' tk' (fr_stays F st) (news_stays N st))
local macro_rules | `(tactic| walk_at "call ref") => `(tactic| (k_here; refine unquote_call ‹_› ‹_› (by k_asm) (by k_asm) rfl (by dsimp only [Around.deeper]; omega) ‹_› ‹_› ?_; intro k' h' tk' F' N'; (try k_sweep)))
theorem dec_ (w : World) (p : Program) (loose : List Str) (mean : ExcName → Option Value) (mg mb : Str → Option Value) (dp un : Nat) (fr : Option (List Env)) (gd : Option (List Code)) (s : Shared) (R : Result → Shared → Prop)
    (q : List (List Nat × Bool)) (z e : List Nat) (tx te : Tok) (X : (hK w.params).In s.heap) (T : Top p loose mean mg mb s.heap)
    (hd : dp + 10 < recursionLimit) (hu : un + 300 < cLine) (he : IsEol e) (hq : ∀ r ∈ q ++ [(z, false)], SRow r) (hne : joinL e ((q ++ [(z, false)]).map render) ≠ []) (hlj : (joinL e ((q ++ [(z, false)]).map render)).length ≤ 1000) (hDl : ((readOf q z).flatMap (rowDec e)).length ≤ 900)
    (hret : ∀ k h' tk', Stays s.heap h' → R (.ok (.ret (.str (S (q.flatMap (rowDec e) ++ z)) k))) { s with heap := h', toks := tk' }) :
    codeAny (model PySem.Challenge.rw_qu0048_01.prog w) { handled := none, depth := dp, frames := fr, guards := gd, units := un } (.call (.ref 82) ⟨[.str (S (joinL e ((q ++ [(z, false)]).map render))) tx, .str (S e) te], []⟩) R s := by
  revert X
  k_fill
  intro X
  refine enter (K := hK w.params) (binds := [(Str.ofString "encoded", .str (S (joinL e ((q ++ [(z, false)]).map render))) tx), (Str.ofString "eol", .str (S e) te)]) X T.nolimit (by k_is) (by k_is) (by show dp < _; omega) (binds_K X rfl (by k_is) rfl rfl rfl) (locs rfl) ?_ rfl rfl rfl (by decide)
  intro L' h₁ F N
  have X' := X
  have hlast := read_last he (fun c hc => (hq (z, false) (by simp)).sg c hc) hne
  have hlb : Txt.lines (S (joinL e ((q ++ [(z, false)]).map render))) = ((readOf q z).map render).map S := by
    rw [← read_trim]
    refine lines_join he (by simp) fun r hr => ?_
    obtain ⟨p, hp, rfl⟩ := List.mem_map.mp hr
    exact flat_prn (render_prn (hq p hp).sg)
  have hrd : ∀ r ∈ readOf q z, SRow r := fun r hr => hq r (read_sub r hr)
  have hrl : ∀ r ∈ readOf q z, (render r).length ≤ 1000 := fun r hr => Nat.le_trans (joinL_mem _ _ (List.mem_map_of_mem (read_sub r hr))) hlj
  have hel : (S e).length ≤ 1000 := by have := eol_len he; rw [S_len]; omega
  generalize joinL e ((q ++ [(z, false)]).map render) = J at *
  generalize hrows : readOf q z = rows at *
  have hlen : (S J).length ≤ 1000 := by rw [S_len]; omega
  have hpos : 1 ≤ (S J).length := by rw [S_len]; exact List.length_pos_iff.mpr hne
  k_steps
  rename_i _ _ D vs _ _ hvs F' N' _
  unfold Halt
  rw [hlb] at hvs
  rw [S_nil] at F'
  have hvl : vs.length = rows.length := by rw [strs_len hvs, List.length_map, List.length_map]
  refine each_list (σ := List Nat × Tok) (fun _ => [(D, listOf vs.toArray 0)]) (fun c => [(Str.ofString "decoded", .str (S c.1) c.2), (Str.ofString "encoded", .str (S J) tx), (Str.ofString "eol", .str (S e) te)])
    (fun i c => c.1 = (rows.take i).flatMap (rowDec e)) ([], ?t0) rfl (fun c => .head _) (fun c => rfl) F' N' ?hk rfl ?turn ?done
  case hk =>
    intro p hp
    simp only [List.mem_cons, List.not_mem_nil, or_false] at hp
    rcases hp with rfl | rfl | rfl <;> rfl
  case turn =>
    rintro ⟨D0, t0⟩ i v u h tk own hv hoff hP F N
    dsimp only at hP F N
    obtain ⟨y, t, hy, rfl⟩ := strs_at hvs hv
    obtain ⟨p0, hp0, rfl⟩ : ∃ p0, rows[i]? = some p0 ∧ y = S (render p0) := by
      rw [List.getElem?_map, List.getElem?_map] at hy
      cases e : rows[i]? with
      | none => rw [e] at hy; cases hy
      | some r => rw [e] at hy; exact ⟨r, rfl, (Option.some.inj hy).symm⟩
    obtain ⟨ht1, ht2⟩ := flat_take (f := rowDec e) hp0
    have hsr0 := hrd p0 (List.mem_of_getElem? hp0)
    have hdr0 := dec_row (e := e) hsr0
    have hrow0 := hrl p0 (List.mem_of_getElem? hp0)
    have hap := render_prn hsr0.sg
    have hsg0 := hsr0.sg
    obtain ⟨s0, b0⟩ := p0
    rw [← hP] at ht1 ht2
    rw [← hdr0] at ht1 ht2
    generalize hrp : render (s0, b0) = r at *
    have hsr := S_len r
    have hlr : (S r).length ≤ 1000 := by omega
    rw [List.length_append] at ht2
    have hD0 : (S D0).length ≤ 1000 := by rw [S_len]; omega
    by_cases h0 : r = []
    · have hl0 : (S r).length = 0 := by rw [S_len, h0]; rfl
      k_steps
      rename Fr _ _ _ _ => F9
      rename News _ _ _ _ => N9
      rw [if_pos h0] at ht1
      exact tendC (D0 ++ e, _) F9 N9 (fun _ h => List.mem_append_left _ h) (fun _ h => List.mem_append_right _ h) (all3 (congrArg (fun z => some (Value.str z _)) (S_append _ _)) rfl rfl) ht1.symm
    have hl1 : 1 ≤ (S r).length := by rw [S_len]; exact List.length_pos_iff.mpr h0
    rw [if_neg h0] at ht1 ht2
    k_steps
    unfold Halt
    rename Fr _ _ _ _ => F'
    rename News _ _ _ _ => N'
    refine while_ (σ := List Nat × Nat × (List Nat × Bool) × Tok × Tok × Tok × Tok) (fun _ => (D, listOf vs.toArray 0) :: own)
      (fun c1 => [(Str.ofString "decoded", .str (S c1.1) c1.2.2.2.1), (Str.ofString "i", .int c1.2.1 c1.2.2.2.2.1), (Str.ofString "n", .int (S r).length c1.2.2.2.2.2.1), (Str.ofString "line", .str (S r) c1.2.2.2.2.2.2), (Str.ofString "encoded", .str (S J) tx), (Str.ofString "eol", .str (S e) te)])
      (fun c1 => r.drop c1.2.1 = render c1.2.2.1 ∧ (∀ x ∈ c1.2.2.1.1, Sg x) ∧ c1.1 ++ decR e (render c1.2.2.1) = D0 ++ decR e r ∧ c1.2.1 ≤ r.length)
      (fun c1 => r.length - c1.2.1) (D0, 0, (s0, b0), ?t1, ?t2, ?t3, ?t4) F' N' ?hk2 ⟨hrp.symm, hsg0, by rw [hrp], Nat.zero_le _⟩ ?turn2
    case hk2 =>
      intro p hp
      simp only [List.mem_cons, List.not_mem_nil, or_false] at hp
      rcases hp with rfl | rfl | rfl | rfl | rfl | rfl <;> rfl
    case turn2 =>
      rintro ⟨dec, j, ⟨s1, b1⟩, t1, t2, t3, t4⟩ u1 h1 tk1 ⟨hdr, hsg, hE, hj⟩ F1 N1
      dsimp only at hdr hsg hE hj F1 N1
      have hEl := congrArg List.length hE
      rw [List.length_append, List.length_append] at hEl
      have hdl : (S dec).length ≤ 1000 := by rw [S_len]; omega
      cases s1 with
      | nil =>
        cases b1 with
        | false =>
          have hjl : j = r.length := by
            have := congrArg List.length hdr
            rw [List.length_drop] at this
            have h2 : (render (([] : List Nat), false)).length = 0 := rfl
            omega
          k_steps
          rename Fr _ _ _ _ => F9
          rename News _ _ _ _ => N9
          refine tend (dec, _) F9 N9 (fun _ h => (List.mem_singleton.mp h) ▸ .head _) (fun _ h => .tail _ h) (all3 rfl rfl rfl) ?_
          show dec = _
          rw [ht1, ← hE]; simp [render, decR]
        | true =>
          obtain ⟨g1, g2, g3, g4⟩ := drop_item (t := []) (c := 61) hdr
          have hne1 := ne_eq_fact (i := (j : Int)) rfl g1
          rw [decide_eq_true rfl, Bool.not_true] at hne1
          rw [List.length_nil] at g4
          have hn1 : (j : Int) + 1 = ((S r).length : Int) := by omega
          k_steps
          all_goals (try (exfalso; omega))
          rename Fr _ _ _ _ => F9
          rename News _ _ _ _ => N9
          refine tendC (dec, j + 1, ([], false), _, _, _, _) F9 N9 (fun _ h => h) (fun _ h => nomatch h) (all6' rfl rfl rfl rfl rfl rfl) ⟨⟨g2, fun _ h => (nomatch h), ?_, by show j + 1 ≤ r.length; omega⟩, by show r.length - (j + 1) < r.length - j; omega⟩
          rw [← hE]; simp [render, decR]
      | cons c s1 =>
        rw [render_cons] at hdr hE
        have hcs := hsg c (.head _)
        have hsg' : ∀ x ∈ s1, Sg x := fun x hx => hsg x (.tail _ hx)
        rw [decR_piece e hcs.1] at hE
        by_cases hok : okc c = true
        · rw [piece, if_pos hok] at hdr
          obtain ⟨g1, g2, g3, g4⟩ := drop_item (t := render (s1, b1)) (c := c) hdr
          have hc61 : c ≠ 61 := by rintro rfl; simp [okc] at hok
          have hne1 := ne_eq_fact (i := (j : Int)) rfl g1
          rw [decide_eq_false hc61, Bool.not_false] at hne1
          by_cases ht : render (s1, b1) = []
          · rw [ht, List.length_nil] at g4
            have hn1 : (j : Int) + 1 = ((S r).length : Int) := by omega
            k_steps
            all_goals (try (exfalso; omega))
            rename Fr _ _ _ _ => F9
            rename News _ _ _ _ => N9
            refine tend (dec ++ [c] ++ e, j + 1, (s1, b1), _, _, _, _) F9 N9 (fun _ h => h) (fun _ h => nomatch h) (all6' (congrArg (fun z => some (Value.str z _)) (by rw [item_nat g1, S_append, S_append])) rfl rfl rfl rfl rfl) ⟨⟨g2, hsg', ?_, by show j + 1 ≤ r.length; omega⟩, by show r.length - (j + 1) < r.length - j; omega⟩
            rw [← hE, if_pos ht, ht]; simp [decR]
          · have : 0 < (render (s1, b1)).length := List.length_pos_iff.mpr ht
            have hn1 : (j : Int) + 1 ≠ ((S r).length : Int) := by omega
            k_steps
            all_goals (try (exfalso; omega))
            rename Fr _ _ _ _ => F9
            rename News _ _ _ _ => N9
            refine tend (dec ++ [c], j + 1, (s1, b1), _, _, _, _) F9 N9 (fun _ h => h) (fun _ h => nomatch h) (all6' (congrArg (fun z => some (Value.str z _)) (by rw [item_nat g1, S_append])) rfl rfl rfl rfl rfl) ⟨⟨g2, hsg', ?_, by show j + 1 ≤ r.length; omega⟩, by show r.length - (j + 1) < r.length - j; omega⟩
            rw [← hE, if_neg ht]; simp
        · rw [piece, if_neg hok] at hdr
          obtain ⟨g1, g2, g3, g4⟩ := drop_item (t := hexU (c / 16) :: hexU (c % 16) :: render (s1, b1)) (c := 61) hdr
          obtain ⟨k1, k2, k3, k4⟩ := drop_item g2
          obtain ⟨m1, m2, m3, m4⟩ := drop_item k2
          have hne1 := ne_eq_fact (i := (j : Int)) rfl g1
          rw [decide_eq_true rfl, Bool.not_true] at hne1
          have ho1 := hexd_occ (i := (j : Int) + 1) (by omega) k1 (hexU_is _ (by have := hcs.1; omega))
          have ho2 := hexd_occ (i := (j : Int) + 2) (by omega) m1 (hexU_is _ (by omega))
          have hsl : Txt.slice (S r) (some (j : Int)) (some ((j : Int) + 3)) = S [61, hexU (c / 16), hexU (c % 16)] := by
            rw [slice_mid (by omega) (by omega) (by omega), show ((j : Int) + 3 - (j : Int)).toNat = 3 by omega, Int.toNat_natCast, hdr]; rfl
          have hc256 := hcs.1
          have hlc : (S [c]).length ≤ 1000 := by rw [S_len]; show (1 : Nat) ≤ 1000; decide
          by_cases ht : render (s1, b1) = []
          · rw [ht, List.length_nil] at m4
            have hn1 : (j : Int) + 1 ≠ ((S r).length : Int) := by omega
            have hn3 : (j : Int) + 3 = ((S r).length : Int) := by omega
            k_steps
            all_goals (try (exfalso; omega))
            rename Fr _ _ _ _ => F9
            rename News _ _ _ _ => N9
            refine tend (dec ++ [c] ++ e, j + 3, (s1, b1), _, _, _, _) F9 N9 (fun _ h => h) (fun _ h => nomatch h) (all6' (congrArg (fun z => some (Value.str z _)) (by rw [S_append, S_append])) rfl rfl rfl rfl rfl) ⟨⟨m2, hsg', ?_, by show j + 3 ≤ r.length; omega⟩, by show r.length - (j + 3) < r.length - j; omega⟩
            rw [← hE, if_pos ht, ht]; simp [decR]
          · have : 0 < (render (s1, b1)).length := List.length_pos_iff.mpr ht
            have hn1 : (j : Int) + 1 ≠ ((S r).length : Int) := by omega
            have hn3 : (j : Int) + 3 ≠ ((S r).length : Int) := by omega
            k_steps
            all_goals (try (exfalso; omega))
            rename Fr _ _ _ _ => F9
            rename News _ _ _ _ => N9
            refine tend (dec ++ [c], j + 3, (s1, b1), _, _, _, _) F9 N9 (fun _ h => h) (fun _ h => nomatch h) (all6' (congrArg (fun z => some (Value.str z _)) (S_append _ _)) rfl rfl rfl rfl rfl) ⟨⟨m2, hsg', ?_, by show j + 3 ≤ r.length; omega⟩, by show r.length - (j + 3) < r.length - j; omega⟩
            rw [← hE, if_neg ht]; simp
  case done =>
    rintro ⟨D0, t0⟩ u h tk hP F N
    dsimp only at hP F N ⊢
    rw [hvl, List.take_length] at hP
    obtain ⟨ce, hce, ⟨rfl, hall⟩ | ⟨hc1, hc2, hall⟩⟩ := hlast
    · have hin := crlf_in hce
      rw [decide_eq_true (.inr rfl)] at hin
      simp only [Bool.not_true] at hin
      k_steps
      rename Fr _ _ _ _ => F9
      rw [hP, hall]
      exact hret _ _ _ F9.keep
    · have hin := crlf_in hce
      rw [decide_eq_false (by omega)] at hin
      simp only [Bool.not_false] at hin
      have hD0 : (S D0).length ≤ 1000 := by rw [S_len, hP]; omega
      have hends : Txt.endswith (S D0) (S e) = true := by rw [hP, hall]; exact ends_S _ _
      k_steps
      rename Fr _ _ _ _ => F9
      have hsc : Txt.slice (S D0) none (some (-((S e).length : Int))) = S (q.flatMap (rowDec e) ++ z) := by
        rw [hP, hall, S_len]; exact slice_chop (eol_len he).1
      rw [hsc]
      exact hret _ _ _ F9.keep
end Mine
end
section
namespace Mine
open PySem PySem.Spec PySem.Calls PyProof.Rows
/-- a line's rows, as signs -/
noncomputable def lineQ (W : Nat) (l : List Nat) : List (List Nat × Bool) := lawS W (l.map piece).flatten.length [] l
noncomputable def allQ (W : Nat) (x : List Nat) : List (List Nat × Bool) := (linesL x).flatMap (lineQ W)
theorem rows_lineQ (W : Nat) (l : List Nat) : rowsOf W l = (lineQ W l).map render := lawLoop_lawS W l _ []
theorem rows_allQ (W : Nat) (x : List Nat) : allRows W x = (allQ W x).map render := by
  rw [allRows, allQ, List.map_flatMap]
  congr 1
  funext l
  exact rows_lineQ W l
theorem lineQ_spec {W : Nat} (hw : 4 ≤ W) (l : List Nat) : ∃ (init : List (List Nat)) (last : List Nat), lineQ W l = init.map (fun r => (r, true)) ++ [(last, false)] ∧ init.flatten ++ last = l ∧ (∀ r ∈ init, r ≠ []) := by
  obtain ⟨init, last, h1, h2, h3, _⟩ := lawS_spec W hw l (l.map piece).flatten.length []
  exact ⟨init, last, h1, by rw [h2]; rfl, h3⟩
theorem init_dec (e : List Nat) : ∀ init : List (List Nat), (init.map fun r => (r, true)).flatMap (rowDec e) = init.flatten
  | [] => rfl
  | a :: i => by rw [List.map_cons, List.flatMap_cons, init_dec e i, List.flatten_cons]; simp [rowDec]
theorem init_fst : ∀ init : List (List Nat), (init.map fun r => (r, true)).flatMap (fun p : List Nat × Bool => p.1) = init.flatten
  | [] => rfl
  | a :: i => by rw [List.map_cons, List.flatMap_cons, init_fst i, List.flatten_cons]
theorem lineQ_row {W : Nat} (hw : 4 ≤ W) {l : List Nat} (hs : ∀ c ∈ l, Sg c) : ∀ p ∈ lineQ W l, SRow p := by
  obtain ⟨init, last, h1, h2, h3⟩ := lineQ_spec hw l
  rw [h1]
  intro p hp
  rcases List.mem_append.mp hp with hp | hp
  · obtain ⟨r, hr, rfl⟩ := List.mem_map.mp hp
    refine ⟨fun c hc => hs c ?_, fun _ => h3 r hr⟩
    rw [← h2]
    exact List.mem_append_left _ (List.mem_flatten.mpr ⟨r, hr, hc⟩)
  · rw [List.mem_singleton.mp hp]
    refine ⟨fun c hc => hs c ?_, fun h => nomatch h⟩
    rw [← h2]
    exact List.mem_append_right _ hc
theorem allQ_row {W : Nat} (hw : 4 ≤ W) {x : List Nat} (ok : TextOk x) : ∀ p ∈ allQ W x, SRow p := by
  intro p hp
  obtain ⟨l, hl, hp⟩ := List.mem_flatMap.mp hp
  exact lineQ_row hw (line_sg ok l hl) p hp
theorem lines_split {W : Nat} (hw : 4 ≤ W) (e : List Nat) : ∀ L : List (List Nat), L ≠ [] → ∃ q z, L.flatMap (lineQ W) = q ++ [(z, false)] ∧ q.flatMap (rowDec e) ++ z = joinL e L
  | [], h => absurd rfl h
  | [l], _ => by
    obtain ⟨init, last, h1, h2, h3⟩ := lineQ_spec hw l
    refine ⟨init.map fun r => (r, true), last, ?_, ?_⟩
    · rw [List.flatMap_cons, List.flatMap_nil, List.append_nil, h1]
    · rw [init_dec, h2]; rfl
  | l :: l2 :: L, _ => by
    obtain ⟨q, z, h1, h2⟩ := lines_split hw e (l2 :: L) (by simp)
    obtain ⟨init, last, g1, g2, g3⟩ := lineQ_spec hw l
    refine ⟨lineQ W l ++ q, z, ?_, ?_⟩
    · rw [List.flatMap_cons, h1, List.append_assoc]
    · rw [joinL_cons (by simp), ← h2, List.flatMap_append, g1, List.flatMap_append, init_dec, List.flatMap_cons, List.flatMap_nil, ← g2]
      simp [rowDec]
theorem lineQ_fst {W : Nat} (hw : 4 ≤ W) (l : List Nat) : (lineQ W l).flatMap (fun p => p.1) = l := by
  obtain ⟨init, last, h1, h2, h3⟩ := lineQ_spec hw l
  rw [h1, List.flatMap_append, init_fst, List.flatMap_cons, List.flatMap_nil, List.append_nil]
  exact h2
theorem render_len (p : List Nat × Bool) : (render p).length ≤ 3 * p.1.length + 1 := by
  obtain ⟨s, b⟩ := p
  have h := flat_len s
  rw [← enc_flat] at h
  show (enc s ++ (if b = true then [61] else [])).length ≤ 3 * s.length + 1
  rw [List.length_append]
  cases b
  · exact Nat.le_trans h (Nat.le_succ _)
  · exact Nat.succ_le_succ h
theorem lawS_sum (w : Nat) : ∀ (cs : List Nat) (left : Nat) (row : List Nat), ((lawS w left row cs).map fun p => (render p).length + 2).sum ≤ 3 * row.length + 6 * cs.length + 3
  | [], left, row => by
    have h2 : (render (row, false)).length ≤ 3 * row.length := by
      have h := flat_len row
      rw [← enc_flat] at h
      show (enc row ++ []).length ≤ _
      rw [List.append_nil]; exact h
    simp [lawS]; omega
  | c :: cs, left, row => by
    rw [lawS]
    split
    · have h1 := lawS_sum w cs (left - (row.flatMap piece).length) [c]
      have h2 := render_len (row, true)
      rw [List.map_cons, List.sum_cons]
      simp at h1 h2 ⊢; omega
    · have h1 := lawS_sum w cs left (row ++ [c])
      simp at h1 ⊢; omega
theorem joinL_sum {e : List Nat} (he : e.length ≤ 2) : ∀ rows : List (List Nat), (joinL e rows).length ≤ (rows.map fun r => r.length + 2).sum
  | [] => by simp [joinL]
  | [r] => by simp [joinL]
  | r :: r2 :: rs => by
    have := joinL_sum he (r2 :: rs)
    rw [joinL_cons (by simp), List.length_append, List.length_append, List.map_cons, List.sum_cons]; omega
theorem linesL_sum : ∀ x : List Nat, ((linesL x).map fun l => l.length + 1).sum = x.length + 1
  | [] => rfl
  | c :: t => by
    have ih := linesL_sum t
    rw [linesL]
    split
    · rw [List.map_cons, List.sum_cons, ih, List.length_cons, List.length_nil]; omega
    · split
      · rename_i e; exact absurd e (linesL_ne t)
      · rename_i r rs e
        rw [e, List.map_cons, List.sum_cons] at ih
        rw [List.map_cons, List.sum_cons, List.length_cons, List.length_cons]; omega
theorem sum_flat {α β : Type} (f : α → List β) (g : β → Nat) (h : α → Nat) : ∀ l : List α, (∀ a ∈ l, ((f a).map g).sum ≤ h a) → ((l.flatMap f).map g).sum ≤ (l.map h).sum
  | [], _ => by simp
  | a :: l, hh => by
    have h1 := hh a (.head _)
    have h2 := sum_flat f g h l fun b hb => hh b (.tail _ hb)
    rw [List.flatMap_cons, List.map_append, List.sum_append, List.map_cons, List.sum_cons]; omega
theorem sum_six : ∀ L : List (List Nat), (L.map fun l => 6 * l.length + 3).sum ≤ 6 * (L.map fun l => l.length + 1).sum
  | [] => by simp
  | l :: L => by have := sum_six L; rw [List.map_cons, List.map_cons, List.sum_cons, List.sum_cons]; omega
theorem joined_len {W : Nat} {x e : List Nat} (hx : x.length ≤ 18) (he : e.length ≤ 2) : (joinL e ((allQ W x).map render)).length ≤ 200 := by
  have h1 := joinL_sum he ((allQ W x).map render)
  rw [List.map_map] at h1
  have h2 := sum_flat (lineQ W) (fun p => (render p).length + 2) (fun l => 6 * l.length + 3) (linesL x) fun l _ => by
    have := lawS_sum W l (l.map piece).flatten.length []
    rw [List.length_nil] at this
    show ((lineQ W l).map _).sum ≤ _
    unfold lineQ; omega
  have h3 := sum_six (linesL x)
  rw [linesL_sum] at h3
  have h4 : ((allQ W x).map ((fun r => r.length + 2) ∘ render)).sum = (((linesL x).flatMap (lineQ W)).map fun p => (render p).length + 2).sum := rfl
  omega
theorem rows_count {W : Nat} {x : List Nat} (hx : x.length ≤ 18) : (allQ W x).length ≤ 100 := by
  have h2 := sum_flat (lineQ W) (fun p => (render p).length + 2) (fun l => 6 * l.length + 3) (linesL x) fun l _ => by
    have := lawS_sum W l (l.map piece).flatten.length []
    rw [List.length_nil] at this
    show ((lineQ W l).map _).sum ≤ _
    unfold lineQ; omega
  have h3 := sum_six (linesL x)
  rw [linesL_sum] at h3
  have h4 : ∀ l : List (List Nat × Bool), 2 * l.length ≤ (l.map fun p => (render p).length + 2).sum := by
    intro l
    induction l with
    | nil => simp
    | cons a l ih => rw [List.length_cons, List.map_cons, List.sum_cons]; omega
  have := h4 (allQ W x)
  have h5 : ((allQ W x).map fun p => (render p).length + 2).sum = (((linesL x).flatMap (lineQ W)).map fun p => (render p).length + 2).sum := rfl
  omega
theorem joined_ne {W : Nat} (hw : 4 ≤ W) {x e : List Nat} {c : Nat} {t : List Nat} (hx : x = c :: t) (hc : c ≠ 10) (ok : TextOk x) : joinL e ((allQ W x).map render) ≠ [] := by
  intro h
  have h0 : ∀ p ∈ allQ W x, p.1 = [] := by
    intro p hp
    have h1 := joinL_mem (e := e) ((allQ W x).map render) _ (List.mem_map_of_mem hp)
    rw [h, List.length_nil] at h1
    have h2 := (render_nil (allQ_row hw ok p hp)).mp (List.length_eq_zero_iff.mp (Nat.le_zero.mp h1))
    rw [h2]
  have h1 : (allQ W x).flatMap (fun p => p.1) = (linesL x).flatten := by
    rw [allQ, List.flatMap_assoc]
    have : (fun l => (lineQ W l).flatMap fun p => p.1) = id := by funext l; exact lineQ_fst hw l
    rw [this, List.flatMap_id]
  have h2 : (allQ W x).flatMap (fun p => p.1) = [] := List.flatMap_eq_nil_iff.mpr h0
  rw [h2, hx, linesL, if_neg hc] at h1
  split at h1 <;> simp at h1
/-- what the law's text is -/
theorem sign_ok (n : Int) : (fun c => Sg c ∧ c ≠ 9 ∧ c ≠ 13 ∧ c ≠ 32) (signOf n) := by
  have hb : ∀ c ∈ bareL, Sg c ∧ c ≠ 9 ∧ c ≠ 13 ∧ c ≠ 32 := by
    unfold Sg isHexU okc bareL
    decide
  have hlow : ∀ c, (c < 33 ∨ 126 < c) → c < 256 → Sg c := fun c h h2 => ⟨h2, fun ho => by simp [okc] at ho; omega⟩
  show Sg (signOf n) ∧ signOf n ≠ 9 ∧ signOf n ≠ 13 ∧ signOf n ≠ 32
  unfold signOf
  split
  · exact ⟨hlow 10 (by omega) (by omega), by omega, by omega, by omega⟩
  · split
    · exact ⟨⟨by omega, fun h => by simp [okc] at h⟩, by omega, by omega, by omega⟩
    · split
      · have h1 := Int.fmod_nonneg_of_pos (n.fdiv 8) (b := 128) (by decide)
        have h2 := Int.fmod_lt_of_pos (n.fdiv 8) (b := 128) (by decide)
        exact ⟨hlow _ (by omega) (by omega), by omega, by omega, by omega⟩
      · split
        · have h1 := Int.fmod_nonneg_of_pos (n.fdiv 8) (b := 9) (by decide)
          have h2 := Int.fmod_lt_of_pos (n.fdiv 8) (b := 9) (by decide)
          exact ⟨hlow _ (by omega) (by omega), by omega, by omega, by omega⟩
        · have h1 := Int.fmod_nonneg_of_pos (n.fdiv 8) (b := 16) (by decide)
          have h2 := Int.fmod_lt_of_pos (n.fdiv 8) (b := 16) (by decide)
          generalize hj : ((n.fdiv 8).fmod 16).toNat = j
          have hj16 : j < bareL.length := by show j < 16; omega
          rw [List.getD_eq_getElem?_getD, List.getElem?_eq_getElem hj16]
          exact hb _ (List.getElem_mem hj16)
theorem text_ok (ns : List Int) : TextOk (textOf ns) := by
  intro c hc
  obtain ⟨n, _, rfl⟩ := List.mem_map.mp hc
  exact sign_ok n
theorem text_len (ns : List Int) : (textOf ns).length ≤ 18 := by
  rw [textOf, List.length_map, List.length_append, List.length_take]
  have : lead.length = 10 := rfl
  omega
theorem text_head (ns : List Int) : ∃ t, textOf ns = 103 :: t := ⟨_, rfl⟩
theorem text_high (ns : List Int) : (textOf ns).all (· < 128) = false := by
  rw [List.all_eq_false]
  refine ⟨233, ?_, by decide⟩
  have : (233 : Nat) = signOf 842 := by decide +kernel
  rw [this, textOf]
  refine List.mem_map_of_mem (List.mem_append_left _ ?_)
  decide
theorem decoded_len {W : Nat} (hw : 4 ≤ W) {x e : List Nat} (hx : x.length ≤ 18) (he : e.length ≤ 2) {q : List (List Nat × Bool)} {z : List Nat} (h2 : q.flatMap (rowDec e) ++ z = joinL e (linesL x)) : ((readOf q z).flatMap (rowDec e)).length ≤ 900 := by
  have h1 := joinL_len (k := 18) he (linesL x) fun r hr => Nat.le_trans ((linesL_short x).1 r hr) hx
  have h3 := (linesL_short x).2
  have h4 := Nat.mul_le_mul_right 20 (Nat.le_trans h3 (Nat.succ_le_succ hx))
  have h5 := congrArg List.length h2
  rw [List.length_append] at h5
  unfold readOf
  split
  · omega
  · rw [List.flatMap_append, List.length_append]
    have : ([(z, false)] : List (List Nat × Bool)).flatMap (rowDec e) = z ++ e := by simp [rowDec]
    rw [this, List.length_append]; omega
/-- the readings' rows -/
theorem good_row {p : List Nat × Bool} (h : SRow p) : Good (render p) := by
  obtain ⟨s, b⟩ := p
  exact good_render h.sg h.ne
theorem bare_head {r : List Nat} (h : Good r) (hne : r ≠ []) : ∃ x t, bareOf r = x :: t ∧ x ≠ 61 := by
  rcases h.head with h0 | ⟨x, t, rfl, hx⟩ | ⟨x, t, rfl, hx, hnx⟩
  · exact absurd h0 hne
  · refine ⟨x, t, by simp [bareOf], ?_⟩
    rintro rfl; unfold isHexU at hx; omega
  · exact ⟨x, t, by simp [bareOf, hx], hx⟩
theorem name_ne {r : List Nat} (h : Good r) (hne : r ≠ []) : readName r ≠ [] := by
  obtain ⟨x, t, e, hx⟩ := bare_head h hne
  rw [readName, e, List.takeWhile_cons, if_pos (by simp [hx])]
  simp
theorem bare_sub (r : List Nat) : (bareOf r).length ≤ r.length ∧ ∀ c ∈ bareOf r, c ∈ r := by
  unfold bareOf
  split
  · exact ⟨by simp, fun c hc => List.mem_of_mem_tail hc⟩
  · exact ⟨Nat.le_refl _, fun _ h => h⟩
theorem name_sub (r : List Nat) : (readName r).length ≤ r.length ∧ ∀ c ∈ readName r, c ∈ r := by
  obtain ⟨h1, h2⟩ := bare_sub r
  exact ⟨Nat.le_trans (List.takeWhile_sublist _).length_le h1, fun c hc => h2 c ((List.takeWhile_sublist _).subset hc)⟩
theorem val_sub {r v : List Nat} (hv : readVal r = some v) : v.length ≤ r.length ∧ ∀ c ∈ v, c ∈ r := by
  obtain ⟨h1, h2⟩ := bare_sub r
  unfold readVal at hv
  split at hv
  · cases hv
  · rename_i a w e
    cases hv
    have h3 : ∀ c ∈ a :: v, c ∈ bareOf r := fun c hc => (List.dropWhile_sublist _).subset (e ▸ hc)
    have h4 := (List.dropWhile_sublist (p := (· != 61)) (l := bareOf r)).length_le
    rw [e, List.length_cons] at h4
    exact ⟨by omega, fun c hc => h2 c (h3 c (.tail _ hc))⟩
/-- LF is written anew -/
theorem replace_S {x e : List Nat} (hx : x ≠ []) (he : IsEol e) (hc : ∀ c ∈ x, c < 256) : Txt.replace (S x) (S [10]) (S e) = S (joinL e (linesL x)) := by
  have hsp := split_S x
  have hel := eol_len he
  have hk : (decide ((S x).length < (S [10]).length) || decide (Builtin.Str.strKind (S [10]) > Builtin.Str.strKind (S x))) = false := by
    rw [kind_low (x := [10]) (by decide), kind_low hc, S_len, S_len]
    have : 1 ≤ x.length := List.length_pos_iff.mpr hx
    simp; omega
  unfold Txt.split at hsp
  unfold Txt.replace
  rw [← join_S e (linesL x)]
  split at hsp
  · rename_i h
    exfalso
    first | (rw [hk] at h; exact absurd h Bool.false_ne_true) | (simp_all)
  · split at hsp
    · rename_i h1
      rw [h1, Bool.true_or, if_pos rfl, ← hsp]
      simp [Str.join]
    · rename_i h1
      have h2 : (Builtin.Str.occurrences (S x) (S [10]) 0 (S x).length ((S x).length + 1)).isEmpty = false := by simpa using h1
      have h3 : ((S [10]).length == 0 && (S e).length == 0) = false := rfl
      rw [h2, h3, Bool.or_false, if_neg Bool.false_ne_true, hsp, StrLaws.glued_eq_join]
end Mine
end
section
open PySem PySem.Spec PySem.Calls PySem.W PyProof.Rows PySem.SeqAt
namespace Mine
theorem none_booked {w : World} {p : Program} {loose : List Str} {mean : ExcName → Option Value} {mg mb : Str → Option Value} {h : Heap} (X : (hK w.params).In h) (T : Top p loose mean mg mb h) : NoneBooked h := by
  obtain ⟨mc, hns, _⟩ := T.nodigits
  refine ⟨mc, hns, ?_⟩
  obtain ⟨o, es, ep, ho, hd, hk, hf⟩ := hns
  have hx := X 2 _ rfl
  rw [show cStatics = 2 from rfl, hx] at ho
  cases ho
  cases hd
  rw [← hf]
  kernel_rfl
section
variable {w : World} {p : Program} {loose : List Str} {mean : ExcName → Option Value} {mg mb : Str → Option Value} {A : Around} {s : Shared} {Q : Value → Shared → Prop} {E : Value → Shared → Prop}
  {h₀ : Heap} {L : Addr} {m : Str → Option Value} {news : List (Addr × Obj)}
theorem text_call {l : Addr} {vs : List Value} {ns : List Int} (X : (hK w.params).In h₀) (T : Top p loose mean mg mb h₀) (F : Fr h₀ L s.heap m) (N : News h₀ L s.heap news) (hh : A.handled = none) (hd : A.depth + 20 < recursionLimit) (hu : A.units + 400 < cLine)
    (hl : h₀.IsList l vs.toArray) (hns : IntsAre vs ns) (hlen : ns.length ≤ 63)
    (h : ∀ k h' tk', s.toks ≤ tk' → Fr h₀ L h' m → News h₀ L h' news → Q (.str (S (textOf ns)) k) { s with heap := h', toks := tk' }) :
    wpAny (model PySem.Challenge.rw_qu0048_01.prog w) A (call (.ref 128) [.ref l]) Q E s := by
  obtain ⟨hn, dp, fr, gd, un⟩ := A
  cases hh
  refine wpAny_call (codeAny_with_toks (Nat.le_refl _) (text_ w p loose mean mg mb dp un fr gd s _ l vs ns (X.keeps F.keep) (T.keeps F.keep) (by dsimp only at hd; omega) (by dsimp only at hu; omega) (hl.at fun o e => F.keep _ o e) hns hlen fun k h' tk' st ht => h k h' tk' ht (fr_stays F st) (news_stays N st)))
theorem enc_call {x eol : List Nat} {tx tw te : Tok} {W : Nat} (X : (hK w.params).In h₀) (T : Top p loose mean mg mb h₀) (F : Fr h₀ L s.heap m) (N : News h₀ L s.heap news) (hh : A.handled = none) (hd : A.depth + 20 < recursionLimit) (hu : A.units + 400 < cLine)
    (hx : x.length ≤ 18) (hne : x ≠ []) (he : IsEol eol) (ok : TextOk x) (hnf : x.all (· < 128) = false) (h4 : 4 ≤ W) (h9 : W ≤ 9)
    (h : ∀ k h' tk', s.toks ≤ tk' → Fr h₀ L h' m → News h₀ L h' news → Q (.str (S (joinL eol ((allQ W x).map render))) k) { s with heap := h', toks := tk' }) :
    wpAny (model PySem.Challenge.rw_qu0048_01.prog w) A (call (.ref 74) [.str (S x) tx, .int W tw, .str (S eol) te]) Q E s := by
  obtain ⟨hn, dp, fr, gd, un⟩ := A
  cases hh
  refine wpAny_call (codeAny_with_toks (Nat.le_refl _) (enc_ w p loose mean mg mb dp un fr gd s _ x eol tx tw te W (X.keeps F.keep) (T.keeps F.keep) (by dsimp only at hd; omega) (by dsimp only at hu; omega) hx hne he ok hnf h4 h9 fun k h' tk' st ht => ?_))
  rw [rows_allQ]
  exact h k h' tk' ht (fr_stays F st) (news_stays N st)
theorem rows_call {x : List Nat} {tx tw : Tok} {W : Nat} (X : (hK w.params).In h₀) (T : Top p loose mean mg mb h₀) (F : Fr h₀ L s.heap m) (N : News h₀ L s.heap news) (hh : A.handled = none) (hd : A.depth + 20 < recursionLimit) (hu : A.units + 400 < cLine)
    (hx : x.length ≤ 18) (hc : ∀ c ∈ x, c < 256) (h4 : 4 ≤ W) (h9 : W ≤ 9)
    (h : ∀ r its n h' tk', s.toks ≤ tk' → StrsAre its.toList (((allQ W x).map render).map S) → Fr h₀ L h' m → News h₀ L h' ((r, listOf its n) :: news) → Q (.ref r) { s with heap := h', toks := tk' }) :
    wpAny (model PySem.Challenge.rw_qu0048_01.prog w) A (call (.ref 135) [.str (S x) tx, .int W tw]) Q E s := by
  obtain ⟨hn, dp, fr, gd, un⟩ := A
  cases hh
  refine wpAny_call (codeAny_with_toks (Nat.le_refl _) (rows_ w p loose mean mg mb dp un fr gd s _ x tx tw W (X.keeps F.keep) (T.keeps F.keep) (by dsimp only at hd; omega) (by dsimp only at hu; omega) hx hc h4 h9 fun r its n h' tk' st hr hi ht => ?_))
  rw [rows_allQ] at hi
  refine h r its n h' tk' ht hi (fr_stays F st) fun p hp => ?_
  rcases List.mem_cons.mp hp with rfl | hp
  · refine ⟨hr.1, ?_, ?_⟩
    · intro e
      obtain ⟨o, _, _, ho, _⟩ := F.ns
      have h2 := hr.2
      dsimp only at h2 e
      rw [e, ho] at h2; cases h2
    · cases e : h₀.get? r with
      | none => rfl
      | some o => have h2 := hr.2; rw [F.keep _ _ e] at h2; cases h2
  · exact news_stays N st p hp
theorem dec_call {q : List (List Nat × Bool)} {z e : List Nat} {v : Str} {tx te : Tok} (X : (hK w.params).In h₀) (T : Top p loose mean mg mb h₀) (F : Fr h₀ L s.heap m) (N : News h₀ L s.heap news) (hh : A.handled = none) (hd : A.depth + 20 < recursionLimit) (hu : A.units + 400 < cLine)
    (hv : v = S (joinL e ((q ++ [(z, false)]).map render))) (he : IsEol e) (hq : ∀ r ∈ q ++ [(z, false)], SRow r) (hne : joinL e ((q ++ [(z, false)]).map render) ≠ []) (hlj : (joinL e ((q ++ [(z, false)]).map render)).length ≤ 1000) (hDl : ((readOf q z).flatMap (rowDec e)).length ≤ 900)
    (h : ∀ k h' tk', s.toks ≤ tk' → Fr h₀ L h' m → News h₀ L h' news → Q (.str (S (q.flatMap (rowDec e) ++ z)) k) { s with heap := h', toks := tk' }) :
    wpAny (model PySem.Challenge.rw_qu0048_01.prog w) A (call (.ref 82) [.str v tx, .str (S e) te]) Q E s := by
  obtain ⟨hn, dp, fr, gd, un⟩ := A
  cases hh
  subst hv
  refine wpAny_call (codeAny_with_toks (Nat.le_refl _) (dec_ w p loose mean mg mb dp un fr gd s _ q z e tx te (X.keeps F.keep) (T.keeps F.keep) (by dsimp only at hd; omega) (by dsimp only at hu; omega) he hq hne hlj hDl fun k h' tk' st ht => h k h' tk' ht (fr_stays F st) (news_stays N st)))
/-- these stand apart -/
noncomputable def LedOff (led news : List (Addr × Obj)) : Prop := ∀ p ∈ led, ∀ q ∈ news, p.1 ≠ q.1
/-- what a reading leaves behind -/
noncomputable def RdG (r : List Nat) (y : Value) (l : List (Addr × Obj)) : Prop := ∀ h : Heap, (∀ p ∈ l, h.get? p.1 = some p.2) → ∃ as, Reads h y (rdData r) as
theorem made_led {h : Heap} {v : Value} {r : List Nat} (F : Fr h₀ L s.heap m) (M : Made s.heap h v (rdData r)) (st : Stays s.heap h) : ∃ l, (∀ p ∈ l, News h₀ L h [p]) ∧ (∀ p ∈ l, s.heap.get? p.1 = none) ∧ RdG r v l := by
  obtain ⟨l, h1, h2⟩ := M
  refine ⟨l, fun p hp q hq => ?_, fun p hp => (h1 p hp).2, h2⟩
  rw [List.mem_singleton.mp hq]
  refine ⟨(h1 p hp).1, ?_, ?_⟩
  · intro e
    obtain ⟨o, _, _, ho, _⟩ := F.ns
    have h3 := (h1 p hp).2
    rw [e, ho] at h3; cases h3
  · cases e : h₀.get? p.1 with
    | none => rfl
    | some o => have h3 := (h1 p hp).2; rw [F.keep _ _ e] at h3; cases h3
theorem shw_call {l : Addr} {nn : Nat} {b : List Nat} {t : Tok} (X : (hK w.params).In h₀) (T : Top p loose mean mg mb h₀) (F : Fr h₀ L s.heap m) (N : News h₀ L s.heap news) (hh : A.handled = none) (hd : A.depth + 20 < recursionLimit) (hu : A.units + 400 < cLine)
    (hl : (l, listOf #[.str (S b) t] nn) ∈ news) (hb : b.length ≤ 100) (hg : Good b)
    (h : ∀ v h' tk' led, s.toks ≤ tk' → Fr h₀ L h' m → News h₀ L h' (led ++ news) → LedOff led news → RdG b v led → Q v { s with heap := h', toks := tk' }) :
    wpAny (model PySem.Challenge.rw_qu0048_01.prog w) A (call (.ref 121) [.ref l]) Q E s := by
  obtain ⟨hn, dp, fr, gd, un⟩ := A
  cases hh
  refine wpAny_call (codeAny_with_toks (Nat.le_refl _) (shw_ w p loose mean mg mb dp un fr gd s _ l nn b t (X.keeps F.keep) (T.keeps F.keep) (by dsimp only at hd; omega) (by dsimp only at hu; omega) hb hg (N _ hl).1 fun v h' tk' st M ht => ?_))
  obtain ⟨led, h1, h2, h3⟩ := made_led F M st
  refine h v h' tk' led ht (fr_stays F st) (fun p hp => ?_) (fun p hp q hq e => by have g := h2 p hp; rw [e, (N q hq).1] at g; cases g) h3
  rcases List.mem_append.mp hp with hp | hp
  · exact h1 p hp p (.head _)
  · exact news_stays N st p hp
theorem reading_call {r : List Nat} {t : Tok} (X : (hK w.params).In h₀) (T : Top p loose mean mg mb h₀) (F : Fr h₀ L s.heap m) (N : News h₀ L s.heap news) (hh : A.handled = none) (hd : A.depth + 20 < recursionLimit) (hr : r.length ≤ 100)
    (h : ∀ v h' tk' led, s.toks ≤ tk' → Fr h₀ L h' m → News h₀ L h' (led ++ news) → LedOff led news → RdG r v led → Q v { s with heap := h', toks := tk' }) :
    wpAny (model PySem.Challenge.rw_qu0048_01.prog w) A (call (.ref 142) [.str (S r) t]) Q E s := by
  obtain ⟨hn, dp, fr, gd, un⟩ := A
  cases hh
  refine wpAny_call (codeAny_with_toks (Nat.le_refl _) (reading_ w p loose mean mg mb dp un fr gd s _ r t (X.keeps F.keep) (T.keeps F.keep) (by dsimp only at hd; omega) (by omega) fun v h' tk' st M ht => ?_))
  obtain ⟨led, h1, h2, h3⟩ := made_led F M st
  refine h v h' tk' led ht (fr_stays F st) (fun p hp => ?_) (fun p hp q hq e => by have g := h2 p hp; rw [e, (N q hq).1] at g; cases g) h3
  rcases List.mem_append.mp hp with hp | hp
  · exact h1 p hp p (.head _)
  · exact news_stays N st p hp
theorem shaped_rd {r : List Nat} (h : ∀ c ∈ r, c < 256) : shaped (rdData r) = true := by
  unfold rdData
  split
  · rfl
  · exact shaped_pair (fun c hc => h c ((name_sub r).2 c hc)) fun v hv c hc => h c ((val_sub hv).2 c hc)
theorem row_call {r : List Nat} {v : Value} {as : List Addr} (X : (hK w.params).In h₀) (T : Top p loose mean mg mb h₀) (F : Fr h₀ L s.heap m) (N : News h₀ L s.heap news) (hh : A.handled = none) (hd : A.depth + 20 < recursionLimit) (hu : A.units + 400 < cLine)
    (hr : r.length ≤ 100) (hg : Good r) (hv : Reads s.heap v (rdData r) as)
    (h : ∀ k h' tk', s.toks ≤ tk' → Fr h₀ L h' m → News h₀ L h' news → Q (.str (S r) k) { s with heap := h', toks := tk' }) :
    wpAny (model PySem.Challenge.rw_qu0048_01.prog w) A (call (.ref 149) [v]) Q E s := by
  obtain ⟨hn, dp, fr, gd, un⟩ := A
  cases hh
  have hc : ∀ c ∈ r, c < 256 := fun c hc => by have := hg.print c hc; omega
  by_cases h0 : r = []
  · subst h0
    exact wpAny_call (codeAny_with_toks (Nat.le_refl _) (row0_ w p loose mean mg mb dp un fr gd s _ v as (X.keeps F.keep) (T.keeps F.keep) (by dsimp only at hd; omega) (by dsimp only at hu; omega) rfl hv fun k h' tk' st ht => h k h' tk' ht (fr_stays F st) (news_stays N st)))
  · have hs := shaped_rd hc
    rw [rdData, if_neg h0] at hv hs
    refine wpAny_call (codeAny_with_toks (Nat.le_refl _) (row_ w p loose mean mg mb dp un fr gd s _ (readName r) (readVal r) v as (X.keeps F.keep) (T.keeps F.keep) (by dsimp only at hd; omega) (by dsimp only at hu; omega) (Nat.le_trans (name_sub r).1 hr) (fun z hz => Nat.le_trans (val_sub hz).1 hr) (name_ne hg h0) hs hv fun k h' tk' st ht => ?_))
    rw [rowOf_read hg h0]
    exact h k h' tk' ht (fr_stays F st) (news_stays N st)
end
end Mine
end
section
namespace Mine
open PySem PySem.Spec PySem.Calls PyProof.Rows PySem.W PySem.SeqAt
/-- tokens never fall -/
noncomputable def Floored {α : Type} (n : Nat) (Q : α → Shared → Prop) (a : α) (s : Shared) : Prop := n ≤ s.toks → Q a s
theorem floor {α : Type} {M : Model} {A : Around} {t : Sem α} {Q : α → Shared → Prop} {E : Value → Shared → Prop} {s : Shared} (h : wpAny M A t (Floored s.toks Q) E s) : wpAny M A t Q E s :=
  wpAny_mono (wpAny_toks_of (Nat.le_refl _) h) (fun _ _ x => x.2 x.1) (fun _ _ x => x.2)
/-- the rows' end -/
noncomputable def EolQ (s : Shared) (v : Value) (s' : Shared) : Prop := ∃ (e : List Nat) (tc k : Nat), v = .str (S e) tc ∧ IsEol e ∧ 1 ≤ tc ∧ tc < k ∧ s' = { s with toks := k }
theorem if_eol {M : Model} {A : Around} {t : Sem Value} {Q : Value → Shared → Prop} {E : Value → Shared → Prop} {s : Shared} (h : wpAny M A t (EolQ s) E s) (hq : ∀ (e : List Nat) (tc k : Nat), IsEol e → 1 ≤ tc → tc < k → Q (.str (S e) tc) { s with toks := k }) : wpAny M A t Q E s :=
  wpAny_mono h (fun v s' x => by obtain ⟨e, tc, k, rfl, he, h1, h2, rfl⟩ := x; exact hq e tc k he h1 h2) fun _ _ e => e
theorem crlf_S : Str.ofString "\r\n" = S [13, 10] := by decide +kernel
theorem lf_S : Str.ofString "\n" = S [10] := by decide +kernel
theorem eolQ_crlf {s : Shared} {h : Heap} {g : Array GenState} {d : Drawn} {k : Nat} {o : OsState} (e : s = ⟨h, g, d, s.toks, o⟩) : EolQ s (.str (Str.ofString "\r\n") (k + 1)) ⟨h, g, d, k + 1 + 1, o⟩ := by
  refine ⟨[13, 10], k + 1, k + 1 + 1, by rw [crlf_S], .inr rfl, Nat.succ_le_succ (Nat.zero_le _), Nat.lt_succ_self _, ?_⟩
  rw [e]
theorem eolQ_lf {s : Shared} {h : Heap} {g : Array GenState} {d : Drawn} {k : Nat} {o : OsState} (e : s = ⟨h, g, d, s.toks, o⟩) : EolQ s (.str (Str.ofString "\n") (k + 1)) ⟨h, g, d, k + 1 + 1, o⟩ := by
  refine ⟨[10], k + 1, k + 1 + 1, by rw [lf_S], .inl rfl, Nat.succ_le_succ (Nat.zero_le _), Nat.lt_succ_self _, ?_⟩
  rw [e]
theorem split_eol {e : List Nat} (he : IsEol e) {rows : List (List Nat)} (hne : rows ≠ []) (h : ∀ r ∈ rows, AllP r) : Txt.split (S (joinL e rows)) (S e) = rows.map S := by
  have h1 : ∀ r ∈ rows, ∀ c ∈ r, 33 ≤ c ∧ c ≤ 126 := fun r hr c hc => by have := h r hr c hc; exact ⟨this.1, this.2.1⟩
  rcases he with rfl | rfl
  · exact split_lf hne fun r hr hc => by have := h1 r hr 10 hc; omega
  · refine split_crlf hne (fun r hr hc => by have := h1 r hr 13 hc; omega) ?_
    have : ∀ rows : List (List Nat), (∀ r ∈ rows, ∀ c ∈ r, 33 ≤ c ∧ c ≤ 126) → ∀ c ∈ joinL [13, 10] rows, c < 256 := by
      intro rows
      induction rows with
      | nil => intro _ c hc; simp [joinL] at hc
      | cons a rs ih =>
        intro hh c hc
        cases rs with
        | nil => have := hh a (.head _) c hc; omega
        | cons b rs =>
          rw [joinL_cons (by simp), List.append_assoc] at hc
          rcases List.mem_append.mp hc with hc | hc
          · have := hh a (.head _) c hc; omega
          · rcases List.mem_append.mp hc with hc | hc
            · simp at hc; omega
            · exact ih (fun r hr => hh r (.tail _ hr)) c hc
    exact this rows h1
theorem reads_all {h : Heap} {f : List Nat × Bool → PyData} : ∀ {ys : List Value} {q : List (List Nat × Bool)}, ys.length = q.length → (∀ (j : Nat) (y : Value) (p : List Nat × Bool), ys[j]? = some y → q[j]? = some p → ∃ as, Reads h y (f p) as) → ∃ as, ReadsAll h ys (q.map f) as
  | [], [], _, _ => ⟨[], .nil⟩
  | [], _ :: _, e, _ => by simp at e
  | _ :: _, [], e, _ => by simp at e
  | y :: ys, p :: q, e, hh => by
    obtain ⟨as, h1⟩ := hh 0 y p rfl rfl
    obtain ⟨bs, h2⟩ := reads_all (f := f) (ys := ys) (q := q) (by simpa using e) fun j z r hz hr => hh (j + 1) z r (by simpa using hz) (by simpa using hr)
    exact ⟨as ++ bs, .cons h1 h2⟩
theorem strs_all {q : List (List Nat × Bool)} : ∀ {ys : List Value}, ys.length = q.length → (∀ (j : Nat) (y : Value) (p : List Nat × Bool), ys[j]? = some y → q[j]? = some p → ∃ t, y = .str (S (render p)) t) → StrsAre ys ((q.map render).map S) := by
  induction q with
  | nil =>
    intro ys e _
    have : ys = [] := List.length_eq_zero_iff.mp e
    rw [this]; exact .nil
  | cons p q ih =>
    intro ys e hh
    cases ys with
    | nil => simp at e
    | cons y ys =>
      obtain ⟨t, rfl⟩ := hh 0 y p rfl rfl
      exact .cons _ _ (ih (by simpa using e) fun j z r hz hr => hh (j + 1) z r (by simpa using hz) (by simpa using hr))
theorem depth_rd (r : List Nat) : (rdData r).depth ≤ 3 := by
  unfold rdData
  split
  · simp [PyData.depth, PyData.depthAll]
  · unfold pairD
    cases readVal r <;> simp [valD, PyData.depth, PyData.depthAll]
theorem shaped_rows {q : List (List Nat × Bool)} (h : ∀ p ∈ q, ∀ c ∈ render p, c < 256) : shaped (.list (q.map fun p => rdData (render p))) = true := by
  have h1 : ∀ q : List (List Nat × Bool), (∀ p ∈ q, ∀ c ∈ render p, c < 256) → PyData.canLayAll0 (q.map fun p => rdData (render p)) = true ∧ PyData.depthAll (q.map fun p => rdData (render p)) ≤ 3 := by
    intro q
    induction q with
    | nil => intro _; simp [PyData.canLayAll0, PyData.depthAll]
    | cons p q ih =>
      intro hh
      obtain ⟨a, b⟩ := ih fun r hr => hh r (.tail _ hr)
      have hs := shaped_rd (hh p (.head _))
      unfold shaped at hs
      rw [Bool.and_eq_true] at hs
      have hd := depth_rd (render p)
      rw [List.map_cons, PyData.canLayAll0, PyData.depthAll, hs.1, a]
      exact ⟨rfl, by omega⟩
  obtain ⟨a, b⟩ := h1 q h
  unfold shaped
  rw [Bool.and_eq_true]
  refine ⟨?_, ?_⟩
  · rw [PyData.canLay0]; exact a
  · rw [decide_eq_true_eq, PyData.depth]; omega
theorem el_end {h₀ : Heap} {L : Addr} {m : Str → Option Value} {s : Shared} {I C D : Addr} {oI oC oD : Obj} {news all l : List (Addr × Obj)} {G : Value → List (Addr × Obj) → Prop} {y : Value} {h' : Heap} {tk : Nat} (F : Fr h₀ L h' m) (N : News h₀ L h' (l ++ all)) (hoff : LedOff l all)
    (sub : ∀ q ∈ (I, oI) :: (C, oC) :: (D, oD) :: news, q ∈ all) (hG : G y l) : ElEnd h₀ L m s I oI C oC D oD news G y { s with heap := h', toks := tk } :=
  ⟨h', tk, l, rfl, F, fun p hp => N p ((List.mem_append.mp hp).elim (fun h => List.mem_append_left _ h) fun h => List.mem_append_right _ (sub p h)),
    fun p hp => ⟨hoff p hp _ (sub _ (.head _)), hoff p hp _ (sub _ (.tail _ (.head _))), hoff p hp _ (sub _ (.tail _ (.tail _ (.head _))))⟩, hG⟩
theorem width_W (t : Int) : ∃ W : Nat, 4 + t.fmod 6 = (W : Int) ∧ 4 ≤ W ∧ W ≤ 9 := by
  have h1 := Int.fmod_nonneg_of_pos t (b := 6) (by decide)
  have h2 := Int.fmod_lt_of_pos t (b := 6) (by decide)
  exact ⟨(4 + t.fmod 6).toNat, by omega, by omega, by omega⟩
end Mine
end
section
open PySem PySem.Spec PySem.Calls PySem.W PyProof.Rows PySem.SeqAt
namespace Mine
local macro_rules | `(tactic| walk_at "exec Assign cons ListComp") => `(tactic| (k_here; refine floor ?_; k_dflt (refine LCg.Assign_ListComp_U (F₀ := by k_asm) (by rfl) (by with_unfolding_all rfl) (by with_unfolding_all rfl) (by decide) (by rfl) (by decide) (by rfl) (by rfl) (by rfl) ?_)))
local macro_rules | `(tactic| walk_at "eval ListComp") => `(tactic| (k_here; k_dflt (refine LCg.ListComp_U (F₀ := by k_asm) (by with_unfolding_all rfl) (by decide) (by rfl) (by decide) (by rfl) ?_)))
local macro_rules | `(tactic| walk_at "exec Assign") => `(tactic| (k_here; (fail_if_success (with_reducible show wpAny _ _ _ (Floored _ _) _ _)); refine floor ?_))
local macro_rules | `(tactic| walk_at "CompSrc") => `(tactic| (refine halt ?_))
local macro_rules | `(tactic| walk_at "Floored") => `(tactic| (unfold Floored; intro hfl'; (try dsimp only at hfl')))
local macro_rules | `(tactic| walk_at "exec If") => `(tactic| (k_here; (fail_if_success (with_reducible show wpAny _ _ _ (Floored _ _) _ _)); refine floor ?_))
local macro_rules | `(tactic| walk_at "eval Call") => `(tactic| (k_here; (with_reducible show wpAny _ _ (eval (Expr.Call (Expr.Name _ _) _ _ _) _) _ _ _); (fail_if_success (with_reducible show wpAny _ _ _ (Floored _ _) _ _)); (fail_if_success (with_reducible show wpAny _ _ (eval _ (compEnvC _ _ _ _)) _ _ _)); refine floor ?_))
local macro_rules | `(tactic| walk_at "eval IfExp") => `(tactic| (k_here; (fail_if_success (with_reducible show wpAny _ _ _ (EolQ _) _ _)); refine halt ?_))
local macro_rules | `(tactic| walk_at "compareOp NotEq ref") => `(tactic| (k_here; refine halt ?_))
local macro_rules | `(tactic| walk_at "call builtin:str.join") => `(tactic| (k_here; refine halt ?_))
local macro_rules | `(tactic| walk_at "call builtin:str.replace") => `(tactic| (k_here; refine halt ?_))
local macro_rules | `(tactic| walk_at "call builtin:str.split") => `(tactic| (k_here; refine split_call (by k_asm) (by k_asm) ‹_› ‹_› ?_; intro D' vs' h' tk' e' F' N' l1; (try k_lt l1); (try k_sweep)))
local macro_rules | `(tactic| walk_at "call ref") => `(tactic| (k_here; first
  | (refine text_call ‹_› ‹_› (by k_asm) (by k_asm) rfl (by dsimp only [Around.deeper]; omega) (by simp only [Around.deeper_units]; omega) ‹_› ‹_› ‹_› ?_; intro k' h' tk' ht' F' N'; (try k_sweep))
  | (refine enc_call ‹_› ‹_› (by k_asm) (by k_asm) rfl (by dsimp only [Around.deeper]; omega) (by simp only [Around.deeper_units]; omega) ‹_› ‹_› ‹_› ‹_› ‹_› ‹_› ‹_› ?_; intro k' h' tk' ht' F' N'; (try k_sweep))
  | (refine rows_call ‹_› ‹_› (by k_asm) (by k_asm) rfl (by dsimp only [Around.deeper]; omega) (by simp only [Around.deeper_units]; omega) ‹_› ‹_› ‹_› ‹_› ?_; intro r' its' n' h' tk' ht' hi' F' N'; (try k_sweep))
  | refine halt ?_))
theorem law_ (w : World) (p : Program) (loose : List Str) (mean : ExcName → Option Value) (mg mb : Str → Option Value) (dp un : Nat) (fr : Option (List Env)) (gd : Option (List Code)) (s : Shared) (R : Result → Shared → Prop)
    (l : Addr) (vs : List Value) (ns : List Int) (X : (hK w.params).In s.heap) (T : Top p loose mean mg mb s.heap)
    (hd : dp + 40 < recursionLimit) (hu : un + 600 < cLine) (hl : s.heap.IsList l vs.toArray) (hns : IntsAre vs ns) (hlen : ns.length ≤ 63)
    (hret : ∀ h' tk', Stays s.heap h' → R (.ok (.ret (.bool true))) { s with heap := h', toks := tk' }) :
    codeAny (model PySem.Challenge.rw_qu0048_01.prog w) { handled := none, depth := dp, frames := fr, guards := gd, units := un } (.call (.ref 154) ⟨[.ref l], []⟩) R s := by
  revert X
  k_fill
  intro X
  refine enter (K := hK w.params) (binds := [(Str.ofString "script", .ref l)]) X T.nolimit (by k_is) (by k_is) (by show dp < _; omega) (BindsTo.of_eq rfl) (locs rfl) ?_ rfl rfl rfl (by decide)
  intro L' h₁ F N
  have X' := X
  have tok := text_ok ns
  have htx := text_len ns
  have hnf := text_high ns
  obtain ⟨tl, hhead⟩ := text_head ns
  have hne : textOf ns ≠ [] := by rw [hhead]; exact List.cons_ne_nil _ _
  have hc256 : ∀ c ∈ textOf ns, c < 256 := fun c hc => (tok c hc).1.1
  obtain ⟨W, hW, h4, h9⟩ := width_W (List.take 8 ns).sum
  have hch : (103 : Nat) ≠ 10 := by decide
  have hjne : ∀ e, joinL e ((allQ W (textOf ns)).map render) ≠ [] := fun e => joined_ne h4 hhead hch tok
  have hSR := allQ_row h4 tok
  have hcnt := rows_count (W := W) htx
  k_steps
  unfold Halt
  refine if_eol ?first ?_
  case first =>
    k_steps
    · exact eolQ_crlf rfl
    · exact eolQ_lf rfl
  intro e tc k he htc1 htck
  have hjl : (joinL e ((allQ W (textOf ns)).map render)).length ≤ 200 := joined_len htx (eol_len he).2
  have hJl : (S (joinL e ((allQ W (textOf ns)).map render))).length ≤ 1000 := by rw [S_len]; omega
  have hsepl : ((S e).length == 0) = false := by rcases he with rfl | rfl <;> rfl
  rename Fr _ _ _ _ => F'
  rw [hW] at F'
  have hrow : ∀ p ∈ allQ W (textOf ns), (render p).length ≤ 100 := fun p hp => by
    have := (all_len (W := W) tok htx h4).1 (render p) (by rw [rows_allQ]; exact List.mem_map_of_mem hp)
    omega
  have hrp : ∀ r ∈ (allQ W (textOf ns)).map render, AllP r := fun r hr => by
    obtain ⟨p, hp, rfl⟩ := List.mem_map.mp hr
    exact render_prn (hSR p hp).sg
  have hrne : (allQ W (textOf ns)).map render ≠ [] := fun h => hjne e (by rw [h]; rfl)
  have hsplit := split_eol he hrne hrp
  have hfind : ∀ {vs : List Value} {i : Nat} {v : Value}, StrsAre vs (((allQ W (textOf ns)).map render).map S) → vs[i]? = some v → ∃ p t, (allQ W (textOf ns))[i]? = some p ∧ v = .str (S (render p)) t := by
    intro vs i v hvs hi
    obtain ⟨y, t, hy, rfl⟩ := strs_at hvs hi
    rw [List.getElem?_map, List.getElem?_map] at hy
    cases e : (allQ W (textOf ns))[i]? with
    | none => rw [e] at hy; cases hy
    | some p => rw [e] at hy; exact ⟨p, t, rfl, by rw [← Option.some.inj hy]⟩
  k_steps
  unfold Halt
  rename Fr _ _ _ _ => F'
  rename News _ _ _ _ => N'
  rename StrsAre _ (Txt.split _ _) => hvs
  rw [hsplit] at hvs
  have hsz := strs_len hvs
  rw [List.length_map, List.length_map] at hsz
  refine comp_src (fun i y l => ∃ p, (allQ W (textOf ns))[i]? = some p ∧ RdG (render p) y l) rfl F' N' (.head _) (by rw [List.size_toArray]; omega) ?turn ?fin
  case turn =>
    intro g i v I oI C oC D2 ys m₂ h tk news E' hi hns2 hx2 F N hsub
    rw [List.getElem?_toArray] at hi
    obtain ⟨p0, t, hp0, rfl⟩ := hfind hvs hi
    have hpm := List.mem_of_getElem? hp0
    have hgood := good_row (hSR p0 hpm)
    have hlen9 := hrow p0 hpm
    k_steps
    unfold Halt
    rename Fr _ _ _ _ => F9
    rename News _ _ _ _ => N9
    refine shw_call X' T F9 N9 rfl (by dsimp only [Around.deeper]; omega) (by simp only [Around.deeper_units]; omega) (.head _) hlen9 hgood ?_
    intro v' h' tk' led ht' F8 N8 hoff hG
    refine el_end (l := led) F8 N8 hoff (fun q hq => .tail _ hq) ?_
    exact ⟨p0, hp0, hG⟩
  case fin =>
    intro g ys news' hJ
    obtain ⟨hJ1, hJ2, hJ3⟩ := hJ
    rw [List.size_toArray, hsz] at hJ1
    k_steps
    unfold Halt
    rename Fr _ _ _ _ => F2
    rename News _ _ _ _ => N2
    rename StrsAre _ _ => hvs2
    have hsz2 := strs_len hvs2
    rw [List.length_map, List.length_map] at hsz2
    refine comp_src (fun i y l => ∃ p, (allQ W (textOf ns))[i]? = some p ∧ RdG (render p) y l) rfl F2 N2 (.head _) (by rw [← Array.length_toList, hsz2]; omega) ?turn2 ?fin2
    case turn2 =>
      intro g i v I oI C oC D2 ys2 m₂ h tk news E' hi hns2 hx2 F N hsub
      rw [← Array.getElem?_toList] at hi
      obtain ⟨p0, t, hp0, rfl⟩ := hfind hvs2 hi
      have hpm := List.mem_of_getElem? hp0
      have hlen9 := hrow p0 hpm
      k_steps
      unfold Halt
      rename Fr _ _ _ _ => F9
      rename News _ _ _ _ => N9
      refine reading_call X' T F9 N9 rfl (by dsimp only [Around.deeper]; omega) hlen9 ?_
      intro v' h' tk' led ht' F8 N8 hoff hG
      refine el_end (l := led) F8 N8 hoff (fun q hq => hq) ?_
      exact ⟨p0, hp0, hG⟩
    case fin2 =>
      intro g2 ys2 news2 hJ'
      obtain ⟨hK1, hK2, hK3⟩ := hJ'
      rw [← Array.length_toList, hsz2] at hK1
      k_steps
      unfold Halt
      rename Fr _ _ _ _ => F3
      rename News _ _ _ _ => N3
      have hD := hK2 _ (.tail _ (.head _))
      have hsh := shaped_rows (q := allQ W (textOf ns)) fun p hp c hc => by
        have := render_prn (hSR p hp).sg c hc
        have := this.2.1
        omega
      obtain ⟨as, hra⟩ := reads_all (f := fun p => rdData (render p)) hJ1 (fun j y p hy hp => by
        obtain ⟨l, hl, p', hp', hG⟩ := hJ3 j y hy
        rw [hp] at hp'; cases hp'
        exact hG _ fun q hq => (N3 q (.tail _ (hK2 q (.tail _ (.tail _ (hl q hq)))))).1)
      obtain ⟨bs, hrb⟩ := reads_all (f := fun p => rdData (render p)) hK1 (fun j y p hy hp => by
        obtain ⟨l, hl, p', hp', hG⟩ := hK3 j y hy
        rw [hp] at hp'; cases hp'
        exact hG _ fun q hq => (N3 q (.tail _ (hl q hq))).1)
      refine ne_dataH (Reads.list (N3 _ (.tail _ hD)).1 rfl rfl hra) (Reads.list (N3 _ (.head _)).1 rfl rfl hrb) hsh hsh (by simp only [Around.deeper_units]; omega) ?_
      rw [eqv_refl _ (canLay_of_shaped hsh)]
      simp only [Bool.not_true]
      k_steps
      unfold Halt
      rename Fr _ _ _ _ => F4
      rename News _ _ _ _ => N4
      refine comp_src (fun i y l => ∃ p t, (allQ W (textOf ns))[i]? = some p ∧ y = .str (S (render p)) t) rfl F4 N4 (k := ys.length) (.tail _ hD) (by rw [List.size_toArray]; omega) ?turn3 ?fin3
      case turn3 =>
        intro g i v I oI C oC D3 ys3 m₂ h tk news E' hi hns2 hx2 F N hsub
        rw [List.getElem?_toArray] at hi
        obtain ⟨l9, hl9, p0, hp0, hG0⟩ := hJ3 i v hi
        have hpm := List.mem_of_getElem? hp0
        have hgood := good_row (hSR p0 hpm)
        have hlen9 := hrow p0 hpm
        have hin : ∀ q ∈ l9, q ∈ news := fun q hq => hsub q (.tail _ (hK2 q (.tail _ (.tail _ (hl9 q hq)))))
        k_steps
        unfold Halt
        rename Fr _ _ _ _ => F9
        rename News _ _ _ _ => N9
        obtain ⟨as9, hr9⟩ := hG0 _ fun q hq => (N9 q (.tail _ (.tail _ (.tail _ (hin q hq))))).1
        refine row_call X' T F9 N9 rfl (by dsimp only [Around.deeper]; omega) (by simp only [Around.deeper_units]; omega) hlen9 hgood hr9 ?_
        intro k' h' tk' ht' F8 N8
        refine el_end (l := []) F8 N8 (fun _ h => nomatch h) (fun q hq => hq) ?_
        exact ⟨p0, k', hp0, rfl⟩
      case fin3 =>
        intro g3 ys3 news3 hJ3'
        obtain ⟨hM1, hM2, hM3⟩ := hJ3'
        rw [List.size_toArray, hJ1] at hM1
        have hstr := strs_all hM1 fun j y p hy hp => by
          obtain ⟨l, hl, p', t, hp', hG⟩ := hM3 j y hy
          rw [hp] at hp'; cases hp'
          exact ⟨t, hG⟩
        obtain ⟨q, z, hqz, hdec⟩ := lines_split h4 e (linesL (textOf ns)) (linesL_ne _)
        have hQ : allQ W (textOf ns) = q ++ [(z, false)] := hqz
        have hel := eol_len he
        k_steps
        unfold Halt
        rename Fr _ _ _ _ => F5
        rename News _ _ _ _ => N5
        have hrep := replace_S hne he hc256
        have heq : (S (q.flatMap (rowDec e) ++ z) == Txt.replace (S (textOf ns)) (Str.ofString "\n") (S e)) = true := by
          rw [lf_S, hrep, hdec, S_beq]; exact decide_eq_true rfl
        refine join_S_list (rows := (allQ W (textOf ns)).map render) (News.get N5 (.head _)) hstr ?hok ?_
        case hok =>
          have := Nat.mul_le_mul hel.2 hcnt
          rw [List.length_map]; omega
        intro t5 tk5
        k_steps
        unfold Halt
        rename Fr _ _ _ _ => F6
        rename News _ _ _ _ => N6
        refine dec_call (q := q) (z := z) X' T F6 N6 rfl (by dsimp only [Around.deeper]; omega) (by simp only [Around.deeper_units]; omega) (by rw [hQ]) he (by rw [← hQ]; exact hSR) (by rw [← hQ]; exact hjne e) (by rw [← hQ]; omega) (decoded_len h4 htx hel.2 hdec) ?_
        intro k6 h6 tk6 ht6 F7 N7
        k_steps
        unfold Halt
        rename Fr _ _ _ _ => F8
        have hnb := none_booked (X'.keeps F8.keep) (T.keeps F8.keep)
        have hlt : tc < tk6 := by
          dsimp only at *
          omega
        have hb : (S (textOf ns)).length + ((S (textOf ns)).length + 1) * (S e).length ≤ 16777216 := by
          rw [S_len, S_len]
          have := Nat.mul_le_mul (Nat.add_le_add_right htx 1) hel.2
          omega
        refine SC.replaceA (Nat.ne_of_gt (Nat.lt_of_le_of_lt (Nat.zero_le _) hlt)) (Nat.ne_of_gt htc1) (Nat.ne_of_gt hlt) hb ?_ hnb
        intro t7 tk7
        k_steps
        rename Fr _ _ _ _ => F10
        rw [heq]
        exact hret _ _ F10.keep
end Mine
end
section
open PySem PySem.W PySem.Calls PyProof.Rows Mine
namespace Hd
noncomputable section
noncomputable def lf : Life := ⟨[],[],[],0,[],[],Bool.false,⟨[]⟩,[],0,Bool.false,Bool.false,Bool.false,0,[2000,10,10],Bool.false,0,Bool.true,[],[],0,Bool.false⟩
noncomputable def dr : Drawn := ⟨0,0,0,0⟩
noncomputable def o0 (P : Params) : Obj := ⟨(Value.type "dict"),Option.none,(Data.dict ⟨[⟨(PyData.keyHash P (st [95,95,110,97,109,101,95,95])),(Value.str (st [95,95,110,97,109,101,95,95]) 1),(Value.str (st [98,117,105,108,116,105,110,115]) 160)⟩,⟨(PyData.keyHash P (st [95,95,100,111,99,95,95])),(Value.str (st [95,95,100,111,99,95,95]) 2),(Value.builtin "builtins.__doc__:str#opaque")⟩,⟨(PyData.keyHash P (st [95,95,112,97,99,107,97,103,101,95,95])),(Value.str (st [95,95,112,97,99,107,97,103,101,95,95]) 3),(Value.builtin "builtins.__package__:str#opaque")⟩,⟨(PyData.keyHash P (st [95,95,108,111,97,100,101,114,95,95])),(Value.str (st [95,95,108,111,97,100,101,114,95,95]) 4),(Value.builtin "builtins.__loader__:shared#opaque")⟩,⟨(PyData.keyHash P (st [95,95,115,112,101,99,95,95])),(Value.str (st [95,95,115,112,101,99,95,95]) 5),(Value.builtin "builtins.__spec__#opaque")⟩,⟨(PyData.keyHash P (st [95,95,98,117,105,108,100,95,99,108,97,115,115,95,95])),(Value.str (st [95,95,98,117,105,108,100,95,99,108,97,115,115,95,95]) 6),(Value.builtin "__build_class__")⟩,⟨(PyData.keyHash P (st [95,95,105,109,112,111,114,116,95,95])),(Value.str (st [95,95,105,109,112,111,114,116,95,95]) 7),(Value.builtin "__import__")⟩,⟨(PyData.keyHash P (st [97,98,115])),(Value.str (st [97,98,115]) 8),(Value.builtin "abs")⟩,⟨(PyData.keyHash P (st [97,108,108])),(Value.str (st [97,108,108]) 9),(Value.builtin "all")⟩,⟨(PyData.keyHash P (st [97,110,121])),(Value.str (st [97,110,121]) 10),(Value.builtin "any")⟩,⟨(PyData.keyHash P (st [97,115,99,105,105])),(Value.str (st [97,115,99,105,105]) 11),(Value.builtin "ascii")⟩,⟨(PyData.keyHash P (st [98,105,110])),(Value.str (st [98,105,110]) 12),(Value.builtin "bin")⟩,⟨(PyData.keyHash P (st [98,114,101,97,107,112,111,105,110,116])),(Value.str (st [98,114,101,97,107,112,111,105,110,116]) 13),(Value.builtin "breakpoint")⟩,⟨(PyData.keyHash P (st [99,97,108,108,97,98,108,101])),(Value.str (st [99,97,108,108,97,98,108,101]) 14),(Value.builtin "callable")⟩,⟨(PyData.keyHash P (st [99,104,114])),(Value.str (st [99,104,114]) 15),(Value.builtin "chr")⟩,⟨(PyData.keyHash P (st [99,111,109,112,105,108,101])),(Value.str (st [99,111,109,112,105,108,101]) 16),(Value.builtin "compile")⟩,⟨(PyData.keyHash P (st [100,101,108,97,116,116,114])),(Value.str (st [100,101,108,97,116,116,114]) 17),(Value.builtin "delattr")⟩,⟨(PyData.keyHash P (st [100,105,114])),(Value.str (st [100,105,114]) 18),(Value.builtin "dir")⟩,⟨(PyData.keyHash P (st [100,105,118,109,111,100])),(Value.str (st [100,105,118,109,111,100]) 19),(Value.builtin "divmod")⟩,⟨(PyData.keyHash P (st [101,118,97,108])),(Value.str (st [101,118,97,108]) 20),(Value.builtin "eval")⟩,⟨(PyData.keyHash P (st [101,120,101,99])),(Value.str (st [101,120,101,99]) 21),(Value.builtin "exec")⟩,⟨(PyData.keyHash P (st [102,111,114,109,97,116])),(Value.str (st [102,111,114,109,97,116]) 22),(Value.builtin "format")⟩,⟨(PyData.keyHash P (st [103,101,116,97,116,116,114])),(Value.str (st [103,101,116,97,116,116,114]) 23),(Value.builtin "getattr")⟩,⟨(PyData.keyHash P (st [103,108,111,98,97,108,115])),(Value.str (st [103,108,111,98,97,108,115]) 24),(Value.builtin "globals")⟩,⟨(PyData.keyHash P (st [104,97,115,97,116,116,114])),(Value.str (st [104,97,115,97,116,116,114]) 25),(Value.builtin "hasattr")⟩,⟨(PyData.keyHash P (st [104,97,115,104])),(Value.str (st [104,97,115,104]) 26),(Value.builtin "hash")⟩,⟨(PyData.keyHash P (st [104,101,120])),(Value.str (st [104,101,120]) 27),(Value.builtin "hex")⟩,⟨(PyData.keyHash P (st [105,100])),(Value.str (st [105,100]) 28),(Value.builtin "id")⟩,⟨(PyData.keyHash P (st [105,110,112,117,116])),(Value.str (st [105,110,112,117,116]) 29),(Value.builtin "input")⟩,⟨(PyData.keyHash P (st [105,115,105,110,115,116,97,110,99,101])),(Value.str (st [105,115,105,110,115,116,97,110,99,101]) 30),(Value.builtin "isinstance")⟩,⟨(PyData.keyHash P (st [105,115,115,117,98,99,108,97,115,115])),(Value.str (st [105,115,115,117,98,99,108,97,115,115]) 31),(Value.builtin "issubclass")⟩,⟨(PyData.keyHash P (st [105,116,101,114])),(Value.str (st [105,116,101,114]) 32),(Value.builtin "iter")⟩,⟨(PyData.keyHash P (st [97,105,116,101,114])),(Value.str (st [97,105,116,101,114]) 33),(Value.builtin "aiter")⟩,⟨(PyData.keyHash P (st [108,101,110])),(Value.str (st [108,101,110]) 34),(Value.builtin "len")⟩,⟨(PyData.keyHash P (st [108,111,99,97,108,115])),(Value.str (st [108,111,99,97,108,115]) 35),(Value.builtin "locals")⟩,⟨(PyData.keyHash P (st [109,97,120])),(Value.str (st [109,97,120]) 36),(Value.builtin "max")⟩,⟨(PyData.keyHash P (st [109,105,110])),(Value.str (st [109,105,110]) 37),(Value.builtin "min")⟩,⟨(PyData.keyHash P (st [110,101,120,116])),(Value.str (st [110,101,120,116]) 38),(Value.builtin "next")⟩,⟨(PyData.keyHash P (st [97,110,101,120,116])),(Value.str (st [97,110,101,120,116]) 39),(Value.builtin "anext")⟩,⟨(PyData.keyHash P (st [111,99,116])),(Value.str (st [111,99,116]) 40),(Value.builtin "oct")⟩,⟨(PyData.keyHash P (st [111,114,100])),(Value.str (st [111,114,100]) 41),(Value.builtin "ord")⟩,⟨(PyData.keyHash P (st [112,111,119])),(Value.str (st [112,111,119]) 42),(Value.builtin "pow")⟩,⟨(PyData.keyHash P (st [112,114,105,110,116])),(Value.str (st [112,114,105,110,116]) 43),(Value.builtin "print")⟩,⟨(PyData.keyHash P (st [114,101,112,114])),(Value.str (st [114,101,112,114]) 44),(Value.builtin "repr")⟩,⟨(PyData.keyHash P (st [114,111,117,110,100])),(Value.str (st [114,111,117,110,100]) 45),(Value.builtin "round")⟩,⟨(PyData.keyHash P (st [115,101,116,97,116,116,114])),(Value.str (st [115,101,116,97,116,116,114]) 46),(Value.builtin "setattr")⟩,⟨(PyData.keyHash P (st [115,111,114,116,101,100])),(Value.str (st [115,111,114,116,101,100]) 47),(Value.builtin "sorted")⟩,⟨(PyData.keyHash P (st [115,117,109])),(Value.str (st [115,117,109]) 48),(Value.builtin "sum")⟩,⟨(PyData.keyHash P (st [118,97,114,115])),(Value.str (st [118,97,114,115]) 49),(Value.builtin "vars")⟩,⟨(PyData.keyHash P (st [78,111,110,101])),(Value.str (st [78,111,110,101]) 50),Value.none⟩,⟨(PyData.keyHash P (st [69,108,108,105,112,115,105,115])),(Value.str (st [69,108,108,105,112,115,105,115]) 51),Value.ellipsis⟩,⟨(PyData.keyHash P (st [78,111,116,73,109,112,108,101,109,101,110,116,101,100])),(Value.str (st [78,111,116,73,109,112,108,101,109,101,110,116,101,100]) 52),Value.notImplemented⟩,⟨(PyData.keyHash P (st [70,97,108,115,101])),(Value.str (st [70,97,108,115,101]) 53),(Value.bool Bool.false)⟩,⟨(PyData.keyHash P (st [84,114,117,101])),(Value.str (st [84,114,117,101]) 54),(Value.bool Bool.true)⟩,⟨(PyData.keyHash P (st [98,111,111,108])),(Value.str (st [98,111,111,108]) 55),(Value.type "bool")⟩,⟨(PyData.keyHash P (st [109,101,109,111,114,121,118,105,101,119])),(Value.str (st [109,101,109,111,114,121,118,105,101,119]) 56),(Value.type "memoryview")⟩,⟨(PyData.keyHash P (st [98,121,116,101,97,114,114,97,121])),(Value.str (st [98,121,116,101,97,114,114,97,121]) 57),(Value.type "bytearray")⟩,⟨(PyData.keyHash P (st [98,121,116,101,115])),(Value.str (st [98,121,116,101,115]) 58),(Value.type "bytes")⟩,⟨(PyData.keyHash P (st [99,108,97,115,115,109,101,116,104,111,100])),(Value.str (st [99,108,97,115,115,109,101,116,104,111,100]) 59),(Value.type "classmethod")⟩,⟨(PyData.keyHash P (st [99,111,109,112,108,101,120])),(Value.str (st [99,111,109,112,108,101,120]) 60),(Value.type "complex")⟩,⟨(PyData.keyHash P (st [100,105,99,116])),(Value.str (st [100,105,99,116]) 61),(Value.type "dict")⟩,⟨(PyData.keyHash P (st [101,110,117,109,101,114,97,116,101])),(Value.str (st [101,110,117,109,101,114,97,116,101]) 62),(Value.type "enumerate")⟩,⟨(PyData.keyHash P (st [102,105,108,116,101,114])),(Value.str (st [102,105,108,116,101,114]) 63),(Value.type "filter")⟩,⟨(PyData.keyHash P (st [102,108,111,97,116])),(Value.str (st [102,108,111,97,116]) 64),(Value.type "float")⟩,⟨(PyData.keyHash P (st [102,114,111,122,101,110,115,101,116])),(Value.str (st [102,114,111,122,101,110,115,101,116]) 65),(Value.type "frozenset")⟩,⟨(PyData.keyHash P (st [112,114,111,112,101,114,116,121])),(Value.str (st [112,114,111,112,101,114,116,121]) 66),(Value.type "property")⟩,⟨(PyData.keyHash P (st [105,110,116])),(Value.str (st [105,110,116]) 67),(Value.type "int")⟩,⟨(PyData.keyHash P (st [108,105,115,116])),(Value.str (st [108,105,115,116]) 68),(Value.type "list")⟩,⟨(PyData.keyHash P (st [109,97,112])),(Value.str (st [109,97,112]) 69),(Value.type "map")⟩,⟨(PyData.keyHash P (st [111,98,106,101,99,116])),(Value.str (st [111,98,106,101,99,116]) 70),(Value.type "object")⟩,⟨(PyData.keyHash P (st [114,97,110,103,101])),(Value.str (st [114,97,110,103,101]) 71),(Value.type "range")⟩,⟨(PyData.keyHash P (st [114,101,118,101,114,115,101,100])),(Value.str (st [114,101,118,101,114,115,101,100]) 72),(Value.type "reversed")⟩,⟨(PyData.keyHash P (st [115,101,116])),(Value.str (st [115,101,116]) 73),(Value.type "set")⟩,⟨(PyData.keyHash P (st [115,108,105,99,101])),(Value.str (st [115,108,105,99,101]) 74),(Value.type "slice")⟩,⟨(PyData.keyHash P (st [115,116,97,116,105,99,109,101,116,104,111,100])),(Value.str (st [115,116,97,116,105,99,109,101,116,104,111,100]) 75),(Value.type "staticmethod")⟩,⟨(PyData.keyHash P (st [115,116,114])),(Value.str (st [115,116,114]) 76),(Value.type "str")⟩,⟨(PyData.keyHash P (st [115,117,112,101,114])),(Value.str (st [115,117,112,101,114]) 77),(Value.type "super")⟩,⟨(PyData.keyHash P (st [116,117,112,108,101])),(Value.str (st [116,117,112,108,101]) 78),(Value.type "tuple")⟩,⟨(PyData.keyHash P (st [116,121,112,101])),(Value.str (st [116,121,112,101]) 79),(Value.type "type")⟩,⟨(PyData.keyHash P (st [122,105,112])),(Value.str (st [122,105,112]) 80),(Value.type "zip")⟩,⟨(PyData.keyHash P (st [95,95,100,101,98,117,103,95,95])),(Value.str (st [95,95,100,101,98,117,103,95,95]) 81),(Value.bool Bool.true)⟩,⟨(PyData.keyHash P (st [66,97,115,101,69,120,99,101,112,116,105,111,110])),(Value.str (st [66,97,115,101,69,120,99,101,112,116,105,111,110]) 82),(Value.type "BaseException")⟩,⟨(PyData.keyHash P (st [66,97,115,101,69,120,99,101,112,116,105,111,110,71,114,111,117,112])),(Value.str (st [66,97,115,101,69,120,99,101,112,116,105,111,110,71,114,111,117,112]) 83),(Value.type "BaseExceptionGroup")⟩,⟨(PyData.keyHash P (st [69,120,99,101,112,116,105,111,110])),(Value.str (st [69,120,99,101,112,116,105,111,110]) 84),(Value.type "Exception")⟩,⟨(PyData.keyHash P (st [71,101,110,101,114,97,116,111,114,69,120,105,116])),(Value.str (st [71,101,110,101,114,97,116,111,114,69,120,105,116]) 85),(Value.type "GeneratorExit")⟩,⟨(PyData.keyHash P (st [75,101,121,98,111,97,114,100,73,110,116,101,114,114,117,112,116])),(Value.str (st [75,101,121,98,111,97,114,100,73,110,116,101,114,114,117,112,116]) 86),(Value.type "KeyboardInterrupt")⟩,⟨(PyData.keyHash P (st [83,121,115,116,101,109,69,120,105,116])),(Value.str (st [83,121,115,116,101,109,69,120,105,116]) 87),(Value.type "SystemExit")⟩,⟨(PyData.keyHash P (st [65,114,105,116,104,109,101,116,105,99,69,114,114,111,114])),(Value.str (st [65,114,105,116,104,109,101,116,105,99,69,114,114,111,114]) 88),(Value.type "ArithmeticError")⟩,⟨(PyData.keyHash P (st [65,115,115,101,114,116,105,111,110,69,114,114,111,114])),(Value.str (st [65,115,115,101,114,116,105,111,110,69,114,114,111,114]) 89),(Value.type "AssertionError")⟩,⟨(PyData.keyHash P (st [65,116,116,114,105,98,117,116,101,69,114,114,111,114])),(Value.str (st [65,116,116,114,105,98,117,116,101,69,114,114,111,114]) 90),(Value.type "AttributeError")⟩,⟨(PyData.keyHash P (st [66,117,102,102,101,114,69,114,114,111,114])),(Value.str (st [66,117,102,102,101,114,69,114,114,111,114]) 91),(Value.type "BufferError")⟩,⟨(PyData.keyHash P (st [69,79,70,69,114,114,111,114])),(Value.str (st [69,79,70,69,114,114,111,114]) 92),(Value.type "EOFError")⟩,⟨(PyData.keyHash P (st [73,109,112,111,114,116,69,114,114,111,114])),(Value.str (st [73,109,112,111,114,116,69,114,114,111,114]) 93),(Value.type "ImportError")⟩,⟨(PyData.keyHash P (st [76,111,111,107,117,112,69,114,114,111,114])),(Value.str (st [76,111,111,107,117,112,69,114,114,111,114]) 94),(Value.type "LookupError")⟩,⟨(PyData.keyHash P (st [77,101,109,111,114,121,69,114,114,111,114])),(Value.str (st [77,101,109,111,114,121,69,114,114,111,114]) 95),(Value.type "MemoryError")⟩,⟨(PyData.keyHash P (st [78,97,109,101,69,114,114,111,114])),(Value.str (st [78,97,109,101,69,114,114,111,114]) 96),(Value.type "NameError")⟩,⟨(PyData.keyHash P (st [79,83,69,114,114,111,114])),(Value.str (st [79,83,69,114,114,111,114]) 97),(Value.type "OSError")⟩,⟨(PyData.keyHash P (st [82,101,102,101,114,101,110,99,101,69,114,114,111,114])),(Value.str (st [82,101,102,101,114,101,110,99,101,69,114,114,111,114]) 98),(Value.type "ReferenceError")⟩,⟨(PyData.keyHash P (st [82,117,110,116,105,109,101,69,114,114,111,114])),(Value.str (st [82,117,110,116,105,109,101,69,114,114,111,114]) 99),(Value.type "RuntimeError")⟩,⟨(PyData.keyHash P (st [83,116,111,112,65,115,121,110,99,73,116,101,114,97,116,105,111,110])),(Value.str (st [83,116,111,112,65,115,121,110,99,73,116,101,114,97,116,105,111,110]) 100),(Value.type "StopAsyncIteration")⟩,⟨(PyData.keyHash P (st [83,116,111,112,73,116,101,114,97,116,105,111,110])),(Value.str (st [83,116,111,112,73,116,101,114,97,116,105,111,110]) 101),(Value.type "StopIteration")⟩,⟨(PyData.keyHash P (st [83,121,110,116,97,120,69,114,114,111,114])),(Value.str (st [83,121,110,116,97,120,69,114,114,111,114]) 102),(Value.type "SyntaxError")⟩,⟨(PyData.keyHash P (st [83,121,115,116,101,109,69,114,114,111,114])),(Value.str (st [83,121,115,116,101,109,69,114,114,111,114]) 103),(Value.type "SystemError")⟩,⟨(PyData.keyHash P (st [84,121,112,101,69,114,114,111,114])),(Value.str (st [84,121,112,101,69,114,114,111,114]) 104),(Value.type "TypeError")⟩,⟨(PyData.keyHash P (st [86,97,108,117,101,69,114,114,111,114])),(Value.str (st [86,97,108,117,101,69,114,114,111,114]) 105),(Value.type "ValueError")⟩,⟨(PyData.keyHash P (st [87,97,114,110,105,110,103])),(Value.str (st [87,97,114,110,105,110,103]) 106),(Value.type "Warning")⟩,⟨(PyData.keyHash P (st [70,108,111,97,116,105,110,103,80,111,105,110,116,69,114,114,111,114])),(Value.str (st [70,108,111,97,116,105,110,103,80,111,105,110,116,69,114,114,111,114]) 107),(Value.type "FloatingPointError")⟩,⟨(PyData.keyHash P (st [79,118,101,114,102,108,111,119,69,114,114,111,114])),(Value.str (st [79,118,101,114,102,108,111,119,69,114,114,111,114]) 108),(Value.type "OverflowError")⟩,⟨(PyData.keyHash P (st [90,101,114,111,68,105,118,105,115,105,111,110,69,114,114,111,114])),(Value.str (st [90,101,114,111,68,105,118,105,115,105,111,110,69,114,114,111,114]) 109),(Value.type "ZeroDivisionError")⟩,⟨(PyData.keyHash P (st [66,121,116,101,115,87,97,114,110,105,110,103])),(Value.str (st [66,121,116,101,115,87,97,114,110,105,110,103]) 110),(Value.type "BytesWarning")⟩,⟨(PyData.keyHash P (st [68,101,112,114,101,99,97,116,105,111,110,87,97,114,110,105,110,103])),(Value.str (st [68,101,112,114,101,99,97,116,105,111,110,87,97,114,110,105,110,103]) 111),(Value.type "DeprecationWarning")⟩,⟨(PyData.keyHash P (st [69,110,99,111,100,105,110,103,87,97,114,110,105,110,103])),(Value.str (st [69,110,99,111,100,105,110,103,87,97,114,110,105,110,103]) 112),(Value.type "EncodingWarning")⟩,⟨(PyData.keyHash P (st [70,117,116,117,114,101,87,97,114,110,105,110,103])),(Value.str (st [70,117,116,117,114,101,87,97,114,110,105,110,103]) 113),(Value.type "FutureWarning")⟩,⟨(PyData.keyHash P (st [73,109,112,111,114,116,87,97,114,110,105,110,103])),(Value.str (st [73,109,112,111,114,116,87,97,114,110,105,110,103]) 114),(Value.type "ImportWarning")⟩,⟨(PyData.keyHash P (st [80,101,110,100,105,110,103,68,101,112,114,101,99,97,116,105,111,110,87,97,114,110,105,110,103])),(Value.str (st [80,101,110,100,105,110,103,68,101,112,114,101,99,97,116,105,111,110,87,97,114,110,105,110,103]) 115),(Value.type "PendingDeprecationWarning")⟩,⟨(PyData.keyHash P (st [82,101,115,111,117,114,99,101,87,97,114,110,105,110,103])),(Value.str (st [82,101,115,111,117,114,99,101,87,97,114,110,105,110,103]) 116),(Value.type "ResourceWarning")⟩,⟨(PyData.keyHash P (st [82,117,110,116,105,109,101,87,97,114,110,105,110,103])),(Value.str (st [82,117,110,116,105,109,101,87,97,114,110,105,110,103]) 117),(Value.type "RuntimeWarning")⟩,⟨(PyData.keyHash P (st [83,121,110,116,97,120,87,97,114,110,105,110,103])),(Value.str (st [83,121,110,116,97,120,87,97,114,110,105,110,103]) 118),(Value.type "SyntaxWarning")⟩,⟨(PyData.keyHash P (st [85,110,105,99,111,100,101,87,97,114,110,105,110,103])),(Value.str (st [85,110,105,99,111,100,101,87,97,114,110,105,110,103]) 119),(Value.type "UnicodeWarning")⟩,⟨(PyData.keyHash P (st [85,115,101,114,87,97,114,110,105,110,103])),(Value.str (st [85,115,101,114,87,97,114,110,105,110,103]) 120),(Value.type "UserWarning")⟩,⟨(PyData.keyHash P (st [66,108,111,99,107,105,110,103,73,79,69,114,114,111,114])),(Value.str (st [66,108,111,99,107,105,110,103,73,79,69,114,114,111,114]) 121),(Value.type "BlockingIOError")⟩,⟨(PyData.keyHash P (st [67,104,105,108,100,80,114,111,99,101,115,115,69,114,114,111,114])),(Value.str (st [67,104,105,108,100,80,114,111,99,101,115,115,69,114,114,111,114]) 122),(Value.type "ChildProcessError")⟩,⟨(PyData.keyHash P (st [67,111,110,110,101,99,116,105,111,110,69,114,114,111,114])),(Value.str (st [67,111,110,110,101,99,116,105,111,110,69,114,114,111,114]) 123),(Value.type "ConnectionError")⟩,⟨(PyData.keyHash P (st [70,105,108,101,69,120,105,115,116,115,69,114,114,111,114])),(Value.str (st [70,105,108,101,69,120,105,115,116,115,69,114,114,111,114]) 124),(Value.type "FileExistsError")⟩,⟨(PyData.keyHash P (st [70,105,108,101,78,111,116,70,111,117,110,100,69,114,114,111,114])),(Value.str (st [70,105,108,101,78,111,116,70,111,117,110,100,69,114,114,111,114]) 125),(Value.type "FileNotFoundError")⟩,⟨(PyData.keyHash P (st [73,110,116,101,114,114,117,112,116,101,100,69,114,114,111,114])),(Value.str (st [73,110,116,101,114,114,117,112,116,101,100,69,114,114,111,114]) 126),(Value.type "InterruptedError")⟩,⟨(PyData.keyHash P (st [73,115,65,68,105,114,101,99,116,111,114,121,69,114,114,111,114])),(Value.str (st [73,115,65,68,105,114,101,99,116,111,114,121,69,114,114,111,114]) 127),(Value.type "IsADirectoryError")⟩,⟨(PyData.keyHash P (st [78,111,116,65,68,105,114,101,99,116,111,114,121,69,114,114,111,114])),(Value.str (st [78,111,116,65,68,105,114,101,99,116,111,114,121,69,114,114,111,114]) 128),(Value.type "NotADirectoryError")⟩,⟨(PyData.keyHash P (st [80,101,114,109,105,115,115,105,111,110,69,114,114,111,114])),(Value.str (st [80,101,114,109,105,115,115,105,111,110,69,114,114,111,114]) 129),(Value.type "PermissionError")⟩,⟨(PyData.keyHash P (st [80,114,111,99,101,115,115,76,111,111,107,117,112,69,114,114,111,114])),(Value.str (st [80,114,111,99,101,115,115,76,111,111,107,117,112,69,114,114,111,114]) 130),(Value.type "ProcessLookupError")⟩,⟨(PyData.keyHash P (st [84,105,109,101,111,117,116,69,114,114,111,114])),(Value.str (st [84,105,109,101,111,117,116,69,114,114,111,114]) 131),(Value.type "TimeoutError")⟩,⟨(PyData.keyHash P (st [73,110,100,101,110,116,97,116,105,111,110,69,114,114,111,114])),(Value.str (st [73,110,100,101,110,116,97,116,105,111,110,69,114,114,111,114]) 132),(Value.type "IndentationError")⟩,⟨(PyData.keyHash P (st [95,73,110,99,111,109,112,108,101,116,101,73,110,112,117,116,69,114,114,111,114])),(Value.str (st [95,73,110,99,111,109,112,108,101,116,101,73,110,112,117,116,69,114,114,111,114]) 133),(Value.type "_IncompleteInputError")⟩,⟨(PyData.keyHash P (st [73,110,100,101,120,69,114,114,111,114])),(Value.str (st [73,110,100,101,120,69,114,114,111,114]) 134),(Value.type "IndexError")⟩,⟨(PyData.keyHash P (st [75,101,121,69,114,114,111,114])),(Value.str (st [75,101,121,69,114,114,111,114]) 135),(Value.type "KeyError")⟩,⟨(PyData.keyHash P (st [77,111,100,117,108,101,78,111,116,70,111,117,110,100,69,114,114,111,114])),(Value.str (st [77,111,100,117,108,101,78,111,116,70,111,117,110,100,69,114,114,111,114]) 136),(Value.type "ModuleNotFoundError")⟩,⟨(PyData.keyHash P (st [78,111,116,73,109,112,108,101,109,101,110,116,101,100,69,114,114,111,114])),(Value.str (st [78,111,116,73,109,112,108,101,109,101,110,116,101,100,69,114,114,111,114]) 137),(Value.type "NotImplementedError")⟩,⟨(PyData.keyHash P (st [80,121,116,104,111,110,70,105,110,97,108,105,122,97,116,105,111,110,69,114,114,111,114])),(Value.str (st [80,121,116,104,111,110,70,105,110,97,108,105,122,97,116,105,111,110,69,114,114,111,114]) 138),(Value.type "PythonFinalizationError")⟩,⟨(PyData.keyHash P (st [82,101,99,117,114,115,105,111,110,69,114,114,111,114])),(Value.str (st [82,101,99,117,114,115,105,111,110,69,114,114,111,114]) 139),(Value.type "RecursionError")⟩,⟨(PyData.keyHash P (st [85,110,98,111,117,110,100,76,111,99,97,108,69,114,114,111,114])),(Value.str (st [85,110,98,111,117,110,100,76,111,99,97,108,69,114,114,111,114]) 140),(Value.type "UnboundLocalError")⟩,⟨(PyData.keyHash P (st [85,110,105,99,111,100,101,69,114,114,111,114])),(Value.str (st [85,110,105,99,111,100,101,69,114,114,111,114]) 141),(Value.type "UnicodeError")⟩,⟨(PyData.keyHash P (st [66,114,111,107,101,110,80,105,112,101,69,114,114,111,114])),(Value.str (st [66,114,111,107,101,110,80,105,112,101,69,114,114,111,114]) 142),(Value.type "BrokenPipeError")⟩,⟨(PyData.keyHash P (st [67,111,110,110,101,99,116,105,111,110,65,98,111,114,116,101,100,69,114,114,111,114])),(Value.str (st [67,111,110,110,101,99,116,105,111,110,65,98,111,114,116,101,100,69,114,114,111,114]) 143),(Value.type "ConnectionAbortedError")⟩,⟨(PyData.keyHash P (st [67,111,110,110,101,99,116,105,111,110,82,101,102,117,115,101,100,69,114,114,111,114])),(Value.str (st [67,111,110,110,101,99,116,105,111,110,82,101,102,117,115,101,100,69,114,114,111,114]) 144),(Value.type "ConnectionRefusedError")⟩,⟨(PyData.keyHash P (st [67,111,110,110,101,99,116,105,111,110,82,101,115,101,116,69,114,114,111,114])),(Value.str (st [67,111,110,110,101,99,116,105,111,110,82,101,115,101,116,69,114,114,111,114]) 145),(Value.type "ConnectionResetError")⟩,⟨(PyData.keyHash P (st [84,97,98,69,114,114,111,114])),(Value.str (st [84,97,98,69,114,114,111,114]) 146),(Value.type "TabError")⟩,⟨(PyData.keyHash P (st [85,110,105,99,111,100,101,68,101,99,111,100,101,69,114,114,111,114])),(Value.str (st [85,110,105,99,111,100,101,68,101,99,111,100,101,69,114,114,111,114]) 147),(Value.type "UnicodeDecodeError")⟩,⟨(PyData.keyHash P (st [85,110,105,99,111,100,101,69,110,99,111,100,101,69,114,114,111,114])),(Value.str (st [85,110,105,99,111,100,101,69,110,99,111,100,101,69,114,114,111,114]) 148),(Value.type "UnicodeEncodeError")⟩,⟨(PyData.keyHash P (st [85,110,105,99,111,100,101,84,114,97,110,115,108,97,116,101,69,114,114,111,114])),(Value.str (st [85,110,105,99,111,100,101,84,114,97,110,115,108,97,116,101,69,114,114,111,114]) 149),(Value.type "UnicodeTranslateError")⟩,⟨(PyData.keyHash P (st [69,120,99,101,112,116,105,111,110,71,114,111,117,112])),(Value.str (st [69,120,99,101,112,116,105,111,110,71,114,111,117,112]) 150),(Value.type "ExceptionGroup")⟩,⟨(PyData.keyHash P (st [69,110,118,105,114,111,110,109,101,110,116,69,114,114,111,114])),(Value.str (st [69,110,118,105,114,111,110,109,101,110,116,69,114,114,111,114]) 151),(Value.type "OSError")⟩,⟨(PyData.keyHash P (st [73,79,69,114,114,111,114])),(Value.str (st [73,79,69,114,114,111,114]) 152),(Value.type "OSError")⟩,⟨(PyData.keyHash P (st [111,112,101,110])),(Value.str (st [111,112,101,110]) 153),(Value.builtin "open")⟩,⟨(PyData.keyHash P (st [113,117,105,116])),(Value.str (st [113,117,105,116]) 154),(Value.builtin "builtins.quit#opaque")⟩,⟨(PyData.keyHash P (st [101,120,105,116])),(Value.str (st [101,120,105,116]) 155),(Value.builtin "builtins.exit#opaque")⟩,⟨(PyData.keyHash P (st [99,111,112,121,114,105,103,104,116])),(Value.str (st [99,111,112,121,114,105,103,104,116]) 156),(Value.builtin "builtins.copyright#opaque")⟩,⟨(PyData.keyHash P (st [99,114,101,100,105,116,115])),(Value.str (st [99,114,101,100,105,116,115]) 157),(Value.builtin "builtins.credits#opaque")⟩,⟨(PyData.keyHash P (st [108,105,99,101,110,115,101])),(Value.str (st [108,105,99,101,110,115,101]) 158),(Value.builtin "builtins.license#opaque")⟩,⟨(PyData.keyHash P (st [104,101,108,112])),(Value.str (st [104,101,108,112]) 159),(Value.builtin "builtins.help#opaque")⟩]⟩ 159),⟨[]⟩⟩
noncomputable def o1 (P : Params) : Obj := ⟨(Value.type "dict"),Option.none,(Data.dict ⟨[⟨(PyData.keyHash P (st [98,117,105,108,116,105,110,115])),(Value.str (st [98,117,105,108,116,105,110,115]) 162),(Value.ref 4)⟩,⟨(PyData.keyHash P (st [95,95,109,97,105,110,95,95])),(Value.str (st [95,95,109,97,105,110,95,95]) 163),(Value.ref 5)⟩,⟨(PyData.keyHash P (st [95,115,114,101])),(Value.str (st [95,115,114,101]) 244),(Value.ref 12)⟩]⟩ 3),⟨[]⟩⟩
noncomputable def o2 (P : Params) : Obj := ⟨Value.none,Option.none,(Data.dict ⟨[⟨(PyData.keyHash P (st [105,109,112,111,114,116,46,108,111,97,100,101,100,46,95,115,114,101])),(Value.str (st [105,109,112,111,114,116,46,108,111,97,100,101,100,46,95,115,114,101]) 183),(Value.bool Bool.true)⟩,⟨(PyData.keyHash P (st [99,108,97,115,115,46,95,102,114,111,122,101,110,95,105,109,112,111,114,116,108,105,98,46,66,117,105,108,116,105,110,73,109,112,111,114,116,101,114])),(Value.str (st [99,108,97,115,115,46,95,102,114,111,122,101,110,95,105,109,112,111,114,116,108,105,98,46,66,117,105,108,116,105,110,73,109,112,111,114,116,101,114]) 185),(Value.ref 14)⟩,⟨(PyData.keyHash P (st [119,97,116,99,104,101,100,46,105,109,112,111,114,116])),(Value.str (st [119,97,116,99,104,101,100,46,105,109,112,111,114,116]) 206),(Value.ref 18)⟩,⟨(PyData.keyHash P (st [99,108,97,115,115,46,95,102,114,111,122,101,110,95,105,109,112,111,114,116,108,105,98,46,77,111,100,117,108,101,83,112,101,99])),(Value.str (st [99,108,97,115,115,46,95,102,114,111,122,101,110,95,105,109,112,111,114,116,108,105,98,46,77,111,100,117,108,101,83,112,101,99]) 216),(Value.ref 22)⟩,⟨(PyData.keyHash P (st [115,121,115,46,109,111,100,117,108,101,115,46,98,111,111,107,101,100,45,101,112,111,99,104])),(Value.str (st [115,121,115,46,109,111,100,117,108,101,115,46,98,111,111,107,101,100,45,101,112,111,99,104]) 245),(Value.int 3 0)⟩,⟨(PyData.keyHash P (st [105,109,112,111,114,116,46,108,97,116,101,114,45,108,97,105,100,46,95,115,114,101])),(Value.str (st [105,109,112,111,114,116,46,108,97,116,101,114,45,108,97,105,100,46,95,115,114,101]) 270),(Value.bool Bool.true)⟩,⟨(PyData.keyHash P (st [119,97,116,99,104,101,100,46,108,105,98,114,97,114,121])),(Value.str (st [119,97,116,99,104,101,100,46,108,105,98,114,97,114,121]) 272),(Value.ref 27)⟩,⟨(PyData.keyHash P (st [119,97,116,99,104,101,100,46,108,105,98,114,97,114,121,45,111,98,106,101,99,116,115])),(Value.str (st [119,97,116,99,104,101,100,46,108,105,98,114,97,114,121,45,111,98,106,101,99,116,115]) 0),(Value.str (st [12]) 0)⟩,⟨(PyData.keyHash P (st [119,97,116,99,104,101,100,46,108,105,98,114,97,114,121,45,100,101,101,112,46,95,115,114,101])),(Value.str (st [119,97,116,99,104,101,100,46,108,105,98,114,97,114,121,45,100,101,101,112,46,95,115,114,101]) 273),(Value.str (st [4,0,0,11,4,0,0,11,4,0,0,3,4,0,0,11,8,4,100,105,99,116,2]) 0)⟩]⟩ 9),⟨[]⟩⟩
noncomputable def o3 (P : Params) : Obj := ⟨(Value.type "dict"),Option.none,(Data.dict ⟨[⟨(PyData.keyHash P (st [95,95,110,97,109,101,95,95])),(Value.str (st [95,95,110,97,109,101,95,95]) 165),(Value.str (st [95,95,109,97,105,110,95,95]) 164)⟩,⟨(PyData.keyHash P (st [95,95,100,111,99,95,95])),(Value.str (st [95,95,100,111,99,95,95]) 166),Value.none⟩,⟨(PyData.keyHash P (st [95,95,112,97,99,107,97,103,101,95,95])),(Value.str (st [95,95,112,97,99,107,97,103,101,95,95]) 167),Value.none⟩,⟨(PyData.keyHash P (st [95,95,108,111,97,100,101,114,95,95])),(Value.str (st [95,95,108,111,97,100,101,114,95,95]) 168),(Value.builtin "__main__.__loader__#opaque")⟩,⟨(PyData.keyHash P (st [95,95,115,112,101,99,95,95])),(Value.str (st [95,95,115,112,101,99,95,95]) 169),Value.none⟩,⟨(PyData.keyHash P (st [95,95,97,110,110,111,116,97,116,105,111,110,115,95,95])),(Value.str (st [95,95,97,110,110,111,116,97,116,105,111,110,115,95,95]) 170),(Value.ref 6)⟩,⟨(PyData.keyHash P (st [95,95,98,117,105,108,116,105,110,115,95,95])),(Value.str (st [95,95,98,117,105,108,116,105,110,115,95,95]) 171),(Value.ref 4)⟩,⟨(PyData.keyHash P (st [95,95,102,105,108,101,95,95])),(Value.str (st [95,95,102,105,108,101,95,95]) 173),(Value.str (st [47,99,108,97,105,109,47,99,117,116,46,112,121]) 172)⟩,⟨(PyData.keyHash P (st [95,95,99,97,99,104,101,100,95,95])),(Value.str (st [95,95,99,97,99,104,101,100,95,95]) 174),Value.none⟩,⟨(PyData.keyHash P (st [95,115,114,101])),(Value.str (st [95,115,114,101]) 275),(Value.ref 12)⟩]⟩ 10),⟨[]⟩⟩
noncomputable def o4 (P : Params) : Obj := ⟨(Value.type "module"),(Option.some 0),Data.plain,⟨[]⟩⟩
noncomputable def o5 (P : Params) : Obj := ⟨(Value.type "module"),(Option.some 3),Data.plain,⟨[]⟩⟩
noncomputable def o6 (P : Params) : Obj := ⟨(Value.type "dict"),Option.none,(Data.dict ⟨[]⟩ 0),⟨[]⟩⟩
noncomputable def o7 (P : Params) : Obj := ⟨(Value.type "tuple"),Option.none,(Data.seq ⟨[]⟩ 0),⟨[]⟩⟩
noncomputable def o8 (P : Params) : Obj := ⟨Value.none,Option.none,(Data.fields ⟨[]⟩),⟨[]⟩⟩
noncomputable def o9 (P : Params) : Obj := ⟨(Value.type "code"),Option.none,(Data.fields ⟨[(Value.str (st [60,109,111,100,117,108,101,62]) 176),(Value.str (st [60,109,111,100,117,108,101,62]) 177),(Value.str (st [47,99,108,97,105,109,47,99,117,116,46,112,121]) 178),(Value.int 1 0),(Value.int 0 0),(Value.int 0 0),(Value.int 0 0),(Value.int 0 0),(Value.ref 7),(Value.bool Bool.false),(Value.int 175 0),(Value.ref 8),Value.none,Value.none,Value.none,Value.none,(Value.int 179 0),(Value.int 1 0),(Value.str (st [47,99,108,97,105,109,47,99,117,116,46,112,121]) 180)]⟩),⟨[]⟩⟩
noncomputable def o10 (P : Params) : Obj := ⟨(Value.type "frame"),Option.none,Data.plain,⟨[(Option.some (Value.ref 9)),(Option.some (Value.ref 3)),(Option.some (Value.ref 3)),Option.none,(Option.some (Value.str (st [95,95,109,97,105,110,95,95]) 164)),Option.none,(Option.some (Value.ref 0))]⟩⟩
noncomputable def o11 (P : Params) : Obj := ⟨(Value.type "dict"),Option.none,(Data.dict ⟨[⟨(PyData.keyHash P (st [95,95,110,97,109,101,95,95])),(Value.str (st [95,95,110,97,109,101,95,95]) 247),(Value.str (st [95,115,114,101]) 246)⟩,⟨(PyData.keyHash P (st [95,95,100,111,99,95,95])),(Value.str (st [95,95,100,111,99,95,95]) 248),Value.none⟩,⟨(PyData.keyHash P (st [95,95,112,97,99,107,97,103,101,95,95])),(Value.str (st [95,95,112,97,99,107,97,103,101,95,95]) 250),(Value.str (st []) 249)⟩,⟨(PyData.keyHash P (st [95,95,108,111,97,100,101,114,95,95])),(Value.str (st [95,95,108,111,97,100,101,114,95,95]) 251),(Value.builtin "off-the-table:_sre.__loader__:shared#opaque")⟩,⟨(PyData.keyHash P (st [95,95,115,112,101,99,95,95])),(Value.str (st [95,95,115,112,101,99,95,95]) 252),(Value.builtin "off-the-table:_sre.__spec__:shared#opaque")⟩,⟨(PyData.keyHash P (st [99,111,109,112,105,108,101])),(Value.str (st [99,111,109,112,105,108,101]) 253),(Value.builtin "_sre.compile")⟩,⟨(PyData.keyHash P (st [116,101,109,112,108,97,116,101])),(Value.str (st [116,101,109,112,108,97,116,101]) 254),(Value.builtin "off-the-table:_sre.template:shared#opaque")⟩,⟨(PyData.keyHash P (st [103,101,116,99,111,100,101,115,105,122,101])),(Value.str (st [103,101,116,99,111,100,101,115,105,122,101]) 255),(Value.builtin "off-the-table:_sre.getcodesize:shared#opaque")⟩,⟨(PyData.keyHash P (st [97,115,99,105,105,95,105,115,99,97,115,101,100])),(Value.str (st [97,115,99,105,105,95,105,115,99,97,115,101,100]) 256),(Value.builtin "off-the-table:_sre.ascii_iscased:shared#opaque")⟩,⟨(PyData.keyHash P (st [117,110,105,99,111,100,101,95,105,115,99,97,115,101,100])),(Value.str (st [117,110,105,99,111,100,101,95,105,115,99,97,115,101,100]) 257),(Value.builtin "off-the-table:_sre.unicode_iscased:shared#opaque")⟩,⟨(PyData.keyHash P (st [97,115,99,105,105,95,116,111,108,111,119,101,114])),(Value.str (st [97,115,99,105,105,95,116,111,108,111,119,101,114]) 258),(Value.builtin "off-the-table:_sre.ascii_tolower:shared#opaque")⟩,⟨(PyData.keyHash P (st [117,110,105,99,111,100,101,95,116,111,108,111,119,101,114])),(Value.str (st [117,110,105,99,111,100,101,95,116,111,108,111,119,101,114]) 259),(Value.builtin "off-the-table:_sre.unicode_tolower:shared#opaque")⟩,⟨(PyData.keyHash P (st [77,65,71,73,67])),(Value.str (st [77,65,71,73,67]) 261),(Value.int 20230612 260)⟩,⟨(PyData.keyHash P (st [67,79,68,69,83,73,90,69])),(Value.str (st [67,79,68,69,83,73,90,69]) 263),(Value.int 4 262)⟩,⟨(PyData.keyHash P (st [77,65,88,82,69,80,69,65,84])),(Value.str (st [77,65,88,82,69,80,69,65,84]) 265),(Value.int 4294967295 264)⟩,⟨(PyData.keyHash P (st [77,65,88,71,82,79,85,80,83])),(Value.str (st [77,65,88,71,82,79,85,80,83]) 267),(Value.int 1073741823 266)⟩,⟨(PyData.keyHash P (st [99,111,112,121,114,105,103,104,116])),(Value.str (st [99,111,112,121,114,105,103,104,116]) 269),(Value.str (st [32,83,82,69,32,50,46,50,46,50,32,67,111,112,121,114,105,103,104,116,32,40,99,41,32,49,57,57,55,45,50,48,48,50,32,98,121,32,83,101,99,114,101,116,32,76,97,98,115,32,65,66,32]) 268)⟩]⟩ 17),⟨[]⟩⟩
noncomputable def o12 (P : Params) : Obj := ⟨(Value.type "module"),(Option.some 11),Data.plain,⟨[]⟩⟩
noncomputable def o13 (P : Params) : Obj := ⟨(Value.type "dict"),Option.none,(Data.dict ⟨[⟨(PyData.keyHash P (st [95,95,109,111,100,117,108,101,95,95])),(Value.str (st [95,95,109,111,100,117,108,101,95,95]) 189),(Value.str (st [95,102,114,111,122,101,110,95,105,109,112,111,114,116,108,105,98]) 186)⟩,⟨(PyData.keyHash P (st [95,95,102,105,114,115,116,108,105,110,101,110,111,95,95])),(Value.str (st [95,95,102,105,114,115,116,108,105,110,101,110,111,95,95]) 190),(Value.int 971 187)⟩,⟨(PyData.keyHash P (st [95,95,100,111,99,95,95])),(Value.str (st [95,95,100,111,99,95,95]) 191),(Value.builtin "_frozen_importlib.BuiltinImporter.__doc__:str#opaque")⟩,⟨(PyData.keyHash P (st [95,79,82,73,71,73,78])),(Value.str (st [95,79,82,73,71,73,78]) 192),(Value.str (st [98,117,105,108,116,45,105,110]) 188)⟩,⟨(PyData.keyHash P (st [102,105,110,100,95,115,112,101,99])),(Value.str (st [102,105,110,100,95,115,112,101,99]) 193),(Value.builtin "_frozen_importlib.BuiltinImporter.find_spec#opaque")⟩,⟨(PyData.keyHash P (st [99,114,101,97,116,101,95,109,111,100,117,108,101])),(Value.str (st [99,114,101,97,116,101,95,109,111,100,117,108,101]) 194),(Value.builtin "_frozen_importlib.BuiltinImporter.create_module#opaque")⟩,⟨(PyData.keyHash P (st [101,120,101,99,95,109,111,100,117,108,101])),(Value.str (st [101,120,101,99,95,109,111,100,117,108,101]) 195),(Value.builtin "_frozen_importlib.BuiltinImporter.exec_module#opaque")⟩,⟨(PyData.keyHash P (st [103,101,116,95,99,111,100,101])),(Value.str (st [103,101,116,95,99,111,100,101]) 196),(Value.builtin "_frozen_importlib.BuiltinImporter.get_code#opaque")⟩,⟨(PyData.keyHash P (st [103,101,116,95,115,111,117,114,99,101])),(Value.str (st [103,101,116,95,115,111,117,114,99,101]) 197),(Value.builtin "_frozen_importlib.BuiltinImporter.get_source#opaque")⟩,⟨(PyData.keyHash P (st [105,115,95,112,97,99,107,97,103,101])),(Value.str (st [105,115,95,112,97,99,107,97,103,101]) 198),(Value.builtin "_frozen_importlib.BuiltinImporter.is_package#opaque")⟩,⟨(PyData.keyHash P (st [108,111,97,100,95,109,111,100,117,108,101])),(Value.str (st [108,111,97,100,95,109,111,100,117,108,101]) 199),(Value.builtin "_frozen_importlib.BuiltinImporter.load_module#opaque")⟩,⟨(PyData.keyHash P (st [95,95,115,116,97,116,105,99,95,97,116,116,114,105,98,117,116,101,115,95,95])),(Value.str (st [95,95,115,116,97,116,105,99,95,97,116,116,114,105,98,117,116,101,115,95,95]) 200),(Value.ref 15)⟩,⟨(PyData.keyHash P (st [95,95,100,105,99,116,95,95])),(Value.str (st [95,95,100,105,99,116,95,95]) 202),(Value.ref 16)⟩,⟨(PyData.keyHash P (st [95,95,119,101,97,107,114,101,102,95,95])),(Value.str (st [95,95,119,101,97,107,114,101,102,95,95]) 204),(Value.ref 17)⟩]⟩ 14),⟨[]⟩⟩
noncomputable def o14 (P : Params) : Obj := ⟨(Value.type "type"),Option.none,(Data.cls ⟨(st [66,117,105,108,116,105,110,73,109,112,111,114,116,101,114]),[(Value.type "object")],[(Value.ref 14),(Value.type "object")],13,(st [66,117,105,108,116,105,110,73,109,112,111,114,116,101,114]),Bool.true,[],[],Bool.false,Option.none,Bool.false⟩),⟨[]⟩⟩
noncomputable def o15 (P : Params) : Obj := ⟨(Value.type "getset_descriptor"),Option.none,(Data.fields ⟨[(Value.str (st [95,95,100,105,99,116,95,95]) 201),(Value.ref 14),(Value.builtin "function.__dict__"),(Value.builtin "function.__dict__#set")]⟩),⟨[]⟩⟩
noncomputable def o16 (P : Params) : Obj := ⟨(Value.type "getset_descriptor"),Option.none,(Data.fields ⟨[(Value.str (st [95,95,119,101,97,107,114,101,102,95,95]) 203),(Value.ref 14),(Value.builtin "ExceptionGroup.__weakref__"),Value.none]⟩),⟨[]⟩⟩
noncomputable def o17 (P : Params) : Obj := ⟨Value.none,Option.none,(Data.seq ⟨[(Value.int 13 0),(Value.str (st [6,189,10,95,95,109,111,100,117,108,101,95,95,6,186,17,95,102,114,111,122,101,110,95,105,109,112,111,114,116,108,105,98,6,190,15,95,95,102,105,114,115,116,108,105,110,101,110,111,95,95,4,187,0,971,6,191,7,95,95,100,111,99,95,95,9,52,95,102,114,111,122,101,110,95,105,109,112,111,114,116,108,105,98,46,66,117,105,108,116,105,110,73,109,112,111,114,116,101,114,46,95,95,100,111,99,95,95,58,115,116,114,35,111,112,97,113,117,101,6,192,7,95,79,82,73,71,73,78,6,188,8,98,117,105,108,116,45,105,110,6,193,9,102,105,110,100,95,115,112,101,99,9,50,95,102,114,111,122,101,110,95,105,109,112,111,114,116,108,105,98,46,66,117,105,108,116,105,110,73,109,112,111,114,116,101,114,46,102,105,110,100,95,115,112,101,99,35,111,112,97,113,117,101,6,194,13,99,114,101,97,116,101,95,109,111,100,117,108,101,9,54,95,102,114,111,122,101,110,95,105,109,112,111,114,116,108,105,98,46,66,117,105,108,116,105,110,73,109,112,111,114,116,101,114,46,99,114,101,97,116,101,95,109,111,100,117,108,101,35,111,112,97,113,117,101,6,195,11,101,120,101,99,95,109,111,100,117,108,101,9,52,95,102,114,111,122,101,110,95,105,109,112,111,114,116,108,105,98,46,66,117,105,108,116,105,110,73,109,112,111,114,116,101,114,46,101,120,101,99,95,109,111,100,117,108,101,35,111,112,97,113,117,101,6,196,8,103,101,116,95,99,111,100,101,9,49,95,102,114,111,122,101,110,95,105,109,112,111,114,116,108,105,98,46,66,117,105,108,116,105,110,73,109,112,111,114,116,101,114,46,103,101,116,95,99,111,100,101,35,111,112,97,113,117,101,6,197,10,103,101,116,95,115,111,117,114,99,101,9,51,95,102,114,111,122,101,110,95,105,109,112,111,114,116,108,105,98,46,66,117,105,108,116,105,110,73,109,112,111,114,116,101,114,46,103,101,116,95,115,111,117,114,99,101,35,111,112,97,113,117,101,6,198,10,105,115,95,112,97,99,107,97,103,101,9,51,95,102,114,111,122,101,110,95,105,109,112,111,114,116,108,105,98,46,66,117,105,108,116,105,110,73,109,112,111,114,116,101,114,46,105,115,95,112,97,99,107,97,103,101,35,111,112,97,113,117,101,6,199,11,108,111,97,100,95,109,111,100,117,108,101,9,52,95,102,114,111,122,101,110,95,105,109,112,111,114,116,108,105,98,46,66,117,105,108,116,105,110,73,109,112,111,114,116,101,114,46,108,111,97,100,95,109,111,100,117,108,101,35,111,112,97,113,117,101,6,200,21,95,95,115,116,97,116,105,99,95,97,116,116,114,105,98,117,116,101,115,95,95,4,0,0,15,6,202,8,95,95,100,105,99,116,95,95,4,0,0,16,6,204,11,95,95,119,101,97,107,114,101,102,95,95,4,0,0,17]) 0),(Value.bool Bool.true),(Value.bool Bool.true),(Value.str (st []) 205),(Value.int 21 0),(Value.str (st [6,227,10,95,95,109,111,100,117,108,101,95,95,6,217,17,95,102,114,111,122,101,110,95,105,109,112,111,114,116,108,105,98,6,228,15,95,95,102,105,114,115,116,108,105,110,101,110,111,95,95,4,218,0,562,6,229,7,95,95,100,111,99,95,95,9,47,95,102,114,111,122,101,110,95,105,109,112,111,114,116,108,105,98,46,77,111,100,117,108,101,83,112,101,99,46,95,95,100,111,99,95,95,58,115,116,114,35,111,112,97,113,117,101,6,230,8,95,95,105,110,105,116,95,95,9,44,95,102,114,111,122,101,110,95,105,109,112,111,114,116,108,105,98,46,77,111,100,117,108,101,83,112,101,99,46,95,95,105,110,105,116,95,95,35,111,112,97,113,117,101,6,231,8,95,95,114,101,112,114,95,95,9,44,95,102,114,111,122,101,110,95,105,109,112,111,114,116,108,105,98,46,77,111,100,117,108,101,83,112,101,99,46,95,95,114,101,112,114,95,95,35,111,112,97,113,117,101,6,232,6,95,95,101,113,95,95,9,42,95,102,114,111,122,101,110,95,105,109,112,111,114,116,108,105,98,46,77,111,100,117,108,101,83,112,101,99,46,95,95,101,113,95,95,35,111,112,97,113,117,101,6,233,6,99,97,99,104,101,100,9,42,95,102,114,111,122,101,110,95,105,109,112,111,114,116,108,105,98,46,77,111,100,117,108,101,83,112,101,99,46,99,97,99,104,101,100,35,111,112,97,113,117,101,6,234,6,112,97,114,101,110,116,9,42,95,102,114,111,122,101,110,95,105,109,112,111,114,116,108,105,98,46,77,111,100,117,108,101,83,112,101,99,46,112,97,114,101,110,116,35,111,112,97,113,117,101,6,235,12,104,97,115,95,108,111,99,97,116,105,111,110,9,48,95,102,114,111,122,101,110,95,105,109,112,111,114,116,108,105,98,46,77,111,100,117,108,101,83,112,101,99,46,104,97,115,95,108,111,99,97,116,105,111,110,35,111,112,97,113,117,101,6,236,21,95,95,115,116,97,116,105,99,95,97,116,116,114,105,98,117,116,101,115,95,95,4,0,0,23,6,238,8,95,95,100,105,99,116,95,95,4,0,0,24,6,240,11,95,95,119,101,97,107,114,101,102,95,95,4,0,0,25,6,241,8,95,95,104,97,115,104,95,95,0]) 0),(Value.bool Bool.true),(Value.bool Bool.true),(Value.str (st []) 242)]⟩ 1),⟨[]⟩⟩
noncomputable def o18 (P : Params) : Obj := ⟨(Value.type "list"),Option.none,(Data.seq ⟨[]⟩ 0),⟨[]⟩⟩
noncomputable def o19 (P : Params) : Obj := ⟨(Value.type "dict"),Option.none,(Data.dict ⟨[⟨(PyData.keyHash P (st [110,97,109,101])),(Value.str (st [110,97,109,101]) 208),(Value.str (st [95,115,114,101]) 207)⟩,⟨(PyData.keyHash P (st [108,111,97,100,101,114])),(Value.str (st [108,111,97,100,101,114]) 209),(Value.ref 14)⟩,⟨(PyData.keyHash P (st [111,114,105,103,105,110])),(Value.str (st [111,114,105,103,105,110]) 210),(Value.str (st [98,117,105,108,116,45,105,110]) 184)⟩,⟨(PyData.keyHash P (st [108,111,97,100,101,114,95,115,116,97,116,101])),(Value.str (st [108,111,97,100,101,114,95,115,116,97,116,101]) 211),Value.none⟩,⟨(PyData.keyHash P (st [115,117,98,109,111,100,117,108,101,95,115,101,97,114,99,104,95,108,111,99,97,116,105,111,110,115])),(Value.str (st [115,117,98,109,111,100,117,108,101,95,115,101,97,114,99,104,95,108,111,99,97,116,105,111,110,115]) 212),Value.none⟩,⟨(PyData.keyHash P (st [95,117,110,105,110,105,116,105,97,108,105,122,101,100,95,115,117,98,109,111,100,117,108,101,115])),(Value.str (st [95,117,110,105,110,105,116,105,97,108,105,122,101,100,95,115,117,98,109,111,100,117,108,101,115]) 213),(Value.ref 19)⟩,⟨(PyData.keyHash P (st [95,115,101,116,95,102,105,108,101,97,116,116,114])),(Value.str (st [95,115,101,116,95,102,105,108,101,97,116,116,114]) 214),(Value.bool Bool.false)⟩,⟨(PyData.keyHash P (st [95,99,97,99,104,101,100])),(Value.str (st [95,99,97,99,104,101,100]) 215),Value.none⟩,⟨(PyData.keyHash P (st [95,105,110,105,116,105,97,108,105,122,105,110,103])),(Value.str (st [95,105,110,105,116,105,97,108,105,122,105,110,103]) 243),(Value.bool Bool.false)⟩]⟩ 9),⟨[]⟩⟩
noncomputable def o20 (P : Params) : Obj := ⟨(Value.type "dict"),Option.none,(Data.dict ⟨[⟨(PyData.keyHash P (st [95,95,109,111,100,117,108,101,95,95])),(Value.str (st [95,95,109,111,100,117,108,101,95,95]) 227),(Value.str (st [95,102,114,111,122,101,110,95,105,109,112,111,114,116,108,105,98]) 217)⟩,⟨(PyData.keyHash P (st [95,95,102,105,114,115,116,108,105,110,101,110,111,95,95])),(Value.str (st [95,95,102,105,114,115,116,108,105,110,101,110,111,95,95]) 228),(Value.int 562 218)⟩,⟨(PyData.keyHash P (st [95,95,100,111,99,95,95])),(Value.str (st [95,95,100,111,99,95,95]) 229),(Value.builtin "_frozen_importlib.ModuleSpec.__doc__:str#opaque")⟩,⟨(PyData.keyHash P (st [95,95,105,110,105,116,95,95])),(Value.str (st [95,95,105,110,105,116,95,95]) 230),(Value.builtin "_frozen_importlib.ModuleSpec.__init__#opaque")⟩,⟨(PyData.keyHash P (st [95,95,114,101,112,114,95,95])),(Value.str (st [95,95,114,101,112,114,95,95]) 231),(Value.builtin "_frozen_importlib.ModuleSpec.__repr__#opaque")⟩,⟨(PyData.keyHash P (st [95,95,101,113,95,95])),(Value.str (st [95,95,101,113,95,95]) 232),(Value.builtin "_frozen_importlib.ModuleSpec.__eq__#opaque")⟩,⟨(PyData.keyHash P (st [99,97,99,104,101,100])),(Value.str (st [99,97,99,104,101,100]) 233),(Value.builtin "_frozen_importlib.ModuleSpec.cached#opaque")⟩,⟨(PyData.keyHash P (st [112,97,114,101,110,116])),(Value.str (st [112,97,114,101,110,116]) 234),(Value.builtin "_frozen_importlib.ModuleSpec.parent#opaque")⟩,⟨(PyData.keyHash P (st [104,97,115,95,108,111,99,97,116,105,111,110])),(Value.str (st [104,97,115,95,108,111,99,97,116,105,111,110]) 235),(Value.builtin "_frozen_importlib.ModuleSpec.has_location#opaque")⟩,⟨(PyData.keyHash P (st [95,95,115,116,97,116,105,99,95,97,116,116,114,105,98,117,116,101,115,95,95])),(Value.str (st [95,95,115,116,97,116,105,99,95,97,116,116,114,105,98,117,116,101,115,95,95]) 236),(Value.ref 23)⟩,⟨(PyData.keyHash P (st [95,95,100,105,99,116,95,95])),(Value.str (st [95,95,100,105,99,116,95,95]) 238),(Value.ref 24)⟩,⟨(PyData.keyHash P (st [95,95,119,101,97,107,114,101,102,95,95])),(Value.str (st [95,95,119,101,97,107,114,101,102,95,95]) 240),(Value.ref 25)⟩,⟨(PyData.keyHash P (st [95,95,104,97,115,104,95,95])),(Value.str (st [95,95,104,97,115,104,95,95]) 241),Value.none⟩]⟩ 13),⟨[]⟩⟩
noncomputable def o21 (P : Params) : Obj := ⟨(Value.type "type"),Option.none,(Data.cls ⟨(st [77,111,100,117,108,101,83,112,101,99]),[(Value.type "object")],[(Value.ref 22),(Value.type "object")],21,(st [77,111,100,117,108,101,83,112,101,99]),Bool.true,[],[],Bool.false,Option.none,Bool.false⟩),⟨[]⟩⟩
noncomputable def o22 (P : Params) : Obj := ⟨(Value.type "tuple"),Option.none,(Data.seq ⟨[(Value.str (st [95,99,97,99,104,101,100]) 219),(Value.str (st [95,115,101,116,95,102,105,108,101,97,116,116,114]) 220),(Value.str (st [95,117,110,105,110,105,116,105,97,108,105,122,101,100,95,115,117,98,109,111,100,117,108,101,115]) 221),(Value.str (st [108,111,97,100,101,114]) 222),(Value.str (st [108,111,97,100,101,114,95,115,116,97,116,101]) 223),(Value.str (st [110,97,109,101]) 224),(Value.str (st [111,114,105,103,105,110]) 225),(Value.str (st [115,117,98,109,111,100,117,108,101,95,115,101,97,114,99,104,95,108,111,99,97,116,105,111,110,115]) 226)]⟩ 0),⟨[]⟩⟩
noncomputable def o23 (P : Params) : Obj := ⟨(Value.type "getset_descriptor"),Option.none,(Data.fields ⟨[(Value.str (st [95,95,100,105,99,116,95,95]) 237),(Value.ref 22),(Value.builtin "function.__dict__"),(Value.builtin "function.__dict__#set")]⟩),⟨[]⟩⟩
noncomputable def o24 (P : Params) : Obj := ⟨(Value.type "getset_descriptor"),Option.none,(Data.fields ⟨[(Value.str (st [95,95,119,101,97,107,114,101,102,95,95]) 239),(Value.ref 22),(Value.builtin "ExceptionGroup.__weakref__"),Value.none]⟩),⟨[]⟩⟩
noncomputable def o25 (P : Params) : Obj := ⟨(Value.ref 22),(Option.some 20),Data.plain,⟨[]⟩⟩
noncomputable def o26 (P : Params) : Obj := ⟨Value.none,Option.none,(Data.seq ⟨[(Value.int 11 0),(Value.str (Str.mk ⟨[6,247,8,95,95,110,97,109,101,95,95,6,246,4,95,115,114,101,6,248,7,95,95,100,111,99,95,95,0,6,250,11,95,95,112,97,99,107,97,103,101,95,95,6,249,0,6,251,10,95,95,108,111,97,100,101,114,95,95,4,0,0,14,6,252,8,95,95,115,112,101,99,95,95,4,0,0,26,6,253,7,99,111,109,112,105,108,101,9,12,95,115,114,101,46,99,111,109,112,105,108,101,6,254,8,116,101,109,112,108,97,116,101,9,13,95,115,114,101,46,116,101,109,112,108,97,116,101,6,255,11,103,101,116,99,111,100,101,115,105,122,101,9,16,95,115,114,101,46,103,101,116,99,111,100,101,115,105,122,101,6,256,13,97,115,99,105,105,95,105,115,99,97,115,101,100,9,18,95,115,114,101,46,97,115,99,105,105,95,105,115,99,97,115,101,100,6,257,15,117,110,105,99,111,100,101,95,105,115,99,97,115,101,100,9,20,95,115,114,101,46,117,110,105,99,111,100,101,95,105,115,99,97,115,101,100,6,258,13,97,115,99,105,105,95,116,111,108,111,119,101,114,9,18,95,115,114,101,46,97,115,99,105,105,95,116,111,108,111,119,101,114,6,259,15,117,110,105,99,111,100,101,95,116,111,108,111,119,101,114,9,20,95,115,114,101,46,117,110,105,99,111,100,101,95,116,111,108,111,119,101,114,6,261,5,77,65,71,73,67,4,260,0,20230612,6,263,8,67,79,68,69,83,73,90,69,4,262,0,4,6,265,9,77,65,88,82,69,80,69,65,84,4,264,0,4294967295,6,267,9,77,65,88,71,82,79,85,80,83,4,266,0,1073741823,6,269,9,99,111,112,121,114,105,103,104,116,6,268,53,32,83,82,69,32,50,46,50,46,50,32,67,111,112,121,114,105,103,104,116,32,40,99,41,32,49,57,57,55,45,50,48,48,50,32,98,121,32,83,101,99,114,101,116,32,76,97,98,115,32,65,66,32]⟩) 0),(Value.bool Bool.true),(Value.bool Bool.false),(Value.str (st [95,115,114,101]) 271)]⟩ 0),⟨[]⟩⟩
noncomputable def o27 (P : Params) : Obj := ⟨(Value.type "code"),Option.none,(Data.fields ⟨[(Value.str (st [60,109,111,100,117,108,101,62]) 277),(Value.str (st [60,109,111,100,117,108,101,62]) 278),(Value.str (st [47,99,108,97,105,109,47,99,117,116,46,112,121]) 279),(Value.int 1 0),(Value.int 0 0),(Value.int 0 0),(Value.int 0 0),(Value.int 0 0),(Value.ref 28),(Value.bool Bool.false),(Value.int 276 0),(Value.ref 29),Value.none,Value.none,Value.none,Value.none,(Value.int 280 0),(Value.int 1 0),(Value.str (st [47,99,108,97,105,109,47,99,117,116,46,112,121]) 281)]⟩),⟨[]⟩⟩
noncomputable def o28 (P : Params) : Obj := ⟨(Value.type "frame"),Option.none,Data.plain,⟨[(Option.some (Value.ref 30)),(Option.some (Value.ref 3)),(Option.some (Value.ref 3)),Option.none,(Option.some (Value.str (st [95,95,109,97,105,110,95,95]) 164)),Option.none,(Option.some (Value.ref 0))]⟩⟩
noncomputable def tr0 (P : Params) : BT := (.node (o0 P) (.node (o1 P) (.node (o3 P) (.node (o7 P) (.node (o7 P) (.node (o28 P) .nil .nil) .nil) (.node (o22 P) .nil .nil)) (.node (o11 P) (.node (o18 P) .nil .nil) (.node (o26 P) .nil .nil))) (.node (o5 P) (.node (o9 P) (.node (o16 P) .nil .nil) (.node (o24 P) .nil .nil)) (.node (o13 P) (.node (o20 P) .nil .nil) (.node (o8 P) .nil .nil)))) (.node (o2 P) (.node (o4 P) (.node (o8 P) (.node (o15 P) .nil .nil) (.node (o23 P) .nil .nil)) (.node (o12 P) (.node (o19 P) .nil .nil) (.node (o7 P) .nil .nil))) (.node (o6 P) (.node (o10 P) (.node (o17 P) .nil .nil) (.node (o25 P) .nil .nil)) (.node (o14 P) (.node (o21 P) .nil .nil) (.node (o27 P) .nil .nil)))))
noncomputable def S0 (w : World) (os : OsState) : SharedT := ⟨tr0 w.params, 32, lf, ⟨[]⟩, dr, 282, os⟩
noncomputable def pos0 : Pos := ⟨0,0,0,0⟩
noncomputable def o29 (P : Params) : Obj := ⟨(Value.type "dict"),Option.none,(Data.dict ⟨[⟨(PyData.keyHash P (st [95,95,110,97,109,101,95,95])),(Value.str (st [95,95,110,97,109,101,95,95]) 165),(Value.str (st [95,95,109,97,105,110,95,95]) 164)⟩,⟨(PyData.keyHash P (st [95,95,100,111,99,95,95])),(Value.str (st [95,95,100,111,99,95,95]) 166),Value.none⟩,⟨(PyData.keyHash P (st [95,95,112,97,99,107,97,103,101,95,95])),(Value.str (st [95,95,112,97,99,107,97,103,101,95,95]) 167),Value.none⟩,⟨(PyData.keyHash P (st [95,95,108,111,97,100,101,114,95,95])),(Value.str (st [95,95,108,111,97,100,101,114,95,95]) 168),(Value.builtin "__main__.__loader__#opaque")⟩,⟨(PyData.keyHash P (st [95,95,115,112,101,99,95,95])),(Value.str (st [95,95,115,112,101,99,95,95]) 169),Value.none⟩,⟨(PyData.keyHash P (st [95,95,97,110,110,111,116,97,116,105,111,110,115,95,95])),(Value.str (st [95,95,97,110,110,111,116,97,116,105,111,110,115,95,95]) 170),(Value.ref 6)⟩,⟨(PyData.keyHash P (st [95,95,98,117,105,108,116,105,110,115,95,95])),(Value.str (st [95,95,98,117,105,108,116,105,110,115,95,95]) 171),(Value.ref 4)⟩,⟨(PyData.keyHash P (st [95,95,102,105,108,101,95,95])),(Value.str (st [95,95,102,105,108,101,95,95]) 173),(Value.str (st [47,99,108,97,105,109,47,99,117,116,46,112,121]) 172)⟩,⟨(PyData.keyHash P (st [95,95,99,97,99,104,101,100,95,95])),(Value.str (st [95,95,99,97,99,104,101,100,95,95]) 174),Value.none⟩,⟨(PyData.keyHash P (st [95,115,114,101])),(Value.str (st [95,115,114,101]) 275),(Value.ref 12)⟩,⟨(PyData.keyHash P (st [67,82,76,70])),(Value.str (st [67,82,76,70]) 283),(Value.str (st [13,10]) 282)⟩,⟨(PyData.keyHash P (st [78,76])),(Value.str (st [78,76]) 285),(Value.str (st [10]) 284)⟩]⟩ 12),⟨[]⟩⟩
noncomputable def tr2 (P : Params) : BT := (.node (o0 P) (.node (o1 P) (.node (o29 P) (.node (o7 P) (.node (o7 P) (.node (o28 P) .nil .nil) .nil) (.node (o22 P) .nil .nil)) (.node (o11 P) (.node (o18 P) .nil .nil) (.node (o26 P) .nil .nil))) (.node (o5 P) (.node (o9 P) (.node (o16 P) .nil .nil) (.node (o24 P) .nil .nil)) (.node (o13 P) (.node (o20 P) .nil .nil) (.node (o8 P) .nil .nil)))) (.node (o2 P) (.node (o4 P) (.node (o8 P) (.node (o15 P) .nil .nil) (.node (o23 P) .nil .nil)) (.node (o12 P) (.node (o19 P) .nil .nil) (.node (o7 P) .nil .nil))) (.node (o6 P) (.node (o10 P) (.node (o17 P) .nil .nil) (.node (o25 P) .nil .nil)) (.node (o14 P) (.node (o21 P) .nil .nil) (.node (o27 P) .nil .nil)))))
noncomputable def S2 (w : World) (os : OsState) : SharedT := ⟨tr2 w.params, 32, lf, ⟨[]⟩, dr, 286, os⟩
noncomputable def pos2 : Pos := ⟨3,0,3,2⟩
noncomputable def o30 (P : Params) : Obj := ⟨(Value.type "dict"),Option.none,(Data.dict ⟨[⟨(PyData.keyHash P (st [95,95,110,97,109,101,95,95])),(Value.str (st [95,95,110,97,109,101,95,95]) 165),(Value.str (st [95,95,109,97,105,110,95,95]) 164)⟩,⟨(PyData.keyHash P (st [95,95,100,111,99,95,95])),(Value.str (st [95,95,100,111,99,95,95]) 166),Value.none⟩,⟨(PyData.keyHash P (st [95,95,112,97,99,107,97,103,101,95,95])),(Value.str (st [95,95,112,97,99,107,97,103,101,95,95]) 167),Value.none⟩,⟨(PyData.keyHash P (st [95,95,108,111,97,100,101,114,95,95])),(Value.str (st [95,95,108,111,97,100,101,114,95,95]) 168),(Value.builtin "__main__.__loader__#opaque")⟩,⟨(PyData.keyHash P (st [95,95,115,112,101,99,95,95])),(Value.str (st [95,95,115,112,101,99,95,95]) 169),Value.none⟩,⟨(PyData.keyHash P (st [95,95,97,110,110,111,116,97,116,105,111,110,115,95,95])),(Value.str (st [95,95,97,110,110,111,116,97,116,105,111,110,115,95,95]) 170),(Value.ref 6)⟩,⟨(PyData.keyHash P (st [95,95,98,117,105,108,116,105,110,115,95,95])),(Value.str (st [95,95,98,117,105,108,116,105,110,115,95,95]) 171),(Value.ref 4)⟩,⟨(PyData.keyHash P (st [95,95,102,105,108,101,95,95])),(Value.str (st [95,95,102,105,108,101,95,95]) 173),(Value.str (st [47,99,108,97,105,109,47,99,117,116,46,112,121]) 172)⟩,⟨(PyData.keyHash P (st [95,95,99,97,99,104,101,100,95,95])),(Value.str (st [95,95,99,97,99,104,101,100,95,95]) 174),Value.none⟩,⟨(PyData.keyHash P (st [95,115,114,101])),(Value.str (st [95,115,114,101]) 275),(Value.ref 12)⟩,⟨(PyData.keyHash P (st [67,82,76,70])),(Value.str (st [67,82,76,70]) 283),(Value.str (st [13,10]) 282)⟩,⟨(PyData.keyHash P (st [78,76])),(Value.str (st [78,76]) 285),(Value.str (st [10]) 284)⟩,⟨(PyData.keyHash P (st [95,81,85,79,80,82,73,95,77,65,80])),(Value.str (st [95,81,85,79,80,82,73,95,77,65,80]) 1313),(Value.ref 34)⟩]⟩ 13),⟨[]⟩⟩
noncomputable def o31 (P : Params) : Obj := ⟨(Value.type "range"),Option.none,(Data.fields ⟨[(Value.int 0 287),(Value.int 256 286),(Value.int 1 288)]⟩),⟨[]⟩⟩
noncomputable def o32 (P : Params) : Obj := ⟨(Value.type "range_iterator"),Option.none,(Data.fields ⟨[(Value.int 256 0),(Value.int 0 0),(Value.int 1 0)]⟩),⟨[]⟩⟩
noncomputable def o33 (P : Params) : Obj := ⟨(Value.type "list"),Option.none,(Data.seq ⟨[(Value.str (st [61,48,48]) 292),(Value.str (st [61,48,49]) 296),(Value.str (st [61,48,50]) 300),(Value.str (st [61,48,51]) 304),(Value.str (st [61,48,52]) 308),(Value.str (st [61,48,53]) 312),(Value.str (st [61,48,54]) 316),(Value.str (st [61,48,55]) 320),(Value.str (st [61,48,56]) 324),(Value.str (st [61,48,57]) 328),(Value.str (st [61,48,65]) 332),(Value.str (st [61,48,66]) 336),(Value.str (st [61,48,67]) 340),(Value.str (st [61,48,68]) 344),(Value.str (st [61,48,69]) 348),(Value.str (st [61,48,70]) 352),(Value.str (st [61,49,48]) 356),(Value.str (st [61,49,49]) 360),(Value.str (st [61,49,50]) 364),(Value.str (st [61,49,51]) 368),(Value.str (st [61,49,52]) 372),(Value.str (st [61,49,53]) 376),(Value.str (st [61,49,54]) 380),(Value.str (st [61,49,55]) 384),(Value.str (st [61,49,56]) 388),(Value.str (st [61,49,57]) 392),(Value.str (st [61,49,65]) 396),(Value.str (st [61,49,66]) 400),(Value.str (st [61,49,67]) 404),(Value.str (st [61,49,68]) 408),(Value.str (st [61,49,69]) 412),(Value.str (st [61,49,70]) 416),(Value.str (st [61,50,48]) 420),(Value.str (st [61,50,49]) 424),(Value.str (st [61,50,50]) 428),(Value.str (st [61,50,51]) 432),(Value.str (st [61,50,52]) 436),(Value.str (st [61,50,53]) 440),(Value.str (st [61,50,54]) 444),(Value.str (st [61,50,55]) 448),(Value.str (st [61,50,56]) 452),(Value.str (st [61,50,57]) 456),(Value.str (st [61,50,65]) 460),(Value.str (st [61,50,66]) 464),(Value.str (st [61,50,67]) 468),(Value.str (st [61,50,68]) 472),(Value.str (st [61,50,69]) 476),(Value.str (st [61,50,70]) 480),(Value.str (st [61,51,48]) 484),(Value.str (st [61,51,49]) 488),(Value.str (st [61,51,50]) 492),(Value.str (st [61,51,51]) 496),(Value.str (st [61,51,52]) 500),(Value.str (st [61,51,53]) 504),(Value.str (st [61,51,54]) 508),(Value.str (st [61,51,55]) 512),(Value.str (st [61,51,56]) 516),(Value.str (st [61,51,57]) 520),(Value.str (st [61,51,65]) 524),(Value.str (st [61,51,66]) 528),(Value.str (st [61,51,67]) 532),(Value.str (st [61,51,68]) 536),(Value.str (st [61,51,69]) 540),(Value.str (st [61,51,70]) 544),(Value.str (st [61,52,48]) 548),(Value.str (st [61,52,49]) 552),(Value.str (st [61,52,50]) 556),(Value.str (st [61,52,51]) 560),(Value.str (st [61,52,52]) 564),(Value.str (st [61,52,53]) 568),(Value.str (st [61,52,54]) 572),(Value.str (st [61,52,55]) 576),(Value.str (st [61,52,56]) 580),(Value.str (st [61,52,57]) 584),(Value.str (st [61,52,65]) 588),(Value.str (st [61,52,66]) 592),(Value.str (st [61,52,67]) 596),(Value.str (st [61,52,68]) 600),(Value.str (st [61,52,69]) 604),(Value.str (st [61,52,70]) 608),(Value.str (st [61,53,48]) 612),(Value.str (st [61,53,49]) 616),(Value.str (st [61,53,50]) 620),(Value.str (st [61,53,51]) 624),(Value.str (st [61,53,52]) 628),(Value.str (st [61,53,53]) 632),(Value.str (st [61,53,54]) 636),(Value.str (st [61,53,55]) 640),(Value.str (st [61,53,56]) 644),(Value.str (st [61,53,57]) 648),(Value.str (st [61,53,65]) 652),(Value.str (st [61,53,66]) 656),(Value.str (st [61,53,67]) 660),(Value.str (st [61,53,68]) 664),(Value.str (st [61,53,69]) 668),(Value.str (st [61,53,70]) 672),(Value.str (st [61,54,48]) 676),(Value.str (st [61,54,49]) 680),(Value.str (st [61,54,50]) 684),(Value.str (st [61,54,51]) 688),(Value.str (st [61,54,52]) 692),(Value.str (st [61,54,53]) 696),(Value.str (st [61,54,54]) 700),(Value.str (st [61,54,55]) 704),(Value.str (st [61,54,56]) 708),(Value.str (st [61,54,57]) 712),(Value.str (st [61,54,65]) 716),(Value.str (st [61,54,66]) 720),(Value.str (st [61,54,67]) 724),(Value.str (st [61,54,68]) 728),(Value.str (st [61,54,69]) 732),(Value.str (st [61,54,70]) 736),(Value.str (st [61,55,48]) 740),(Value.str (st [61,55,49]) 744),(Value.str (st [61,55,50]) 748),(Value.str (st [61,55,51]) 752),(Value.str (st [61,55,52]) 756),(Value.str (st [61,55,53]) 760),(Value.str (st [61,55,54]) 764),(Value.str (st [61,55,55]) 768),(Value.str (st [61,55,56]) 772),(Value.str (st [61,55,57]) 776),(Value.str (st [61,55,65]) 780),(Value.str (st [61,55,66]) 784),(Value.str (st [61,55,67]) 788),(Value.str (st [61,55,68]) 792),(Value.str (st [61,55,69]) 796),(Value.str (st [61,55,70]) 800),(Value.str (st [61,56,48]) 804),(Value.str (st [61,56,49]) 808),(Value.str (st [61,56,50]) 812),(Value.str (st [61,56,51]) 816),(Value.str (st [61,56,52]) 820),(Value.str (st [61,56,53]) 824),(Value.str (st [61,56,54]) 828),(Value.str (st [61,56,55]) 832),(Value.str (st [61,56,56]) 836),(Value.str (st [61,56,57]) 840),(Value.str (st [61,56,65]) 844),(Value.str (st [61,56,66]) 848),(Value.str (st [61,56,67]) 852),(Value.str (st [61,56,68]) 856),(Value.str (st [61,56,69]) 860),(Value.str (st [61,56,70]) 864),(Value.str (st [61,57,48]) 868),(Value.str (st [61,57,49]) 872),(Value.str (st [61,57,50]) 876),(Value.str (st [61,57,51]) 880),(Value.str (st [61,57,52]) 884),(Value.str (st [61,57,53]) 888),(Value.str (st [61,57,54]) 892),(Value.str (st [61,57,55]) 896),(Value.str (st [61,57,56]) 900),(Value.str (st [61,57,57]) 904),(Value.str (st [61,57,65]) 908),(Value.str (st [61,57,66]) 912),(Value.str (st [61,57,67]) 916),(Value.str (st [61,57,68]) 920),(Value.str (st [61,57,69]) 924),(Value.str (st [61,57,70]) 928),(Value.str (st [61,65,48]) 932),(Value.str (st [61,65,49]) 936),(Value.str (st [61,65,50]) 940),(Value.str (st [61,65,51]) 944),(Value.str (st [61,65,52]) 948),(Value.str (st [61,65,53]) 952),(Value.str (st [61,65,54]) 956),(Value.str (st [61,65,55]) 960),(Value.str (st [61,65,56]) 964),(Value.str (st [61,65,57]) 968),(Value.str (st [61,65,65]) 972),(Value.str (st [61,65,66]) 976),(Value.str (st [61,65,67]) 980),(Value.str (st [61,65,68]) 984),(Value.str (st [61,65,69]) 988),(Value.str (st [61,65,70]) 992),(Value.str (st [61,66,48]) 996),(Value.str (st [61,66,49]) 1000),(Value.str (st [61,66,50]) 1004),(Value.str (st [61,66,51]) 1008),(Value.str (st [61,66,52]) 1012),(Value.str (st [61,66,53]) 1016),(Value.str (st [61,66,54]) 1020),(Value.str (st [61,66,55]) 1024),(Value.str (st [61,66,56]) 1028),(Value.str (st [61,66,57]) 1032),(Value.str (st [61,66,65]) 1036),(Value.str (st [61,66,66]) 1040),(Value.str (st [61,66,67]) 1044),(Value.str (st [61,66,68]) 1048),(Value.str (st [61,66,69]) 1052),(Value.str (st [61,66,70]) 1056),(Value.str (st [61,67,48]) 1060),(Value.str (st [61,67,49]) 1064),(Value.str (st [61,67,50]) 1068),(Value.str (st [61,67,51]) 1072),(Value.str (st [61,67,52]) 1076),(Value.str (st [61,67,53]) 1080),(Value.str (st [61,67,54]) 1084),(Value.str (st [61,67,55]) 1088),(Value.str (st [61,67,56]) 1092),(Value.str (st [61,67,57]) 1096),(Value.str (st [61,67,65]) 1100),(Value.str (st [61,67,66]) 1104),(Value.str (st [61,67,67]) 1108),(Value.str (st [61,67,68]) 1112),(Value.str (st [61,67,69]) 1116),(Value.str (st [61,67,70]) 1120),(Value.str (st [61,68,48]) 1124),(Value.str (st [61,68,49]) 1128),(Value.str (st [61,68,50]) 1132),(Value.str (st [61,68,51]) 1136),(Value.str (st [61,68,52]) 1140),(Value.str (st [61,68,53]) 1144),(Value.str (st [61,68,54]) 1148),(Value.str (st [61,68,55]) 1152),(Value.str (st [61,68,56]) 1156),(Value.str (st [61,68,57]) 1160),(Value.str (st [61,68,65]) 1164),(Value.str (st [61,68,66]) 1168),(Value.str (st [61,68,67]) 1172),(Value.str (st [61,68,68]) 1176),(Value.str (st [61,68,69]) 1180),(Value.str (st [61,68,70]) 1184),(Value.str (st [61,69,48]) 1188),(Value.str (st [61,69,49]) 1192),(Value.str (st [61,69,50]) 1196),(Value.str (st [61,69,51]) 1200),(Value.str (st [61,69,52]) 1204),(Value.str (st [61,69,53]) 1208),(Value.str (st [61,69,54]) 1212),(Value.str (st [61,69,55]) 1216),(Value.str (st [61,69,56]) 1220),(Value.str (st [61,69,57]) 1224),(Value.str (st [61,69,65]) 1228),(Value.str (st [61,69,66]) 1232),(Value.str (st [61,69,67]) 1236),(Value.str (st [61,69,68]) 1240),(Value.str (st [61,69,69]) 1244),(Value.str (st [61,69,70]) 1248),(Value.str (st [61,70,48]) 1252),(Value.str (st [61,70,49]) 1256),(Value.str (st [61,70,50]) 1260),(Value.str (st [61,70,51]) 1264),(Value.str (st [61,70,52]) 1268),(Value.str (st [61,70,53]) 1272),(Value.str (st [61,70,54]) 1276),(Value.str (st [61,70,55]) 1280),(Value.str (st [61,70,56]) 1284),(Value.str (st [61,70,57]) 1288),(Value.str (st [61,70,65]) 1292),(Value.str (st [61,70,66]) 1296),(Value.str (st [61,70,67]) 1300),(Value.str (st [61,70,68]) 1304),(Value.str (st [61,70,69]) 1308),(Value.str (st [61,70,70]) 1312)]⟩ 256),⟨[]⟩⟩
noncomputable def o34 (P : Params) : Obj := ⟨(Value.type "dict"),Option.none,(Data.dict ⟨[]⟩ 2),⟨[]⟩⟩
noncomputable def o35 (P : Params) : Obj := ⟨(Value.type "StopIteration"),Option.none,(Data.fields ⟨[(Value.ref 36),Value.none,Value.none,Value.none,(Value.bool Bool.false),Value.none]⟩),⟨[]⟩⟩
noncomputable def tr3 (P : Params) : BT := (.node (o0 P) (.node (o1 P) (.node (o30 P) (.node (o7 P) (.node (o7 P) (.node (o28 P) .nil .nil) .nil) (.node (o22 P) .nil .nil)) (.node (o11 P) (.node (o18 P) (.node (o34 P) .nil .nil) .nil) (.node (o26 P) .nil .nil))) (.node (o5 P) (.node (o9 P) (.node (o16 P) (.node (o32 P) .nil .nil) .nil) (.node (o24 P) .nil .nil)) (.node (o13 P) (.node (o20 P) (.node (o35 P) .nil .nil) .nil) (.node (o8 P) .nil .nil)))) (.node (o2 P) (.node (o4 P) (.node (o8 P) (.node (o15 P) (.node (o31 P) .nil .nil) .nil) (.node (o23 P) .nil .nil)) (.node (o12 P) (.node (o19 P) (.node (o7 P) .nil .nil) .nil) (.node (o7 P) .nil .nil))) (.node (o6 P) (.node (o10 P) (.node (o17 P) (.node (o33 P) .nil .nil) .nil) (.node (o25 P) .nil .nil)) (.node (o14 P) (.node (o21 P) .nil .nil) (.node (o27 P) .nil .nil)))))
noncomputable def S3 (w : World) (os : OsState) : SharedT := ⟨tr3 w.params, 38, lf, ⟨[]⟩, dr, 1314, os⟩
noncomputable def pos3 : Pos := ⟨4,0,4,11⟩
noncomputable def o36 (P : Params) : Obj := ⟨(Value.type "dict"),Option.none,(Data.dict ⟨[⟨(PyData.keyHash P (st [95,95,110,97,109,101,95,95])),(Value.str (st [95,95,110,97,109,101,95,95]) 165),(Value.str (st [99,112,121,51,49,51,46,101,109,97,105,108,46,113,117,111,112,114,105,109,105,109,101]) 1329)⟩,⟨(PyData.keyHash P (st [95,95,100,111,99,95,95])),(Value.str (st [95,95,100,111,99,95,95]) 166),Value.none⟩,⟨(PyData.keyHash P (st [95,95,112,97,99,107,97,103,101,95,95])),(Value.str (st [95,95,112,97,99,107,97,103,101,95,95]) 167),Value.none⟩,⟨(PyData.keyHash P (st [95,95,108,111,97,100,101,114,95,95])),(Value.str (st [95,95,108,111,97,100,101,114,95,95]) 168),(Value.builtin "__main__.__loader__#opaque")⟩,⟨(PyData.keyHash P (st [95,95,115,112,101,99,95,95])),(Value.str (st [95,95,115,112,101,99,95,95]) 169),Value.none⟩,⟨(PyData.keyHash P (st [95,95,97,110,110,111,116,97,116,105,111,110,115,95,95])),(Value.str (st [95,95,97,110,110,111,116,97,116,105,111,110,115,95,95]) 170),(Value.ref 6)⟩,⟨(PyData.keyHash P (st [95,95,98,117,105,108,116,105,110,115,95,95])),(Value.str (st [95,95,98,117,105,108,116,105,110,115,95,95]) 171),(Value.ref 4)⟩,⟨(PyData.keyHash P (st [95,95,102,105,108,101,95,95])),(Value.str (st [95,95,102,105,108,101,95,95]) 173),(Value.str (st [47,99,108,97,105,109,47,99,117,116,46,112,121]) 172)⟩,⟨(PyData.keyHash P (st [95,95,99,97,99,104,101,100,95,95])),(Value.str (st [95,95,99,97,99,104,101,100,95,95]) 174),Value.none⟩,⟨(PyData.keyHash P (st [95,115,114,101])),(Value.str (st [95,115,114,101]) 275),(Value.ref 12)⟩,⟨(PyData.keyHash P (st [67,82,76,70])),(Value.str (st [67,82,76,70]) 283),(Value.str (st [13,10]) 282)⟩,⟨(PyData.keyHash P (st [78,76])),(Value.str (st [78,76]) 285),(Value.str (st [10]) 284)⟩,⟨(PyData.keyHash P (st [95,81,85,79,80,82,73,95,77,65,80])),(Value.str (st [95,81,85,79,80,82,73,95,77,65,80]) 1313),(Value.ref 34)⟩,⟨(PyData.keyHash P (st [95,81,85,79,80,82,73,95,72,69,65,68,69,82,95,77,65,80])),(Value.str (st [95,81,85,79,80,82,73,95,72,69,65,68,69,82,95,77,65,80]) 1314),(Value.ref 39)⟩,⟨(PyData.keyHash P (st [95,81,85,79,80,82,73,95,66,79,68,89,95,77,65,80])),(Value.str (st [95,81,85,79,80,82,73,95,66,79,68,89,95,77,65,80]) 1315),(Value.ref 41)⟩,⟨(PyData.keyHash P (st [97,115,99,105,105,95,108,111,119,101,114,99,97,115,101])),(Value.str (st [97,115,99,105,105,95,108,111,119,101,114,99,97,115,101]) 1317),(Value.str (st [97,98,99,100,101,102,103,104,105,106,107,108,109,110,111,112,113,114,115,116,117,118,119,120,121,122]) 1316)⟩,⟨(PyData.keyHash P (st [97,115,99,105,105,95,117,112,112,101,114,99,97,115,101])),(Value.str (st [97,115,99,105,105,95,117,112,112,101,114,99,97,115,101]) 1319),(Value.str (st [65,66,67,68,69,70,71,72,73,74,75,76,77,78,79,80,81,82,83,84,85,86,87,88,89,90]) 1318)⟩,⟨(PyData.keyHash P (st [97,115,99,105,105,95,108,101,116,116,101,114,115])),(Value.str (st [97,115,99,105,105,95,108,101,116,116,101,114,115]) 1321),(Value.str (st [97,98,99,100,101,102,103,104,105,106,107,108,109,110,111,112,113,114,115,116,117,118,119,120,121,122,65,66,67,68,69,70,71,72,73,74,75,76,77,78,79,80,81,82,83,84,85,86,87,88,89,90]) 1320)⟩,⟨(PyData.keyHash P (st [100,105,103,105,116,115])),(Value.str (st [100,105,103,105,116,115]) 1323),(Value.str (st [48,49,50,51,52,53,54,55,56,57]) 1322)⟩,⟨(PyData.keyHash P (st [104,101,120,100,105,103,105,116,115])),(Value.str (st [104,101,120,100,105,103,105,116,115]) 1328),(Value.str (st [48,49,50,51,52,53,54,55,56,57,97,98,99,100,101,102,65,66,67,68,69,70]) 1327)⟩]⟩ 20),⟨[]⟩⟩
noncomputable def o37 (P : Params) : Obj := ⟨(Value.type "slice"),Option.none,(Data.fields ⟨[Value.none,Value.none,Value.none]⟩),⟨[]⟩⟩
noncomputable def o38 (P : Params) : Obj := ⟨(Value.type "list"),Option.none,(Data.seq ⟨[(Value.str (st [61,48,48]) 292),(Value.str (st [61,48,49]) 296),(Value.str (st [61,48,50]) 300),(Value.str (st [61,48,51]) 304),(Value.str (st [61,48,52]) 308),(Value.str (st [61,48,53]) 312),(Value.str (st [61,48,54]) 316),(Value.str (st [61,48,55]) 320),(Value.str (st [61,48,56]) 324),(Value.str (st [61,48,57]) 328),(Value.str (st [61,48,65]) 332),(Value.str (st [61,48,66]) 336),(Value.str (st [61,48,67]) 340),(Value.str (st [61,48,68]) 344),(Value.str (st [61,48,69]) 348),(Value.str (st [61,48,70]) 352),(Value.str (st [61,49,48]) 356),(Value.str (st [61,49,49]) 360),(Value.str (st [61,49,50]) 364),(Value.str (st [61,49,51]) 368),(Value.str (st [61,49,52]) 372),(Value.str (st [61,49,53]) 376),(Value.str (st [61,49,54]) 380),(Value.str (st [61,49,55]) 384),(Value.str (st [61,49,56]) 388),(Value.str (st [61,49,57]) 392),(Value.str (st [61,49,65]) 396),(Value.str (st [61,49,66]) 400),(Value.str (st [61,49,67]) 404),(Value.str (st [61,49,68]) 408),(Value.str (st [61,49,69]) 412),(Value.str (st [61,49,70]) 416),(Value.str (st [61,50,48]) 420),(Value.str (st [61,50,49]) 424),(Value.str (st [61,50,50]) 428),(Value.str (st [61,50,51]) 432),(Value.str (st [61,50,52]) 436),(Value.str (st [61,50,53]) 440),(Value.str (st [61,50,54]) 444),(Value.str (st [61,50,55]) 448),(Value.str (st [61,50,56]) 452),(Value.str (st [61,50,57]) 456),(Value.str (st [61,50,65]) 460),(Value.str (st [61,50,66]) 464),(Value.str (st [61,50,67]) 468),(Value.str (st [61,50,68]) 472),(Value.str (st [61,50,69]) 476),(Value.str (st [61,50,70]) 480),(Value.str (st [61,51,48]) 484),(Value.str (st [61,51,49]) 488),(Value.str (st [61,51,50]) 492),(Value.str (st [61,51,51]) 496),(Value.str (st [61,51,52]) 500),(Value.str (st [61,51,53]) 504),(Value.str (st [61,51,54]) 508),(Value.str (st [61,51,55]) 512),(Value.str (st [61,51,56]) 516),(Value.str (st [61,51,57]) 520),(Value.str (st [61,51,65]) 524),(Value.str (st [61,51,66]) 528),(Value.str (st [61,51,67]) 532),(Value.str (st [61,51,68]) 536),(Value.str (st [61,51,69]) 540),(Value.str (st [61,51,70]) 544),(Value.str (st [61,52,48]) 548),(Value.str (st [61,52,49]) 552),(Value.str (st [61,52,50]) 556),(Value.str (st [61,52,51]) 560),(Value.str (st [61,52,52]) 564),(Value.str (st [61,52,53]) 568),(Value.str (st [61,52,54]) 572),(Value.str (st [61,52,55]) 576),(Value.str (st [61,52,56]) 580),(Value.str (st [61,52,57]) 584),(Value.str (st [61,52,65]) 588),(Value.str (st [61,52,66]) 592),(Value.str (st [61,52,67]) 596),(Value.str (st [61,52,68]) 600),(Value.str (st [61,52,69]) 604),(Value.str (st [61,52,70]) 608),(Value.str (st [61,53,48]) 612),(Value.str (st [61,53,49]) 616),(Value.str (st [61,53,50]) 620),(Value.str (st [61,53,51]) 624),(Value.str (st [61,53,52]) 628),(Value.str (st [61,53,53]) 632),(Value.str (st [61,53,54]) 636),(Value.str (st [61,53,55]) 640),(Value.str (st [61,53,56]) 644),(Value.str (st [61,53,57]) 648),(Value.str (st [61,53,65]) 652),(Value.str (st [61,53,66]) 656),(Value.str (st [61,53,67]) 660),(Value.str (st [61,53,68]) 664),(Value.str (st [61,53,69]) 668),(Value.str (st [61,53,70]) 672),(Value.str (st [61,54,48]) 676),(Value.str (st [61,54,49]) 680),(Value.str (st [61,54,50]) 684),(Value.str (st [61,54,51]) 688),(Value.str (st [61,54,52]) 692),(Value.str (st [61,54,53]) 696),(Value.str (st [61,54,54]) 700),(Value.str (st [61,54,55]) 704),(Value.str (st [61,54,56]) 708),(Value.str (st [61,54,57]) 712),(Value.str (st [61,54,65]) 716),(Value.str (st [61,54,66]) 720),(Value.str (st [61,54,67]) 724),(Value.str (st [61,54,68]) 728),(Value.str (st [61,54,69]) 732),(Value.str (st [61,54,70]) 736),(Value.str (st [61,55,48]) 740),(Value.str (st [61,55,49]) 744),(Value.str (st [61,55,50]) 748),(Value.str (st [61,55,51]) 752),(Value.str (st [61,55,52]) 756),(Value.str (st [61,55,53]) 760),(Value.str (st [61,55,54]) 764),(Value.str (st [61,55,55]) 768),(Value.str (st [61,55,56]) 772),(Value.str (st [61,55,57]) 776),(Value.str (st [61,55,65]) 780),(Value.str (st [61,55,66]) 784),(Value.str (st [61,55,67]) 788),(Value.str (st [61,55,68]) 792),(Value.str (st [61,55,69]) 796),(Value.str (st [61,55,70]) 800),(Value.str (st [61,56,48]) 804),(Value.str (st [61,56,49]) 808),(Value.str (st [61,56,50]) 812),(Value.str (st [61,56,51]) 816),(Value.str (st [61,56,52]) 820),(Value.str (st [61,56,53]) 824),(Value.str (st [61,56,54]) 828),(Value.str (st [61,56,55]) 832),(Value.str (st [61,56,56]) 836),(Value.str (st [61,56,57]) 840),(Value.str (st [61,56,65]) 844),(Value.str (st [61,56,66]) 848),(Value.str (st [61,56,67]) 852),(Value.str (st [61,56,68]) 856),(Value.str (st [61,56,69]) 860),(Value.str (st [61,56,70]) 864),(Value.str (st [61,57,48]) 868),(Value.str (st [61,57,49]) 872),(Value.str (st [61,57,50]) 876),(Value.str (st [61,57,51]) 880),(Value.str (st [61,57,52]) 884),(Value.str (st [61,57,53]) 888),(Value.str (st [61,57,54]) 892),(Value.str (st [61,57,55]) 896),(Value.str (st [61,57,56]) 900),(Value.str (st [61,57,57]) 904),(Value.str (st [61,57,65]) 908),(Value.str (st [61,57,66]) 912),(Value.str (st [61,57,67]) 916),(Value.str (st [61,57,68]) 920),(Value.str (st [61,57,69]) 924),(Value.str (st [61,57,70]) 928),(Value.str (st [61,65,48]) 932),(Value.str (st [61,65,49]) 936),(Value.str (st [61,65,50]) 940),(Value.str (st [61,65,51]) 944),(Value.str (st [61,65,52]) 948),(Value.str (st [61,65,53]) 952),(Value.str (st [61,65,54]) 956),(Value.str (st [61,65,55]) 960),(Value.str (st [61,65,56]) 964),(Value.str (st [61,65,57]) 968),(Value.str (st [61,65,65]) 972),(Value.str (st [61,65,66]) 976),(Value.str (st [61,65,67]) 980),(Value.str (st [61,65,68]) 984),(Value.str (st [61,65,69]) 988),(Value.str (st [61,65,70]) 992),(Value.str (st [61,66,48]) 996),(Value.str (st [61,66,49]) 1000),(Value.str (st [61,66,50]) 1004),(Value.str (st [61,66,51]) 1008),(Value.str (st [61,66,52]) 1012),(Value.str (st [61,66,53]) 1016),(Value.str (st [61,66,54]) 1020),(Value.str (st [61,66,55]) 1024),(Value.str (st [61,66,56]) 1028),(Value.str (st [61,66,57]) 1032),(Value.str (st [61,66,65]) 1036),(Value.str (st [61,66,66]) 1040),(Value.str (st [61,66,67]) 1044),(Value.str (st [61,66,68]) 1048),(Value.str (st [61,66,69]) 1052),(Value.str (st [61,66,70]) 1056),(Value.str (st [61,67,48]) 1060),(Value.str (st [61,67,49]) 1064),(Value.str (st [61,67,50]) 1068),(Value.str (st [61,67,51]) 1072),(Value.str (st [61,67,52]) 1076),(Value.str (st [61,67,53]) 1080),(Value.str (st [61,67,54]) 1084),(Value.str (st [61,67,55]) 1088),(Value.str (st [61,67,56]) 1092),(Value.str (st [61,67,57]) 1096),(Value.str (st [61,67,65]) 1100),(Value.str (st [61,67,66]) 1104),(Value.str (st [61,67,67]) 1108),(Value.str (st [61,67,68]) 1112),(Value.str (st [61,67,69]) 1116),(Value.str (st [61,67,70]) 1120),(Value.str (st [61,68,48]) 1124),(Value.str (st [61,68,49]) 1128),(Value.str (st [61,68,50]) 1132),(Value.str (st [61,68,51]) 1136),(Value.str (st [61,68,52]) 1140),(Value.str (st [61,68,53]) 1144),(Value.str (st [61,68,54]) 1148),(Value.str (st [61,68,55]) 1152),(Value.str (st [61,68,56]) 1156),(Value.str (st [61,68,57]) 1160),(Value.str (st [61,68,65]) 1164),(Value.str (st [61,68,66]) 1168),(Value.str (st [61,68,67]) 1172),(Value.str (st [61,68,68]) 1176),(Value.str (st [61,68,69]) 1180),(Value.str (st [61,68,70]) 1184),(Value.str (st [61,69,48]) 1188),(Value.str (st [61,69,49]) 1192),(Value.str (st [61,69,50]) 1196),(Value.str (st [61,69,51]) 1200),(Value.str (st [61,69,52]) 1204),(Value.str (st [61,69,53]) 1208),(Value.str (st [61,69,54]) 1212),(Value.str (st [61,69,55]) 1216),(Value.str (st [61,69,56]) 1220),(Value.str (st [61,69,57]) 1224),(Value.str (st [61,69,65]) 1228),(Value.str (st [61,69,66]) 1232),(Value.str (st [61,69,67]) 1236),(Value.str (st [61,69,68]) 1240),(Value.str (st [61,69,69]) 1244),(Value.str (st [61,69,70]) 1248),(Value.str (st [61,70,48]) 1252),(Value.str (st [61,70,49]) 1256),(Value.str (st [61,70,50]) 1260),(Value.str (st [61,70,51]) 1264),(Value.str (st [61,70,52]) 1268),(Value.str (st [61,70,53]) 1272),(Value.str (st [61,70,54]) 1276),(Value.str (st [61,70,55]) 1280),(Value.str (st [61,70,56]) 1284),(Value.str (st [61,70,57]) 1288),(Value.str (st [61,70,65]) 1292),(Value.str (st [61,70,66]) 1296),(Value.str (st [61,70,67]) 1300),(Value.str (st [61,70,68]) 1304),(Value.str (st [61,70,69]) 1308),(Value.str (st [61,70,70]) 1312)]⟩ 0),⟨[]⟩⟩
noncomputable def tr11 (P : Params) : BT := (.node (o0 P) (.node (o1 P) (.node (o36 P) (.node (o7 P) (.node (o7 P) (.node (o28 P) .nil .nil) .nil) (.node (o22 P) (.node (o38 P) .nil .nil) .nil)) (.node (o11 P) (.node (o18 P) (.node (o34 P) .nil .nil) .nil) (.node (o26 P) .nil .nil))) (.node (o5 P) (.node (o9 P) (.node (o16 P) (.node (o32 P) .nil .nil) .nil) (.node (o24 P) (.node (o38 P) .nil .nil) .nil)) (.node (o13 P) (.node (o20 P) (.node (o35 P) .nil .nil) .nil) (.node (o8 P) .nil .nil)))) (.node (o2 P) (.node (o4 P) (.node (o8 P) (.node (o15 P) (.node (o31 P) .nil .nil) .nil) (.node (o23 P) (.node (o37 P) .nil .nil) .nil)) (.node (o12 P) (.node (o19 P) (.node (o7 P) .nil .nil) .nil) (.node (o7 P) .nil .nil))) (.node (o6 P) (.node (o10 P) (.node (o17 P) (.node (o33 P) .nil .nil) .nil) (.node (o25 P) .nil .nil)) (.node (o14 P) (.node (o21 P) (.node (o37 P) .nil .nil) .nil) (.node (o27 P) .nil .nil)))))
noncomputable def S11 (w : World) (os : OsState) : SharedT := ⟨tr11 w.params, 42, lf, ⟨[]⟩, dr, 1331, os⟩
noncomputable def pos11 : Pos := ⟨12,0,12,8⟩
noncomputable def o39 (P : Params) : Obj := ⟨(Value.type "dict"),Option.none,(Data.dict ⟨[⟨(PyData.keyHash P (st [95,95,110,97,109,101,95,95])),(Value.str (st [95,95,110,97,109,101,95,95]) 165),(Value.str (st [99,112,121,51,49,51,46,101,109,97,105,108,46,113,117,111,112,114,105,109,105,109,101]) 1329)⟩,⟨(PyData.keyHash P (st [95,95,100,111,99,95,95])),(Value.str (st [95,95,100,111,99,95,95]) 166),Value.none⟩,⟨(PyData.keyHash P (st [95,95,112,97,99,107,97,103,101,95,95])),(Value.str (st [95,95,112,97,99,107,97,103,101,95,95]) 167),Value.none⟩,⟨(PyData.keyHash P (st [95,95,108,111,97,100,101,114,95,95])),(Value.str (st [95,95,108,111,97,100,101,114,95,95]) 168),(Value.builtin "__main__.__loader__#opaque")⟩,⟨(PyData.keyHash P (st [95,95,115,112,101,99,95,95])),(Value.str (st [95,95,115,112,101,99,95,95]) 169),Value.none⟩,⟨(PyData.keyHash P (st [95,95,97,110,110,111,116,97,116,105,111,110,115,95,95])),(Value.str (st [95,95,97,110,110,111,116,97,116,105,111,110,115,95,95]) 170),(Value.ref 6)⟩,⟨(PyData.keyHash P (st [95,95,98,117,105,108,116,105,110,115,95,95])),(Value.str (st [95,95,98,117,105,108,116,105,110,115,95,95]) 171),(Value.ref 4)⟩,⟨(PyData.keyHash P (st [95,95,102,105,108,101,95,95])),(Value.str (st [95,95,102,105,108,101,95,95]) 173),(Value.str (st [47,99,108,97,105,109,47,99,117,116,46,112,121]) 172)⟩,⟨(PyData.keyHash P (st [95,95,99,97,99,104,101,100,95,95])),(Value.str (st [95,95,99,97,99,104,101,100,95,95]) 174),Value.none⟩,⟨(PyData.keyHash P (st [95,115,114,101])),(Value.str (st [95,115,114,101]) 275),(Value.ref 12)⟩,⟨(PyData.keyHash P (st [67,82,76,70])),(Value.str (st [67,82,76,70]) 283),(Value.str (st [13,10]) 282)⟩,⟨(PyData.keyHash P (st [78,76])),(Value.str (st [78,76]) 285),(Value.str (st [10]) 284)⟩,⟨(PyData.keyHash P (st [95,81,85,79,80,82,73,95,77,65,80])),(Value.str (st [95,81,85,79,80,82,73,95,77,65,80]) 1313),(Value.ref 34)⟩,⟨(PyData.keyHash P (st [95,81,85,79,80,82,73,95,72,69,65,68,69,82,95,77,65,80])),(Value.str (st [95,81,85,79,80,82,73,95,72,69,65,68,69,82,95,77,65,80]) 1314),(Value.ref 39)⟩,⟨(PyData.keyHash P (st [95,81,85,79,80,82,73,95,66,79,68,89,95,77,65,80])),(Value.str (st [95,81,85,79,80,82,73,95,66,79,68,89,95,77,65,80]) 1315),(Value.ref 41)⟩,⟨(PyData.keyHash P (st [97,115,99,105,105,95,108,111,119,101,114,99,97,115,101])),(Value.str (st [97,115,99,105,105,95,108,111,119,101,114,99,97,115,101]) 1317),(Value.str (st [97,98,99,100,101,102,103,104,105,106,107,108,109,110,111,112,113,114,115,116,117,118,119,120,121,122]) 1316)⟩,⟨(PyData.keyHash P (st [97,115,99,105,105,95,117,112,112,101,114,99,97,115,101])),(Value.str (st [97,115,99,105,105,95,117,112,112,101,114,99,97,115,101]) 1319),(Value.str (st [65,66,67,68,69,70,71,72,73,74,75,76,77,78,79,80,81,82,83,84,85,86,87,88,89,90]) 1318)⟩,⟨(PyData.keyHash P (st [97,115,99,105,105,95,108,101,116,116,101,114,115])),(Value.str (st [97,115,99,105,105,95,108,101,116,116,101,114,115]) 1321),(Value.str (st [97,98,99,100,101,102,103,104,105,106,107,108,109,110,111,112,113,114,115,116,117,118,119,120,121,122,65,66,67,68,69,70,71,72,73,74,75,76,77,78,79,80,81,82,83,84,85,86,87,88,89,90]) 1320)⟩,⟨(PyData.keyHash P (st [100,105,103,105,116,115])),(Value.str (st [100,105,103,105,116,115]) 1323),(Value.str (st [48,49,50,51,52,53,54,55,56,57]) 1322)⟩,⟨(PyData.keyHash P (st [104,101,120,100,105,103,105,116,115])),(Value.str (st [104,101,120,100,105,103,105,116,115]) 1328),(Value.str (st [48,49,50,51,52,53,54,55,56,57,97,98,99,100,101,102,65,66,67,68,69,70]) 1327)⟩,⟨(PyData.keyHash P (st [99])),(Value.str (st [99]) 1339),(Value.int 57 1536)⟩]⟩ 21),⟨[]⟩⟩
noncomputable def o40 (P : Params) : Obj := ⟨(Value.type "list"),Option.none,(Data.seq ⟨[(Value.str (st [61,48,48]) 292),(Value.str (st [61,48,49]) 296),(Value.str (st [61,48,50]) 300),(Value.str (st [61,48,51]) 304),(Value.str (st [61,48,52]) 308),(Value.str (st [61,48,53]) 312),(Value.str (st [61,48,54]) 316),(Value.str (st [61,48,55]) 320),(Value.str (st [61,48,56]) 324),(Value.str (st [61,48,57]) 328),(Value.str (st [61,48,65]) 332),(Value.str (st [61,48,66]) 336),(Value.str (st [61,48,67]) 340),(Value.str (st [61,48,68]) 344),(Value.str (st [61,48,69]) 348),(Value.str (st [61,48,70]) 352),(Value.str (st [61,49,48]) 356),(Value.str (st [61,49,49]) 360),(Value.str (st [61,49,50]) 364),(Value.str (st [61,49,51]) 368),(Value.str (st [61,49,52]) 372),(Value.str (st [61,49,53]) 376),(Value.str (st [61,49,54]) 380),(Value.str (st [61,49,55]) 384),(Value.str (st [61,49,56]) 388),(Value.str (st [61,49,57]) 392),(Value.str (st [61,49,65]) 396),(Value.str (st [61,49,66]) 400),(Value.str (st [61,49,67]) 404),(Value.str (st [61,49,68]) 408),(Value.str (st [61,49,69]) 412),(Value.str (st [61,49,70]) 416),(Value.str (st [61,50,48]) 420),(Value.str (st [33]) 1343),(Value.str (st [61,50,50]) 428),(Value.str (st [61,50,51]) 432),(Value.str (st [61,50,52]) 436),(Value.str (st [61,50,53]) 440),(Value.str (st [61,50,54]) 444),(Value.str (st [61,50,55]) 448),(Value.str (st [61,50,56]) 452),(Value.str (st [61,50,57]) 456),(Value.str (st [42]) 1346),(Value.str (st [43]) 1349),(Value.str (st [61,50,67]) 468),(Value.str (st [45]) 1340),(Value.str (st [61,50,69]) 476),(Value.str (st [47]) 1352),(Value.str (st [48]) 1511),(Value.str (st [49]) 1514),(Value.str (st [50]) 1517),(Value.str (st [51]) 1520),(Value.str (st [52]) 1523),(Value.str (st [53]) 1526),(Value.str (st [54]) 1529),(Value.str (st [55]) 1532),(Value.str (st [56]) 1535),(Value.str (st [57]) 1538),(Value.str (st [61,51,65]) 524),(Value.str (st [61,51,66]) 528),(Value.str (st [61,51,67]) 532),(Value.str (st [61,51,68]) 536),(Value.str (st [61,51,69]) 540),(Value.str (st [61,51,70]) 544),(Value.str (st [61,52,48]) 548),(Value.str (st [65]) 1433),(Value.str (st [66]) 1436),(Value.str (st [67]) 1439),(Value.str (st [68]) 1442),(Value.str (st [69]) 1445),(Value.str (st [70]) 1448),(Value.str (st [71]) 1451),(Value.str (st [72]) 1454),(Value.str (st [73]) 1457),(Value.str (st [74]) 1460),(Value.str (st [75]) 1463),(Value.str (st [76]) 1466),(Value.str (st [77]) 1469),(Value.str (st [78]) 1472),(Value.str (st [79]) 1475),(Value.str (st [80]) 1478),(Value.str (st [81]) 1481),(Value.str (st [82]) 1484),(Value.str (st [83]) 1487),(Value.str (st [84]) 1490),(Value.str (st [85]) 1493),(Value.str (st [86]) 1496),(Value.str (st [87]) 1499),(Value.str (st [88]) 1502),(Value.str (st [89]) 1505),(Value.str (st [90]) 1508),(Value.str (st [61,53,66]) 656),(Value.str (st [61,53,67]) 660),(Value.str (st [61,53,68]) 664),(Value.str (st [61,53,69]) 668),(Value.str (st [61,53,70]) 672),(Value.str (st [61,54,48]) 676),(Value.str (st [97]) 1355),(Value.str (st [98]) 1358),(Value.str (st [99]) 1361),(Value.str (st [100]) 1364),(Value.str (st [101]) 1367),(Value.str (st [102]) 1370),(Value.str (st [103]) 1373),(Value.str (st [104]) 1376),(Value.str (st [105]) 1379),(Value.str (st [106]) 1382),(Value.str (st [107]) 1385),(Value.str (st [108]) 1388),(Value.str (st [109]) 1391),(Value.str (st [110]) 1394),(Value.str (st [111]) 1397),(Value.str (st [112]) 1400),(Value.str (st [113]) 1403),(Value.str (st [114]) 1406),(Value.str (st [115]) 1409),(Value.str (st [116]) 1412),(Value.str (st [117]) 1415),(Value.str (st [118]) 1418),(Value.str (st [119]) 1421),(Value.str (st [120]) 1424),(Value.str (st [121]) 1427),(Value.str (st [122]) 1430),(Value.str (st [61,55,66]) 784),(Value.str (st [61,55,67]) 788),(Value.str (st [61,55,68]) 792),(Value.str (st [61,55,69]) 796),(Value.str (st [61,55,70]) 800),(Value.str (st [61,56,48]) 804),(Value.str (st [61,56,49]) 808),(Value.str (st [61,56,50]) 812),(Value.str (st [61,56,51]) 816),(Value.str (st [61,56,52]) 820),(Value.str (st [61,56,53]) 824),(Value.str (st [61,56,54]) 828),(Value.str (st [61,56,55]) 832),(Value.str (st [61,56,56]) 836),(Value.str (st [61,56,57]) 840),(Value.str (st [61,56,65]) 844),(Value.str (st [61,56,66]) 848),(Value.str (st [61,56,67]) 852),(Value.str (st [61,56,68]) 856),(Value.str (st [61,56,69]) 860),(Value.str (st [61,56,70]) 864),(Value.str (st [61,57,48]) 868),(Value.str (st [61,57,49]) 872),(Value.str (st [61,57,50]) 876),(Value.str (st [61,57,51]) 880),(Value.str (st [61,57,52]) 884),(Value.str (st [61,57,53]) 888),(Value.str (st [61,57,54]) 892),(Value.str (st [61,57,55]) 896),(Value.str (st [61,57,56]) 900),(Value.str (st [61,57,57]) 904),(Value.str (st [61,57,65]) 908),(Value.str (st [61,57,66]) 912),(Value.str (st [61,57,67]) 916),(Value.str (st [61,57,68]) 920),(Value.str (st [61,57,69]) 924),(Value.str (st [61,57,70]) 928),(Value.str (st [61,65,48]) 932),(Value.str (st [61,65,49]) 936),(Value.str (st [61,65,50]) 940),(Value.str (st [61,65,51]) 944),(Value.str (st [61,65,52]) 948),(Value.str (st [61,65,53]) 952),(Value.str (st [61,65,54]) 956),(Value.str (st [61,65,55]) 960),(Value.str (st [61,65,56]) 964),(Value.str (st [61,65,57]) 968),(Value.str (st [61,65,65]) 972),(Value.str (st [61,65,66]) 976),(Value.str (st [61,65,67]) 980),(Value.str (st [61,65,68]) 984),(Value.str (st [61,65,69]) 988),(Value.str (st [61,65,70]) 992),(Value.str (st [61,66,48]) 996),(Value.str (st [61,66,49]) 1000),(Value.str (st [61,66,50]) 1004),(Value.str (st [61,66,51]) 1008),(Value.str (st [61,66,52]) 1012),(Value.str (st [61,66,53]) 1016),(Value.str (st [61,66,54]) 1020),(Value.str (st [61,66,55]) 1024),(Value.str (st [61,66,56]) 1028),(Value.str (st [61,66,57]) 1032),(Value.str (st [61,66,65]) 1036),(Value.str (st [61,66,66]) 1040),(Value.str (st [61,66,67]) 1044),(Value.str (st [61,66,68]) 1048),(Value.str (st [61,66,69]) 1052),(Value.str (st [61,66,70]) 1056),(Value.str (st [61,67,48]) 1060),(Value.str (st [61,67,49]) 1064),(Value.str (st [61,67,50]) 1068),(Value.str (st [61,67,51]) 1072),(Value.str (st [61,67,52]) 1076),(Value.str (st [61,67,53]) 1080),(Value.str (st [61,67,54]) 1084),(Value.str (st [61,67,55]) 1088),(Value.str (st [61,67,56]) 1092),(Value.str (st [61,67,57]) 1096),(Value.str (st [61,67,65]) 1100),(Value.str (st [61,67,66]) 1104),(Value.str (st [61,67,67]) 1108),(Value.str (st [61,67,68]) 1112),(Value.str (st [61,67,69]) 1116),(Value.str (st [61,67,70]) 1120),(Value.str (st [61,68,48]) 1124),(Value.str (st [61,68,49]) 1128),(Value.str (st [61,68,50]) 1132),(Value.str (st [61,68,51]) 1136),(Value.str (st [61,68,52]) 1140),(Value.str (st [61,68,53]) 1144),(Value.str (st [61,68,54]) 1148),(Value.str (st [61,68,55]) 1152),(Value.str (st [61,68,56]) 1156),(Value.str (st [61,68,57]) 1160),(Value.str (st [61,68,65]) 1164),(Value.str (st [61,68,66]) 1168),(Value.str (st [61,68,67]) 1172),(Value.str (st [61,68,68]) 1176),(Value.str (st [61,68,69]) 1180),(Value.str (st [61,68,70]) 1184),(Value.str (st [61,69,48]) 1188),(Value.str (st [61,69,49]) 1192),(Value.str (st [61,69,50]) 1196),(Value.str (st [61,69,51]) 1200),(Value.str (st [61,69,52]) 1204),(Value.str (st [61,69,53]) 1208),(Value.str (st [61,69,54]) 1212),(Value.str (st [61,69,55]) 1216),(Value.str (st [61,69,56]) 1220),(Value.str (st [61,69,57]) 1224),(Value.str (st [61,69,65]) 1228),(Value.str (st [61,69,66]) 1232),(Value.str (st [61,69,67]) 1236),(Value.str (st [61,69,68]) 1240),(Value.str (st [61,69,69]) 1244),(Value.str (st [61,69,70]) 1248),(Value.str (st [61,70,48]) 1252),(Value.str (st [61,70,49]) 1256),(Value.str (st [61,70,50]) 1260),(Value.str (st [61,70,51]) 1264),(Value.str (st [61,70,52]) 1268),(Value.str (st [61,70,53]) 1272),(Value.str (st [61,70,54]) 1276),(Value.str (st [61,70,55]) 1280),(Value.str (st [61,70,56]) 1284),(Value.str (st [61,70,57]) 1288),(Value.str (st [61,70,65]) 1292),(Value.str (st [61,70,66]) 1296),(Value.str (st [61,70,67]) 1300),(Value.str (st [61,70,68]) 1304),(Value.str (st [61,70,69]) 1308),(Value.str (st [61,70,70]) 1312)]⟩ 0),⟨[]⟩⟩
noncomputable def o41 (P : Params) : Obj := ⟨(Value.type "bytes_iterator"),Option.none,(Data.fields ⟨[Value.none,(Value.int 67 0)]⟩),⟨[]⟩⟩
noncomputable def o42 (P : Params) : Obj := ⟨(Value.type "StopIteration"),Option.none,(Data.fields ⟨[(Value.ref 43),Value.none,Value.none,Value.none,(Value.bool Bool.false),Value.none]⟩),⟨[]⟩⟩
noncomputable def tr12 (P : Params) : BT := (.node (o0 P) (.node (o1 P) (.node (o39 P) (.node (o7 P) (.node (o7 P) (.node (o28 P) .nil .nil) .nil) (.node (o22 P) (.node (o40 P) .nil .nil) .nil)) (.node (o11 P) (.node (o18 P) (.node (o34 P) .nil .nil) .nil) (.node (o26 P) (.node (o7 P) .nil .nil) .nil))) (.node (o5 P) (.node (o9 P) (.node (o16 P) (.node (o32 P) .nil .nil) .nil) (.node (o24 P) (.node (o38 P) .nil .nil) .nil)) (.node (o13 P) (.node (o20 P) (.node (o35 P) .nil .nil) .nil) (.node (o8 P) .nil .nil)))) (.node (o2 P) (.node (o4 P) (.node (o8 P) (.node (o15 P) (.node (o31 P) .nil .nil) .nil) (.node (o23 P) (.node (o37 P) .nil .nil) .nil)) (.node (o12 P) (.node (o19 P) (.node (o7 P) .nil .nil) .nil) (.node (o7 P) (.node (o42 P) .nil .nil) .nil))) (.node (o6 P) (.node (o10 P) (.node (o17 P) (.node (o33 P) .nil .nil) .nil) (.node (o25 P) (.node (o41 P) .nil .nil) .nil)) (.node (o14 P) (.node (o21 P) (.node (o37 P) .nil .nil) .nil) (.node (o27 P) .nil .nil)))))
noncomputable def S12 (w : World) (os : OsState) : SharedT := ⟨tr12 w.params, 45, lf, ⟨[]⟩, dr, 1539, os⟩
noncomputable def pos12 : Pos := ⟨13,9,13,74⟩
noncomputable def o43 (P : Params) : Obj := ⟨(Value.type "list"),Option.none,(Data.seq ⟨[(Value.str (st [61,48,48]) 292),(Value.str (st [61,48,49]) 296),(Value.str (st [61,48,50]) 300),(Value.str (st [61,48,51]) 304),(Value.str (st [61,48,52]) 308),(Value.str (st [61,48,53]) 312),(Value.str (st [61,48,54]) 316),(Value.str (st [61,48,55]) 320),(Value.str (st [61,48,56]) 324),(Value.str (st [61,48,57]) 328),(Value.str (st [61,48,65]) 332),(Value.str (st [61,48,66]) 336),(Value.str (st [61,48,67]) 340),(Value.str (st [61,48,68]) 344),(Value.str (st [61,48,69]) 348),(Value.str (st [61,48,70]) 352),(Value.str (st [61,49,48]) 356),(Value.str (st [61,49,49]) 360),(Value.str (st [61,49,50]) 364),(Value.str (st [61,49,51]) 368),(Value.str (st [61,49,52]) 372),(Value.str (st [61,49,53]) 376),(Value.str (st [61,49,54]) 380),(Value.str (st [61,49,55]) 384),(Value.str (st [61,49,56]) 388),(Value.str (st [61,49,57]) 392),(Value.str (st [61,49,65]) 396),(Value.str (st [61,49,66]) 400),(Value.str (st [61,49,67]) 404),(Value.str (st [61,49,68]) 408),(Value.str (st [61,49,69]) 412),(Value.str (st [61,49,70]) 416),(Value.str (st [95]) 1539),(Value.str (st [33]) 1343),(Value.str (st [61,50,50]) 428),(Value.str (st [61,50,51]) 432),(Value.str (st [61,50,52]) 436),(Value.str (st [61,50,53]) 440),(Value.str (st [61,50,54]) 444),(Value.str (st [61,50,55]) 448),(Value.str (st [61,50,56]) 452),(Value.str (st [61,50,57]) 456),(Value.str (st [42]) 1346),(Value.str (st [43]) 1349),(Value.str (st [61,50,67]) 468),(Value.str (st [45]) 1340),(Value.str (st [61,50,69]) 476),(Value.str (st [47]) 1352),(Value.str (st [48]) 1511),(Value.str (st [49]) 1514),(Value.str (st [50]) 1517),(Value.str (st [51]) 1520),(Value.str (st [52]) 1523),(Value.str (st [53]) 1526),(Value.str (st [54]) 1529),(Value.str (st [55]) 1532),(Value.str (st [56]) 1535),(Value.str (st [57]) 1538),(Value.str (st [61,51,65]) 524),(Value.str (st [61,51,66]) 528),(Value.str (st [61,51,67]) 532),(Value.str (st [61,51,68]) 536),(Value.str (st [61,51,69]) 540),(Value.str (st [61,51,70]) 544),(Value.str (st [61,52,48]) 548),(Value.str (st [65]) 1433),(Value.str (st [66]) 1436),(Value.str (st [67]) 1439),(Value.str (st [68]) 1442),(Value.str (st [69]) 1445),(Value.str (st [70]) 1448),(Value.str (st [71]) 1451),(Value.str (st [72]) 1454),(Value.str (st [73]) 1457),(Value.str (st [74]) 1460),(Value.str (st [75]) 1463),(Value.str (st [76]) 1466),(Value.str (st [77]) 1469),(Value.str (st [78]) 1472),(Value.str (st [79]) 1475),(Value.str (st [80]) 1478),(Value.str (st [81]) 1481),(Value.str (st [82]) 1484),(Value.str (st [83]) 1487),(Value.str (st [84]) 1490),(Value.str (st [85]) 1493),(Value.str (st [86]) 1496),(Value.str (st [87]) 1499),(Value.str (st [88]) 1502),(Value.str (st [89]) 1505),(Value.str (st [90]) 1508),(Value.str (st [61,53,66]) 656),(Value.str (st [61,53,67]) 660),(Value.str (st [61,53,68]) 664),(Value.str (st [61,53,69]) 668),(Value.str (st [61,53,70]) 672),(Value.str (st [61,54,48]) 676),(Value.str (st [97]) 1355),(Value.str (st [98]) 1358),(Value.str (st [99]) 1361),(Value.str (st [100]) 1364),(Value.str (st [101]) 1367),(Value.str (st [102]) 1370),(Value.str (st [103]) 1373),(Value.str (st [104]) 1376),(Value.str (st [105]) 1379),(Value.str (st [106]) 1382),(Value.str (st [107]) 1385),(Value.str (st [108]) 1388),(Value.str (st [109]) 1391),(Value.str (st [110]) 1394),(Value.str (st [111]) 1397),(Value.str (st [112]) 1400),(Value.str (st [113]) 1403),(Value.str (st [114]) 1406),(Value.str (st [115]) 1409),(Value.str (st [116]) 1412),(Value.str (st [117]) 1415),(Value.str (st [118]) 1418),(Value.str (st [119]) 1421),(Value.str (st [120]) 1424),(Value.str (st [121]) 1427),(Value.str (st [122]) 1430),(Value.str (st [61,55,66]) 784),(Value.str (st [61,55,67]) 788),(Value.str (st [61,55,68]) 792),(Value.str (st [61,55,69]) 796),(Value.str (st [61,55,70]) 800),(Value.str (st [61,56,48]) 804),(Value.str (st [61,56,49]) 808),(Value.str (st [61,56,50]) 812),(Value.str (st [61,56,51]) 816),(Value.str (st [61,56,52]) 820),(Value.str (st [61,56,53]) 824),(Value.str (st [61,56,54]) 828),(Value.str (st [61,56,55]) 832),(Value.str (st [61,56,56]) 836),(Value.str (st [61,56,57]) 840),(Value.str (st [61,56,65]) 844),(Value.str (st [61,56,66]) 848),(Value.str (st [61,56,67]) 852),(Value.str (st [61,56,68]) 856),(Value.str (st [61,56,69]) 860),(Value.str (st [61,56,70]) 864),(Value.str (st [61,57,48]) 868),(Value.str (st [61,57,49]) 872),(Value.str (st [61,57,50]) 876),(Value.str (st [61,57,51]) 880),(Value.str (st [61,57,52]) 884),(Value.str (st [61,57,53]) 888),(Value.str (st [61,57,54]) 892),(Value.str (st [61,57,55]) 896),(Value.str (st [61,57,56]) 900),(Value.str (st [61,57,57]) 904),(Value.str (st [61,57,65]) 908),(Value.str (st [61,57,66]) 912),(Value.str (st [61,57,67]) 916),(Value.str (st [61,57,68]) 920),(Value.str (st [61,57,69]) 924),(Value.str (st [61,57,70]) 928),(Value.str (st [61,65,48]) 932),(Value.str (st [61,65,49]) 936),(Value.str (st [61,65,50]) 940),(Value.str (st [61,65,51]) 944),(Value.str (st [61,65,52]) 948),(Value.str (st [61,65,53]) 952),(Value.str (st [61,65,54]) 956),(Value.str (st [61,65,55]) 960),(Value.str (st [61,65,56]) 964),(Value.str (st [61,65,57]) 968),(Value.str (st [61,65,65]) 972),(Value.str (st [61,65,66]) 976),(Value.str (st [61,65,67]) 980),(Value.str (st [61,65,68]) 984),(Value.str (st [61,65,69]) 988),(Value.str (st [61,65,70]) 992),(Value.str (st [61,66,48]) 996),(Value.str (st [61,66,49]) 1000),(Value.str (st [61,66,50]) 1004),(Value.str (st [61,66,51]) 1008),(Value.str (st [61,66,52]) 1012),(Value.str (st [61,66,53]) 1016),(Value.str (st [61,66,54]) 1020),(Value.str (st [61,66,55]) 1024),(Value.str (st [61,66,56]) 1028),(Value.str (st [61,66,57]) 1032),(Value.str (st [61,66,65]) 1036),(Value.str (st [61,66,66]) 1040),(Value.str (st [61,66,67]) 1044),(Value.str (st [61,66,68]) 1048),(Value.str (st [61,66,69]) 1052),(Value.str (st [61,66,70]) 1056),(Value.str (st [61,67,48]) 1060),(Value.str (st [61,67,49]) 1064),(Value.str (st [61,67,50]) 1068),(Value.str (st [61,67,51]) 1072),(Value.str (st [61,67,52]) 1076),(Value.str (st [61,67,53]) 1080),(Value.str (st [61,67,54]) 1084),(Value.str (st [61,67,55]) 1088),(Value.str (st [61,67,56]) 1092),(Value.str (st [61,67,57]) 1096),(Value.str (st [61,67,65]) 1100),(Value.str (st [61,67,66]) 1104),(Value.str (st [61,67,67]) 1108),(Value.str (st [61,67,68]) 1112),(Value.str (st [61,67,69]) 1116),(Value.str (st [61,67,70]) 1120),(Value.str (st [61,68,48]) 1124),(Value.str (st [61,68,49]) 1128),(Value.str (st [61,68,50]) 1132),(Value.str (st [61,68,51]) 1136),(Value.str (st [61,68,52]) 1140),(Value.str (st [61,68,53]) 1144),(Value.str (st [61,68,54]) 1148),(Value.str (st [61,68,55]) 1152),(Value.str (st [61,68,56]) 1156),(Value.str (st [61,68,57]) 1160),(Value.str (st [61,68,65]) 1164),(Value.str (st [61,68,66]) 1168),(Value.str (st [61,68,67]) 1172),(Value.str (st [61,68,68]) 1176),(Value.str (st [61,68,69]) 1180),(Value.str (st [61,68,70]) 1184),(Value.str (st [61,69,48]) 1188),(Value.str (st [61,69,49]) 1192),(Value.str (st [61,69,50]) 1196),(Value.str (st [61,69,51]) 1200),(Value.str (st [61,69,52]) 1204),(Value.str (st [61,69,53]) 1208),(Value.str (st [61,69,54]) 1212),(Value.str (st [61,69,55]) 1216),(Value.str (st [61,69,56]) 1220),(Value.str (st [61,69,57]) 1224),(Value.str (st [61,69,65]) 1228),(Value.str (st [61,69,66]) 1232),(Value.str (st [61,69,67]) 1236),(Value.str (st [61,69,68]) 1240),(Value.str (st [61,69,69]) 1244),(Value.str (st [61,69,70]) 1248),(Value.str (st [61,70,48]) 1252),(Value.str (st [61,70,49]) 1256),(Value.str (st [61,70,50]) 1260),(Value.str (st [61,70,51]) 1264),(Value.str (st [61,70,52]) 1268),(Value.str (st [61,70,53]) 1272),(Value.str (st [61,70,54]) 1276),(Value.str (st [61,70,55]) 1280),(Value.str (st [61,70,56]) 1284),(Value.str (st [61,70,57]) 1288),(Value.str (st [61,70,65]) 1292),(Value.str (st [61,70,66]) 1296),(Value.str (st [61,70,67]) 1300),(Value.str (st [61,70,68]) 1304),(Value.str (st [61,70,69]) 1308),(Value.str (st [61,70,70]) 1312)]⟩ 0),⟨[]⟩⟩
noncomputable def tr13 (P : Params) : BT := (.node (o0 P) (.node (o1 P) (.node (o39 P) (.node (o7 P) (.node (o7 P) (.node (o28 P) .nil .nil) .nil) (.node (o22 P) (.node (o43 P) .nil .nil) .nil)) (.node (o11 P) (.node (o18 P) (.node (o34 P) .nil .nil) .nil) (.node (o26 P) (.node (o7 P) .nil .nil) .nil))) (.node (o5 P) (.node (o9 P) (.node (o16 P) (.node (o32 P) .nil .nil) .nil) (.node (o24 P) (.node (o38 P) .nil .nil) .nil)) (.node (o13 P) (.node (o20 P) (.node (o35 P) .nil .nil) .nil) (.node (o8 P) .nil .nil)))) (.node (o2 P) (.node (o4 P) (.node (o8 P) (.node (o15 P) (.node (o31 P) .nil .nil) .nil) (.node (o23 P) (.node (o37 P) .nil .nil) .nil)) (.node (o12 P) (.node (o19 P) (.node (o7 P) .nil .nil) .nil) (.node (o7 P) (.node (o42 P) .nil .nil) .nil))) (.node (o6 P) (.node (o10 P) (.node (o17 P) (.node (o33 P) .nil .nil) .nil) (.node (o25 P) (.node (o41 P) .nil .nil) .nil)) (.node (o14 P) (.node (o21 P) (.node (o37 P) .nil .nil) .nil) (.node (o27 P) .nil .nil)))))
noncomputable def S13 (w : World) (os : OsState) : SharedT := ⟨tr13 w.params, 45, lf, ⟨[]⟩, dr, 1542, os⟩
noncomputable def pos13 : Pos := ⟨15,0,15,28⟩
noncomputable def o44 (P : Params) : Obj := ⟨(Value.type "dict"),Option.none,(Data.dict ⟨[⟨(PyData.keyHash P (st [95,95,110,97,109,101,95,95])),(Value.str (st [95,95,110,97,109,101,95,95]) 165),(Value.str (st [99,112,121,51,49,51,46,101,109,97,105,108,46,113,117,111,112,114,105,109,105,109,101]) 1329)⟩,⟨(PyData.keyHash P (st [95,95,100,111,99,95,95])),(Value.str (st [95,95,100,111,99,95,95]) 166),Value.none⟩,⟨(PyData.keyHash P (st [95,95,112,97,99,107,97,103,101,95,95])),(Value.str (st [95,95,112,97,99,107,97,103,101,95,95]) 167),Value.none⟩,⟨(PyData.keyHash P (st [95,95,108,111,97,100,101,114,95,95])),(Value.str (st [95,95,108,111,97,100,101,114,95,95]) 168),(Value.builtin "__main__.__loader__#opaque")⟩,⟨(PyData.keyHash P (st [95,95,115,112,101,99,95,95])),(Value.str (st [95,95,115,112,101,99,95,95]) 169),Value.none⟩,⟨(PyData.keyHash P (st [95,95,97,110,110,111,116,97,116,105,111,110,115,95,95])),(Value.str (st [95,95,97,110,110,111,116,97,116,105,111,110,115,95,95]) 170),(Value.ref 6)⟩,⟨(PyData.keyHash P (st [95,95,98,117,105,108,116,105,110,115,95,95])),(Value.str (st [95,95,98,117,105,108,116,105,110,115,95,95]) 171),(Value.ref 4)⟩,⟨(PyData.keyHash P (st [95,95,102,105,108,101,95,95])),(Value.str (st [95,95,102,105,108,101,95,95]) 173),(Value.str (st [47,99,108,97,105,109,47,99,117,116,46,112,121]) 172)⟩,⟨(PyData.keyHash P (st [95,95,99,97,99,104,101,100,95,95])),(Value.str (st [95,95,99,97,99,104,101,100,95,95]) 174),Value.none⟩,⟨(PyData.keyHash P (st [95,115,114,101])),(Value.str (st [95,115,114,101]) 275),(Value.ref 12)⟩,⟨(PyData.keyHash P (st [67,82,76,70])),(Value.str (st [67,82,76,70]) 283),(Value.str (st [13,10]) 282)⟩,⟨(PyData.keyHash P (st [78,76])),(Value.str (st [78,76]) 285),(Value.str (st [10]) 284)⟩,⟨(PyData.keyHash P (st [95,81,85,79,80,82,73,95,77,65,80])),(Value.str (st [95,81,85,79,80,82,73,95,77,65,80]) 1313),(Value.ref 34)⟩,⟨(PyData.keyHash P (st [95,81,85,79,80,82,73,95,72,69,65,68,69,82,95,77,65,80])),(Value.str (st [95,81,85,79,80,82,73,95,72,69,65,68,69,82,95,77,65,80]) 1314),(Value.ref 39)⟩,⟨(PyData.keyHash P (st [95,81,85,79,80,82,73,95,66,79,68,89,95,77,65,80])),(Value.str (st [95,81,85,79,80,82,73,95,66,79,68,89,95,77,65,80]) 1315),(Value.ref 41)⟩,⟨(PyData.keyHash P (st [97,115,99,105,105,95,108,111,119,101,114,99,97,115,101])),(Value.str (st [97,115,99,105,105,95,108,111,119,101,114,99,97,115,101]) 1317),(Value.str (st [97,98,99,100,101,102,103,104,105,106,107,108,109,110,111,112,113,114,115,116,117,118,119,120,121,122]) 1316)⟩,⟨(PyData.keyHash P (st [97,115,99,105,105,95,117,112,112,101,114,99,97,115,101])),(Value.str (st [97,115,99,105,105,95,117,112,112,101,114,99,97,115,101]) 1319),(Value.str (st [65,66,67,68,69,70,71,72,73,74,75,76,77,78,79,80,81,82,83,84,85,86,87,88,89,90]) 1318)⟩,⟨(PyData.keyHash P (st [97,115,99,105,105,95,108,101,116,116,101,114,115])),(Value.str (st [97,115,99,105,105,95,108,101,116,116,101,114,115]) 1321),(Value.str (st [97,98,99,100,101,102,103,104,105,106,107,108,109,110,111,112,113,114,115,116,117,118,119,120,121,122,65,66,67,68,69,70,71,72,73,74,75,76,77,78,79,80,81,82,83,84,85,86,87,88,89,90]) 1320)⟩,⟨(PyData.keyHash P (st [100,105,103,105,116,115])),(Value.str (st [100,105,103,105,116,115]) 1323),(Value.str (st [48,49,50,51,52,53,54,55,56,57]) 1322)⟩,⟨(PyData.keyHash P (st [104,101,120,100,105,103,105,116,115])),(Value.str (st [104,101,120,100,105,103,105,116,115]) 1328),(Value.str (st [48,49,50,51,52,53,54,55,56,57,97,98,99,100,101,102,65,66,67,68,69,70]) 1327)⟩,⟨(PyData.keyHash P (st [99])),(Value.str (st [99]) 1339),(Value.int 9 1825)⟩]⟩ 21),⟨[]⟩⟩
noncomputable def o45 (P : Params) : Obj := ⟨(Value.type "list"),Option.none,(Data.seq ⟨[(Value.str (st [61,48,48]) 292),(Value.str (st [61,48,49]) 296),(Value.str (st [61,48,50]) 300),(Value.str (st [61,48,51]) 304),(Value.str (st [61,48,52]) 308),(Value.str (st [61,48,53]) 312),(Value.str (st [61,48,54]) 316),(Value.str (st [61,48,55]) 320),(Value.str (st [61,48,56]) 324),(Value.str (st [9]) 1827),(Value.str (st [61,48,65]) 332),(Value.str (st [61,48,66]) 336),(Value.str (st [61,48,67]) 340),(Value.str (st [61,48,68]) 344),(Value.str (st [61,48,69]) 348),(Value.str (st [61,48,70]) 352),(Value.str (st [61,49,48]) 356),(Value.str (st [61,49,49]) 360),(Value.str (st [61,49,50]) 364),(Value.str (st [61,49,51]) 368),(Value.str (st [61,49,52]) 372),(Value.str (st [61,49,53]) 376),(Value.str (st [61,49,54]) 380),(Value.str (st [61,49,55]) 384),(Value.str (st [61,49,56]) 388),(Value.str (st [61,49,57]) 392),(Value.str (st [61,49,65]) 396),(Value.str (st [61,49,66]) 400),(Value.str (st [61,49,67]) 404),(Value.str (st [61,49,68]) 408),(Value.str (st [61,49,69]) 412),(Value.str (st [61,49,70]) 416),(Value.str (st [32]) 1545),(Value.str (st [33]) 1548),(Value.str (st [34]) 1551),(Value.str (st [35]) 1554),(Value.str (st [36]) 1557),(Value.str (st [37]) 1560),(Value.str (st [38]) 1563),(Value.str (st [39]) 1566),(Value.str (st [40]) 1569),(Value.str (st [41]) 1572),(Value.str (st [42]) 1575),(Value.str (st [43]) 1578),(Value.str (st [44]) 1581),(Value.str (st [45]) 1584),(Value.str (st [46]) 1587),(Value.str (st [47]) 1590),(Value.str (st [48]) 1593),(Value.str (st [49]) 1596),(Value.str (st [50]) 1599),(Value.str (st [51]) 1602),(Value.str (st [52]) 1605),(Value.str (st [53]) 1608),(Value.str (st [54]) 1611),(Value.str (st [55]) 1614),(Value.str (st [56]) 1617),(Value.str (st [57]) 1620),(Value.str (st [58]) 1623),(Value.str (st [59]) 1626),(Value.str (st [60]) 1629),(Value.str (st [61,51,68]) 536),(Value.str (st [62]) 1632),(Value.str (st [63]) 1635),(Value.str (st [64]) 1638),(Value.str (st [65]) 1641),(Value.str (st [66]) 1644),(Value.str (st [67]) 1647),(Value.str (st [68]) 1650),(Value.str (st [69]) 1653),(Value.str (st [70]) 1656),(Value.str (st [71]) 1659),(Value.str (st [72]) 1662),(Value.str (st [73]) 1665),(Value.str (st [74]) 1668),(Value.str (st [75]) 1671),(Value.str (st [76]) 1674),(Value.str (st [77]) 1677),(Value.str (st [78]) 1680),(Value.str (st [79]) 1683),(Value.str (st [80]) 1686),(Value.str (st [81]) 1689),(Value.str (st [82]) 1692),(Value.str (st [83]) 1695),(Value.str (st [84]) 1698),(Value.str (st [85]) 1701),(Value.str (st [86]) 1704),(Value.str (st [87]) 1707),(Value.str (st [88]) 1710),(Value.str (st [89]) 1713),(Value.str (st [90]) 1716),(Value.str (st [91]) 1719),(Value.str (st [92]) 1722),(Value.str (st [93]) 1725),(Value.str (st [94]) 1728),(Value.str (st [95]) 1731),(Value.str (st [96]) 1734),(Value.str (st [97]) 1737),(Value.str (st [98]) 1740),(Value.str (st [99]) 1743),(Value.str (st [100]) 1746),(Value.str (st [101]) 1749),(Value.str (st [102]) 1752),(Value.str (st [103]) 1755),(Value.str (st [104]) 1758),(Value.str (st [105]) 1761),(Value.str (st [106]) 1764),(Value.str (st [107]) 1767),(Value.str (st [108]) 1770),(Value.str (st [109]) 1773),(Value.str (st [110]) 1776),(Value.str (st [111]) 1779),(Value.str (st [112]) 1782),(Value.str (st [113]) 1785),(Value.str (st [114]) 1788),(Value.str (st [115]) 1791),(Value.str (st [116]) 1794),(Value.str (st [117]) 1797),(Value.str (st [118]) 1800),(Value.str (st [119]) 1803),(Value.str (st [120]) 1806),(Value.str (st [121]) 1809),(Value.str (st [122]) 1812),(Value.str (st [123]) 1815),(Value.str (st [124]) 1818),(Value.str (st [125]) 1821),(Value.str (st [126]) 1824),(Value.str (st [61,55,70]) 800),(Value.str (st [61,56,48]) 804),(Value.str (st [61,56,49]) 808),(Value.str (st [61,56,50]) 812),(Value.str (st [61,56,51]) 816),(Value.str (st [61,56,52]) 820),(Value.str (st [61,56,53]) 824),(Value.str (st [61,56,54]) 828),(Value.str (st [61,56,55]) 832),(Value.str (st [61,56,56]) 836),(Value.str (st [61,56,57]) 840),(Value.str (st [61,56,65]) 844),(Value.str (st [61,56,66]) 848),(Value.str (st [61,56,67]) 852),(Value.str (st [61,56,68]) 856),(Value.str (st [61,56,69]) 860),(Value.str (st [61,56,70]) 864),(Value.str (st [61,57,48]) 868),(Value.str (st [61,57,49]) 872),(Value.str (st [61,57,50]) 876),(Value.str (st [61,57,51]) 880),(Value.str (st [61,57,52]) 884),(Value.str (st [61,57,53]) 888),(Value.str (st [61,57,54]) 892),(Value.str (st [61,57,55]) 896),(Value.str (st [61,57,56]) 900),(Value.str (st [61,57,57]) 904),(Value.str (st [61,57,65]) 908),(Value.str (st [61,57,66]) 912),(Value.str (st [61,57,67]) 916),(Value.str (st [61,57,68]) 920),(Value.str (st [61,57,69]) 924),(Value.str (st [61,57,70]) 928),(Value.str (st [61,65,48]) 932),(Value.str (st [61,65,49]) 936),(Value.str (st [61,65,50]) 940),(Value.str (st [61,65,51]) 944),(Value.str (st [61,65,52]) 948),(Value.str (st [61,65,53]) 952),(Value.str (st [61,65,54]) 956),(Value.str (st [61,65,55]) 960),(Value.str (st [61,65,56]) 964),(Value.str (st [61,65,57]) 968),(Value.str (st [61,65,65]) 972),(Value.str (st [61,65,66]) 976),(Value.str (st [61,65,67]) 980),(Value.str (st [61,65,68]) 984),(Value.str (st [61,65,69]) 988),(Value.str (st [61,65,70]) 992),(Value.str (st [61,66,48]) 996),(Value.str (st [61,66,49]) 1000),(Value.str (st [61,66,50]) 1004),(Value.str (st [61,66,51]) 1008),(Value.str (st [61,66,52]) 1012),(Value.str (st [61,66,53]) 1016),(Value.str (st [61,66,54]) 1020),(Value.str (st [61,66,55]) 1024),(Value.str (st [61,66,56]) 1028),(Value.str (st [61,66,57]) 1032),(Value.str (st [61,66,65]) 1036),(Value.str (st [61,66,66]) 1040),(Value.str (st [61,66,67]) 1044),(Value.str (st [61,66,68]) 1048),(Value.str (st [61,66,69]) 1052),(Value.str (st [61,66,70]) 1056),(Value.str (st [61,67,48]) 1060),(Value.str (st [61,67,49]) 1064),(Value.str (st [61,67,50]) 1068),(Value.str (st [61,67,51]) 1072),(Value.str (st [61,67,52]) 1076),(Value.str (st [61,67,53]) 1080),(Value.str (st [61,67,54]) 1084),(Value.str (st [61,67,55]) 1088),(Value.str (st [61,67,56]) 1092),(Value.str (st [61,67,57]) 1096),(Value.str (st [61,67,65]) 1100),(Value.str (st [61,67,66]) 1104),(Value.str (st [61,67,67]) 1108),(Value.str (st [61,67,68]) 1112),(Value.str (st [61,67,69]) 1116),(Value.str (st [61,67,70]) 1120),(Value.str (st [61,68,48]) 1124),(Value.str (st [61,68,49]) 1128),(Value.str (st [61,68,50]) 1132),(Value.str (st [61,68,51]) 1136),(Value.str (st [61,68,52]) 1140),(Value.str (st [61,68,53]) 1144),(Value.str (st [61,68,54]) 1148),(Value.str (st [61,68,55]) 1152),(Value.str (st [61,68,56]) 1156),(Value.str (st [61,68,57]) 1160),(Value.str (st [61,68,65]) 1164),(Value.str (st [61,68,66]) 1168),(Value.str (st [61,68,67]) 1172),(Value.str (st [61,68,68]) 1176),(Value.str (st [61,68,69]) 1180),(Value.str (st [61,68,70]) 1184),(Value.str (st [61,69,48]) 1188),(Value.str (st [61,69,49]) 1192),(Value.str (st [61,69,50]) 1196),(Value.str (st [61,69,51]) 1200),(Value.str (st [61,69,52]) 1204),(Value.str (st [61,69,53]) 1208),(Value.str (st [61,69,54]) 1212),(Value.str (st [61,69,55]) 1216),(Value.str (st [61,69,56]) 1220),(Value.str (st [61,69,57]) 1224),(Value.str (st [61,69,65]) 1228),(Value.str (st [61,69,66]) 1232),(Value.str (st [61,69,67]) 1236),(Value.str (st [61,69,68]) 1240),(Value.str (st [61,69,69]) 1244),(Value.str (st [61,69,70]) 1248),(Value.str (st [61,70,48]) 1252),(Value.str (st [61,70,49]) 1256),(Value.str (st [61,70,50]) 1260),(Value.str (st [61,70,51]) 1264),(Value.str (st [61,70,52]) 1268),(Value.str (st [61,70,53]) 1272),(Value.str (st [61,70,54]) 1276),(Value.str (st [61,70,55]) 1280),(Value.str (st [61,70,56]) 1284),(Value.str (st [61,70,57]) 1288),(Value.str (st [61,70,65]) 1292),(Value.str (st [61,70,66]) 1296),(Value.str (st [61,70,67]) 1300),(Value.str (st [61,70,68]) 1304),(Value.str (st [61,70,69]) 1308),(Value.str (st [61,70,70]) 1312)]⟩ 0),⟨[]⟩⟩
noncomputable def o46 (P : Params) : Obj := ⟨(Value.type "bytes_iterator"),Option.none,(Data.fields ⟨[Value.none,(Value.int 95 0)]⟩),⟨[]⟩⟩
noncomputable def o47 (P : Params) : Obj := ⟨(Value.type "StopIteration"),Option.none,(Data.fields ⟨[(Value.ref 46),Value.none,Value.none,Value.none,(Value.bool Bool.false),Value.none]⟩),⟨[]⟩⟩
noncomputable def tr14 (P : Params) : BT := (.node (o0 P) (.node (o1 P) (.node (o44 P) (.node (o7 P) (.node (o7 P) (.node (o28 P) .nil .nil) (.node (o47 P) .nil .nil)) (.node (o22 P) (.node (o43 P) .nil .nil) .nil)) (.node (o11 P) (.node (o18 P) (.node (o34 P) .nil .nil) .nil) (.node (o26 P) (.node (o7 P) .nil .nil) .nil))) (.node (o5 P) (.node (o9 P) (.node (o16 P) (.node (o32 P) .nil .nil) .nil) (.node (o24 P) (.node (o45 P) .nil .nil) .nil)) (.node (o13 P) (.node (o20 P) (.node (o35 P) .nil .nil) .nil) (.node (o8 P) (.node (o46 P) .nil .nil) .nil)))) (.node (o2 P) (.node (o4 P) (.node (o8 P) (.node (o15 P) (.node (o31 P) .nil .nil) .nil) (.node (o23 P) (.node (o37 P) .nil .nil) .nil)) (.node (o12 P) (.node (o19 P) (.node (o7 P) .nil .nil) .nil) (.node (o7 P) (.node (o42 P) .nil .nil) .nil))) (.node (o6 P) (.node (o10 P) (.node (o17 P) (.node (o33 P) .nil .nil) .nil) (.node (o25 P) (.node (o41 P) .nil .nil) .nil)) (.node (o14 P) (.node (o21 P) (.node (o37 P) .nil .nil) .nil) (.node (o27 P) (.node (o7 P) .nil .nil) .nil)))))
noncomputable def S14 (w : World) (os : OsState) : SharedT := ⟨tr14 w.params, 48, lf, ⟨[]⟩, dr, 1828, os⟩
noncomputable def pos14 : Pos := ⟨16,9,16,110⟩
noncomputable def o48 (P : Params) : Obj := ⟨(Value.type "dict"),Option.none,(Data.dict ⟨[⟨(PyData.keyHash P (st [95,95,110,97,109,101,95,95])),(Value.str (st [95,95,110,97,109,101,95,95]) 165),(Value.str (st [99,112,121,51,49,51,46,101,109,97,105,108,46,113,117,111,112,114,105,109,105,109,101]) 1329)⟩,⟨(PyData.keyHash P (st [95,95,100,111,99,95,95])),(Value.str (st [95,95,100,111,99,95,95]) 166),Value.none⟩,⟨(PyData.keyHash P (st [95,95,112,97,99,107,97,103,101,95,95])),(Value.str (st [95,95,112,97,99,107,97,103,101,95,95]) 167),Value.none⟩,⟨(PyData.keyHash P (st [95,95,108,111,97,100,101,114,95,95])),(Value.str (st [95,95,108,111,97,100,101,114,95,95]) 168),(Value.builtin "__main__.__loader__#opaque")⟩,⟨(PyData.keyHash P (st [95,95,115,112,101,99,95,95])),(Value.str (st [95,95,115,112,101,99,95,95]) 169),Value.none⟩,⟨(PyData.keyHash P (st [95,95,97,110,110,111,116,97,116,105,111,110,115,95,95])),(Value.str (st [95,95,97,110,110,111,116,97,116,105,111,110,115,95,95]) 170),(Value.ref 6)⟩,⟨(PyData.keyHash P (st [95,95,98,117,105,108,116,105,110,115,95,95])),(Value.str (st [95,95,98,117,105,108,116,105,110,115,95,95]) 171),(Value.ref 4)⟩,⟨(PyData.keyHash P (st [95,95,102,105,108,101,95,95])),(Value.str (st [95,95,102,105,108,101,95,95]) 173),(Value.str (st [47,99,108,97,105,109,47,99,117,116,46,112,121]) 172)⟩,⟨(PyData.keyHash P (st [95,95,99,97,99,104,101,100,95,95])),(Value.str (st [95,95,99,97,99,104,101,100,95,95]) 174),Value.none⟩,⟨(PyData.keyHash P (st [95,115,114,101])),(Value.str (st [95,115,114,101]) 275),(Value.ref 12)⟩,⟨(PyData.keyHash P (st [67,82,76,70])),(Value.str (st [67,82,76,70]) 283),(Value.str (st [13,10]) 282)⟩,⟨(PyData.keyHash P (st [78,76])),(Value.str (st [78,76]) 285),(Value.str (st [10]) 284)⟩,⟨(PyData.keyHash P (st [95,81,85,79,80,82,73,95,77,65,80])),(Value.str (st [95,81,85,79,80,82,73,95,77,65,80]) 1313),(Value.ref 34)⟩,⟨(PyData.keyHash P (st [95,81,85,79,80,82,73,95,72,69,65,68,69,82,95,77,65,80])),(Value.str (st [95,81,85,79,80,82,73,95,72,69,65,68,69,82,95,77,65,80]) 1314),(Value.ref 39)⟩,⟨(PyData.keyHash P (st [95,81,85,79,80,82,73,95,66,79,68,89,95,77,65,80])),(Value.str (st [95,81,85,79,80,82,73,95,66,79,68,89,95,77,65,80]) 1315),(Value.ref 41)⟩,⟨(PyData.keyHash P (st [97,115,99,105,105,95,108,111,119,101,114,99,97,115,101])),(Value.str (st [97,115,99,105,105,95,108,111,119,101,114,99,97,115,101]) 1317),(Value.str (st [97,98,99,100,101,102,103,104,105,106,107,108,109,110,111,112,113,114,115,116,117,118,119,120,121,122]) 1316)⟩,⟨(PyData.keyHash P (st [97,115,99,105,105,95,117,112,112,101,114,99,97,115,101])),(Value.str (st [97,115,99,105,105,95,117,112,112,101,114,99,97,115,101]) 1319),(Value.str (st [65,66,67,68,69,70,71,72,73,74,75,76,77,78,79,80,81,82,83,84,85,86,87,88,89,90]) 1318)⟩,⟨(PyData.keyHash P (st [97,115,99,105,105,95,108,101,116,116,101,114,115])),(Value.str (st [97,115,99,105,105,95,108,101,116,116,101,114,115]) 1321),(Value.str (st [97,98,99,100,101,102,103,104,105,106,107,108,109,110,111,112,113,114,115,116,117,118,119,120,121,122,65,66,67,68,69,70,71,72,73,74,75,76,77,78,79,80,81,82,83,84,85,86,87,88,89,90]) 1320)⟩,⟨(PyData.keyHash P (st [100,105,103,105,116,115])),(Value.str (st [100,105,103,105,116,115]) 1323),(Value.str (st [48,49,50,51,52,53,54,55,56,57]) 1322)⟩,⟨(PyData.keyHash P (st [104,101,120,100,105,103,105,116,115])),(Value.str (st [104,101,120,100,105,103,105,116,115]) 1328),(Value.str (st [48,49,50,51,52,53,54,55,56,57,97,98,99,100,101,102,65,66,67,68,69,70]) 1327)⟩,⟨(PyData.keyHash P (st [117,110,113,117,111,116,101])),(Value.str (st [117,110,113,117,111,116,101]) 1834),(Value.ref 54)⟩,⟨(PyData.keyHash P (st [113,117,111,116,101])),(Value.str (st [113,117,111,116,101]) 1841),(Value.ref 61)⟩,⟨(PyData.keyHash P (st [95,81,85,79,80,82,73,95,66,79,68,89,95,69,78,67,79,68,69,95,77,65,80])),(Value.str (st [95,81,85,79,80,82,73,95,66,79,68,89,95,69,78,67,79,68,69,95,77,65,80]) 1842),(Value.ref 63)⟩,⟨(PyData.keyHash P (st [98,111,100,121,95,101,110,99,111,100,101])),(Value.str (st [98,111,100,121,95,101,110,99,111,100,101]) 1869),(Value.ref 74)⟩,⟨(PyData.keyHash P (st [100,101,99,111,100,101])),(Value.str (st [100,101,99,111,100,101]) 1882),(Value.ref 82)⟩]⟩ 27),⟨[]⟩⟩
noncomputable def o49 (P : Params) : Obj := ⟨Value.none,Option.none,(Data.fields ⟨[(Value.int 18 0),(Value.int 0 0),(Value.ref 53),(Value.int 20 0),(Value.int 0 0),(Value.ref 60),(Value.int 26 0),(Value.int 0 0),(Value.ref 73),(Value.int 64 0),(Value.int 0 0),(Value.ref 81)]⟩),⟨[]⟩⟩
noncomputable def o50 (P : Params) : Obj := ⟨(Value.type "tuple"),Option.none,(Data.seq ⟨[(Value.str (st [115]) 1831)]⟩ 0),⟨[]⟩⟩
noncomputable def o51 (P : Params) : Obj := ⟨Value.none,Option.none,(Data.func ⟨(st [117,110,113,117,111,116,101]),(st [117,110,113,117,111,116,101]),(fP 14),(FuncBody.stmts (fB 14)),(fS 14),0,[],Value.none,Value.none,Value.none,Value.none,Option.none,Value.none,Value.none,0⟩),⟨[]⟩⟩
noncomputable def o52 (P : Params) : Obj := ⟨(Value.type "code"),Option.none,(Data.fields ⟨[(Value.str (st [117,110,113,117,111,116,101]) 1828),(Value.str (st [117,110,113,117,111,116,101]) 1829),(Value.str (st [47,99,108,97,105,109,47,99,117,116,46,112,121]) 1830),(Value.int 18 0),(Value.int 1 0),(Value.int 0 0),(Value.int 0 0),(Value.int 3 0),(Value.ref 48),(Value.bool Bool.true),(Value.int 276 0),(Value.ref 49),Value.none,(Value.ref 50),(Value.ref 51),(Value.ref 52),(Value.int 1832 0),(Value.int 18 0),(Value.str (st [47,99,108,97,105,109,47,99,117,116,46,112,121]) 1833)]⟩),⟨[]⟩⟩
noncomputable def o53 (P : Params) : Obj := ⟨(Value.type "function"),Option.none,(Data.func ⟨(st [117,110,113,117,111,116,101]),(st [117,110,113,117,111,116,101]),(fP 14),(FuncBody.stmts (fB 14)),(fS 14),3,[],Value.none,Value.none,Value.none,(Value.str (st [99,112,121,51,49,51,46,101,109,97,105,108,46,113,117,111,112,114,105,109,105,109,101]) 1329),Option.none,(Value.ref 53),Value.none,0⟩),⟨[]⟩⟩
noncomputable def o54 (P : Params) : Obj := ⟨(Value.type "tuple"),Option.none,(Data.seq ⟨[(Value.str (st [99]) 1838)]⟩ 0),⟨[]⟩⟩
noncomputable def o55 (P : Params) : Obj := ⟨Value.none,Option.none,(Data.func ⟨(st [113,117,111,116,101]),(st [113,117,111,116,101]),(fP 15),(FuncBody.stmts (fB 15)),(fS 15),0,[],Value.none,Value.none,Value.none,Value.none,Option.none,Value.none,Value.none,0⟩),⟨[]⟩⟩
noncomputable def o56 (P : Params) : Obj := ⟨(Value.type "code"),Option.none,(Data.fields ⟨[(Value.str (st [113,117,111,116,101]) 1835),(Value.str (st [113,117,111,116,101]) 1836),(Value.str (st [47,99,108,97,105,109,47,99,117,116,46,112,121]) 1837),(Value.int 20 0),(Value.int 1 0),(Value.int 0 0),(Value.int 0 0),(Value.int 3 0),(Value.ref 55),(Value.bool Bool.true),(Value.int 276 0),(Value.ref 56),Value.none,(Value.ref 57),(Value.ref 58),(Value.ref 59),(Value.int 1839 0),(Value.int 20 0),(Value.str (st [47,99,108,97,105,109,47,99,117,116,46,112,121]) 1840)]⟩),⟨[]⟩⟩
noncomputable def o57 (P : Params) : Obj := ⟨(Value.type "function"),Option.none,(Data.func ⟨(st [113,117,111,116,101]),(st [113,117,111,116,101]),(fP 15),(FuncBody.stmts (fB 15)),(fS 15),3,[],Value.none,Value.none,Value.none,(Value.str (st [99,112,121,51,49,51,46,101,109,97,105,108,46,113,117,111,112,114,105,109,105,109,101]) 1329),Option.none,(Value.ref 60),Value.none,0⟩),⟨[]⟩⟩
noncomputable def o58 (P : Params) : Obj := ⟨(Value.type "list"),Option.none,(Data.seq ⟨[(Value.str (st [61,48,48]) 292),(Value.str (st [61,48,49]) 296),(Value.str (st [61,48,50]) 300),(Value.str (st [61,48,51]) 304),(Value.str (st [61,48,52]) 308),(Value.str (st [61,48,53]) 312),(Value.str (st [61,48,54]) 316),(Value.str (st [61,48,55]) 320),(Value.str (st [61,48,56]) 324),(Value.str (st [9]) 1827),(Value.str (st [10]) 1849),(Value.str (st [61,48,66]) 336),(Value.str (st [61,48,67]) 340),(Value.str (st [13]) 1846),(Value.str (st [61,48,69]) 348),(Value.str (st [61,48,70]) 352),(Value.str (st [61,49,48]) 356),(Value.str (st [61,49,49]) 360),(Value.str (st [61,49,50]) 364),(Value.str (st [61,49,51]) 368),(Value.str (st [61,49,52]) 372),(Value.str (st [61,49,53]) 376),(Value.str (st [61,49,54]) 380),(Value.str (st [61,49,55]) 384),(Value.str (st [61,49,56]) 388),(Value.str (st [61,49,57]) 392),(Value.str (st [61,49,65]) 396),(Value.str (st [61,49,66]) 400),(Value.str (st [61,49,67]) 404),(Value.str (st [61,49,68]) 408),(Value.str (st [61,49,69]) 412),(Value.str (st [61,49,70]) 416),(Value.str (st [32]) 1545),(Value.str (st [33]) 1548),(Value.str (st [34]) 1551),(Value.str (st [35]) 1554),(Value.str (st [36]) 1557),(Value.str (st [37]) 1560),(Value.str (st [38]) 1563),(Value.str (st [39]) 1566),(Value.str (st [40]) 1569),(Value.str (st [41]) 1572),(Value.str (st [42]) 1575),(Value.str (st [43]) 1578),(Value.str (st [44]) 1581),(Value.str (st [45]) 1584),(Value.str (st [46]) 1587),(Value.str (st [47]) 1590),(Value.str (st [48]) 1593),(Value.str (st [49]) 1596),(Value.str (st [50]) 1599),(Value.str (st [51]) 1602),(Value.str (st [52]) 1605),(Value.str (st [53]) 1608),(Value.str (st [54]) 1611),(Value.str (st [55]) 1614),(Value.str (st [56]) 1617),(Value.str (st [57]) 1620),(Value.str (st [58]) 1623),(Value.str (st [59]) 1626),(Value.str (st [60]) 1629),(Value.str (st [61,51,68]) 536),(Value.str (st [62]) 1632),(Value.str (st [63]) 1635),(Value.str (st [64]) 1638),(Value.str (st [65]) 1641),(Value.str (st [66]) 1644),(Value.str (st [67]) 1647),(Value.str (st [68]) 1650),(Value.str (st [69]) 1653),(Value.str (st [70]) 1656),(Value.str (st [71]) 1659),(Value.str (st [72]) 1662),(Value.str (st [73]) 1665),(Value.str (st [74]) 1668),(Value.str (st [75]) 1671),(Value.str (st [76]) 1674),(Value.str (st [77]) 1677),(Value.str (st [78]) 1680),(Value.str (st [79]) 1683),(Value.str (st [80]) 1686),(Value.str (st [81]) 1689),(Value.str (st [82]) 1692),(Value.str (st [83]) 1695),(Value.str (st [84]) 1698),(Value.str (st [85]) 1701),(Value.str (st [86]) 1704),(Value.str (st [87]) 1707),(Value.str (st [88]) 1710),(Value.str (st [89]) 1713),(Value.str (st [90]) 1716),(Value.str (st [91]) 1719),(Value.str (st [92]) 1722),(Value.str (st [93]) 1725),(Value.str (st [94]) 1728),(Value.str (st [95]) 1731),(Value.str (st [96]) 1734),(Value.str (st [97]) 1737),(Value.str (st [98]) 1740),(Value.str (st [99]) 1743),(Value.str (st [100]) 1746),(Value.str (st [101]) 1749),(Value.str (st [102]) 1752),(Value.str (st [103]) 1755),(Value.str (st [104]) 1758),(Value.str (st [105]) 1761),(Value.str (st [106]) 1764),(Value.str (st [107]) 1767),(Value.str (st [108]) 1770),(Value.str (st [109]) 1773),(Value.str (st [110]) 1776),(Value.str (st [111]) 1779),(Value.str (st [112]) 1782),(Value.str (st [113]) 1785),(Value.str (st [114]) 1788),(Value.str (st [115]) 1791),(Value.str (st [116]) 1794),(Value.str (st [117]) 1797),(Value.str (st [118]) 1800),(Value.str (st [119]) 1803),(Value.str (st [120]) 1806),(Value.str (st [121]) 1809),(Value.str (st [122]) 1812),(Value.str (st [123]) 1815),(Value.str (st [124]) 1818),(Value.str (st [125]) 1821),(Value.str (st [126]) 1824),(Value.str (st [61,55,70]) 800),(Value.str (st [61,56,48]) 804),(Value.str (st [61,56,49]) 808),(Value.str (st [61,56,50]) 812),(Value.str (st [61,56,51]) 816),(Value.str (st [61,56,52]) 820),(Value.str (st [61,56,53]) 824),(Value.str (st [61,56,54]) 828),(Value.str (st [61,56,55]) 832),(Value.str (st [61,56,56]) 836),(Value.str (st [61,56,57]) 840),(Value.str (st [61,56,65]) 844),(Value.str (st [61,56,66]) 848),(Value.str (st [61,56,67]) 852),(Value.str (st [61,56,68]) 856),(Value.str (st [61,56,69]) 860),(Value.str (st [61,56,70]) 864),(Value.str (st [61,57,48]) 868),(Value.str (st [61,57,49]) 872),(Value.str (st [61,57,50]) 876),(Value.str (st [61,57,51]) 880),(Value.str (st [61,57,52]) 884),(Value.str (st [61,57,53]) 888),(Value.str (st [61,57,54]) 892),(Value.str (st [61,57,55]) 896),(Value.str (st [61,57,56]) 900),(Value.str (st [61,57,57]) 904),(Value.str (st [61,57,65]) 908),(Value.str (st [61,57,66]) 912),(Value.str (st [61,57,67]) 916),(Value.str (st [61,57,68]) 920),(Value.str (st [61,57,69]) 924),(Value.str (st [61,57,70]) 928),(Value.str (st [61,65,48]) 932),(Value.str (st [61,65,49]) 936),(Value.str (st [61,65,50]) 940),(Value.str (st [61,65,51]) 944),(Value.str (st [61,65,52]) 948),(Value.str (st [61,65,53]) 952),(Value.str (st [61,65,54]) 956),(Value.str (st [61,65,55]) 960),(Value.str (st [61,65,56]) 964),(Value.str (st [61,65,57]) 968),(Value.str (st [61,65,65]) 972),(Value.str (st [61,65,66]) 976),(Value.str (st [61,65,67]) 980),(Value.str (st [61,65,68]) 984),(Value.str (st [61,65,69]) 988),(Value.str (st [61,65,70]) 992),(Value.str (st [61,66,48]) 996),(Value.str (st [61,66,49]) 1000),(Value.str (st [61,66,50]) 1004),(Value.str (st [61,66,51]) 1008),(Value.str (st [61,66,52]) 1012),(Value.str (st [61,66,53]) 1016),(Value.str (st [61,66,54]) 1020),(Value.str (st [61,66,55]) 1024),(Value.str (st [61,66,56]) 1028),(Value.str (st [61,66,57]) 1032),(Value.str (st [61,66,65]) 1036),(Value.str (st [61,66,66]) 1040),(Value.str (st [61,66,67]) 1044),(Value.str (st [61,66,68]) 1048),(Value.str (st [61,66,69]) 1052),(Value.str (st [61,66,70]) 1056),(Value.str (st [61,67,48]) 1060),(Value.str (st [61,67,49]) 1064),(Value.str (st [61,67,50]) 1068),(Value.str (st [61,67,51]) 1072),(Value.str (st [61,67,52]) 1076),(Value.str (st [61,67,53]) 1080),(Value.str (st [61,67,54]) 1084),(Value.str (st [61,67,55]) 1088),(Value.str (st [61,67,56]) 1092),(Value.str (st [61,67,57]) 1096),(Value.str (st [61,67,65]) 1100),(Value.str (st [61,67,66]) 1104),(Value.str (st [61,67,67]) 1108),(Value.str (st [61,67,68]) 1112),(Value.str (st [61,67,69]) 1116),(Value.str (st [61,67,70]) 1120),(Value.str (st [61,68,48]) 1124),(Value.str (st [61,68,49]) 1128),(Value.str (st [61,68,50]) 1132),(Value.str (st [61,68,51]) 1136),(Value.str (st [61,68,52]) 1140),(Value.str (st [61,68,53]) 1144),(Value.str (st [61,68,54]) 1148),(Value.str (st [61,68,55]) 1152),(Value.str (st [61,68,56]) 1156),(Value.str (st [61,68,57]) 1160),(Value.str (st [61,68,65]) 1164),(Value.str (st [61,68,66]) 1168),(Value.str (st [61,68,67]) 1172),(Value.str (st [61,68,68]) 1176),(Value.str (st [61,68,69]) 1180),(Value.str (st [61,68,70]) 1184),(Value.str (st [61,69,48]) 1188),(Value.str (st [61,69,49]) 1192),(Value.str (st [61,69,50]) 1196),(Value.str (st [61,69,51]) 1200),(Value.str (st [61,69,52]) 1204),(Value.str (st [61,69,53]) 1208),(Value.str (st [61,69,54]) 1212),(Value.str (st [61,69,55]) 1216),(Value.str (st [61,69,56]) 1220),(Value.str (st [61,69,57]) 1224),(Value.str (st [61,69,65]) 1228),(Value.str (st [61,69,66]) 1232),(Value.str (st [61,69,67]) 1236),(Value.str (st [61,69,68]) 1240),(Value.str (st [61,69,69]) 1244),(Value.str (st [61,69,70]) 1248),(Value.str (st [61,70,48]) 1252),(Value.str (st [61,70,49]) 1256),(Value.str (st [61,70,50]) 1260),(Value.str (st [61,70,51]) 1264),(Value.str (st [61,70,52]) 1268),(Value.str (st [61,70,53]) 1272),(Value.str (st [61,70,54]) 1276),(Value.str (st [61,70,55]) 1280),(Value.str (st [61,70,56]) 1284),(Value.str (st [61,70,57]) 1288),(Value.str (st [61,70,65]) 1292),(Value.str (st [61,70,66]) 1296),(Value.str (st [61,70,67]) 1300),(Value.str (st [61,70,68]) 1304),(Value.str (st [61,70,69]) 1308),(Value.str (st [61,70,70]) 1312)]⟩ 0),⟨[]⟩⟩
noncomputable def o59 (P : Params) : Obj := ⟨(Value.type "bytes_iterator"),Option.none,(Data.fields ⟨[Value.none,(Value.int 2 0)]⟩),⟨[]⟩⟩
noncomputable def o60 (P : Params) : Obj := ⟨(Value.type "StopIteration"),Option.none,(Data.fields ⟨[(Value.ref 65),Value.none,Value.none,Value.none,(Value.bool Bool.false),Value.none]⟩),⟨[]⟩⟩
noncomputable def o61 (P : Params) : Obj := ⟨(Value.type "tuple"),Option.none,(Data.seq ⟨[(Value.int 76 1850),(Value.str (st [10]) 284)]⟩ 0),⟨[]⟩⟩
noncomputable def o62 (P : Params) : Obj := ⟨(Value.type "tuple"),Option.none,(Data.seq ⟨[(Value.str (st [98,111,100,121]) 1854),(Value.str (st [109,97,120,108,105,110,101,108,101,110]) 1855),(Value.str (st [101,111,108]) 1856),(Value.str (st [115,111,102,116,95,98,114,101,97,107]) 1857),(Value.str (st [109,97,120,108,105,110,101,108,101,110,49]) 1858),(Value.str (st [101,110,99,111,100,101,100,95,98,111,100,121]) 1859),(Value.str (st [97,112,112,101,110,100]) 1860),(Value.str (st [108,105,110,101]) 1861),(Value.str (st [115,116,97,114,116]) 1862),(Value.str (st [108,97,115,116,115,116,97,114,116]) 1863),(Value.str (st [115,116,111,112]) 1864),(Value.str (st [114,111,111,109]) 1865),(Value.str (st [113]) 1866)]⟩ 0),⟨[]⟩⟩
noncomputable def o63 (P : Params) : Obj := ⟨Value.none,Option.none,(Data.func ⟨(st [98,111,100,121,95,101,110,99,111,100,101]),(st [98,111,100,121,95,101,110,99,111,100,101]),(fP 19),(FuncBody.stmts (fB 19)),(fS 19),0,[],Value.none,Value.none,Value.none,Value.none,Option.none,Value.none,Value.none,0⟩),⟨[]⟩⟩
noncomputable def o64 (P : Params) : Obj := ⟨(Value.type "code"),Option.none,(Data.fields ⟨[(Value.str (st [98,111,100,121,95,101,110,99,111,100,101]) 1851),(Value.str (st [98,111,100,121,95,101,110,99,111,100,101]) 1852),(Value.str (st [47,99,108,97,105,109,47,99,117,116,46,112,121]) 1853),(Value.int 26 0),(Value.int 3 0),(Value.int 0 0),(Value.int 0 0),(Value.int 3 0),(Value.ref 68),(Value.bool Bool.true),(Value.int 276 0),(Value.ref 69),Value.none,(Value.ref 70),(Value.ref 71),(Value.ref 72),(Value.int 1867 0),(Value.int 26 0),(Value.str (st [47,99,108,97,105,109,47,99,117,116,46,112,121]) 1868)]⟩),⟨[]⟩⟩
noncomputable def o65 (P : Params) : Obj := ⟨(Value.type "function"),Option.none,(Data.func ⟨(st [98,111,100,121,95,101,110,99,111,100,101]),(st [98,111,100,121,95,101,110,99,111,100,101]),(fP 19),(FuncBody.stmts (fB 19)),(fS 19),3,[],(Value.ref 67),Value.none,Value.none,(Value.str (st [99,112,121,51,49,51,46,101,109,97,105,108,46,113,117,111,112,114,105,109,105,109,101]) 1329),Option.none,(Value.ref 73),Value.none,0⟩),⟨[]⟩⟩
noncomputable def o66 (P : Params) : Obj := ⟨(Value.type "tuple"),Option.none,(Data.seq ⟨[(Value.str (st [10]) 284)]⟩ 0),⟨[]⟩⟩
noncomputable def o67 (P : Params) : Obj := ⟨(Value.type "tuple"),Option.none,(Data.seq ⟨[(Value.str (st [101,110,99,111,100,101,100]) 1873),(Value.str (st [101,111,108]) 1874),(Value.str (st [100,101,99,111,100,101,100]) 1875),(Value.str (st [108,105,110,101]) 1876),(Value.str (st [105]) 1877),(Value.str (st [110]) 1878),(Value.str (st [99]) 1879)]⟩ 0),⟨[]⟩⟩
noncomputable def o68 (P : Params) : Obj := ⟨Value.none,Option.none,(Data.func ⟨(st [100,101,99,111,100,101]),(st [100,101,99,111,100,101]),(fP 20),(FuncBody.stmts (fB 20)),(fS 20),0,[],Value.none,Value.none,Value.none,Value.none,Option.none,Value.none,Value.none,0⟩),⟨[]⟩⟩
noncomputable def o69 (P : Params) : Obj := ⟨(Value.type "code"),Option.none,(Data.fields ⟨[(Value.str (st [100,101,99,111,100,101]) 1870),(Value.str (st [100,101,99,111,100,101]) 1871),(Value.str (st [47,99,108,97,105,109,47,99,117,116,46,112,121]) 1872),(Value.int 64 0),(Value.int 2 0),(Value.int 0 0),(Value.int 0 0),(Value.int 3 0),(Value.ref 76),(Value.bool Bool.true),(Value.int 276 0),(Value.ref 77),Value.none,(Value.ref 78),(Value.ref 79),(Value.ref 80),(Value.int 1880 0),(Value.int 64 0),(Value.str (st [47,99,108,97,105,109,47,99,117,116,46,112,121]) 1881)]⟩),⟨[]⟩⟩
noncomputable def o70 (P : Params) : Obj := ⟨(Value.type "function"),Option.none,(Data.func ⟨(st [100,101,99,111,100,101]),(st [100,101,99,111,100,101]),(fP 20),(FuncBody.stmts (fB 20)),(fS 20),3,[],(Value.ref 75),Value.none,Value.none,(Value.str (st [99,112,121,51,49,51,46,101,109,97,105,108,46,113,117,111,112,114,105,109,105,109,101]) 1329),Option.none,(Value.ref 81),Value.none,0⟩),⟨[]⟩⟩
noncomputable def tr21 (P : Params) : BT := (.node (o0 P) (.node (o1 P) (.node (o48 P) (.node (o7 P) (.node (o7 P) (.node (o28 P) (.node (o58 P) .nil .nil) .nil) (.node (o47 P) (.node (o7 P) .nil .nil) .nil)) (.node (o22 P) (.node (o43 P) (.node (o7 P) .nil .nil) .nil) (.node (o7 P) .nil .nil))) (.node (o11 P) (.node (o18 P) (.node (o34 P) (.node (o61 P) .nil .nil) .nil) (.node (o7 P) .nil .nil)) (.node (o26 P) (.node (o7 P) (.node (o66 P) .nil .nil) .nil) (.node (o55 P) .nil .nil)))) (.node (o5 P) (.node (o9 P) (.node (o16 P) (.node (o32 P) (.node (o7 P) .nil .nil) .nil) (.node (o8 P) (.node (o69 P) .nil .nil) .nil)) (.node (o24 P) (.node (o45 P) (.node (o64 P) .nil .nil) .nil) (.node (o54 P) .nil .nil))) (.node (o13 P) (.node (o20 P) (.node (o35 P) (.node (o8 P) .nil .nil) .nil) (.node (o52 P) .nil .nil)) (.node (o49 P) (.node (o46 P) (.node (o8 P) .nil .nil) .nil) (.node (o57 P) .nil .nil))))) (.node (o2 P) (.node (o4 P) (.node (o8 P) (.node (o15 P) (.node (o31 P) (.node (o59 P) .nil .nil) .nil) (.node (o7 P) (.node (o68 P) .nil .nil) .nil)) (.node (o23 P) (.node (o37 P) (.node (o63 P) .nil .nil) .nil) (.node (o8 P) .nil .nil))) (.node (o12 P) (.node (o19 P) (.node (o7 P) (.node (o7 P) .nil .nil) .nil) (.node (o51 P) .nil .nil)) (.node (o7 P) (.node (o42 P) (.node (o7 P) .nil .nil) .nil) (.node (o56 P) .nil .nil)))) (.node (o6 P) (.node (o10 P) (.node (o17 P) (.node (o33 P) (.node (o60 P) .nil .nil) .nil) (.node (o50 P) (.node (o70 P) .nil .nil) .nil)) (.node (o25 P) (.node (o41 P) (.node (o65 P) .nil .nil) .nil) (.node (o7 P) .nil .nil))) (.node (o14 P) (.node (o21 P) (.node (o37 P) (.node (o62 P) .nil .nil) .nil) (.node (o53 P) .nil .nil)) (.node (o27 P) (.node (o7 P) (.node (o67 P) .nil .nil) .nil) (.node (o37 P) .nil .nil))))))
noncomputable def S21 (w : World) (os : OsState) : SharedT := ⟨tr21 w.params, 83, lf, ⟨[]⟩, dr, 1883, os⟩
noncomputable def pos21 : Pos := ⟨64,0,93,18⟩
noncomputable def o71 (P : Params) : Obj := ⟨(Value.type "dict"),Option.none,(Data.dict ⟨[⟨(PyData.keyHash P (st [95,95,110,97,109,101,95,95])),(Value.str (st [95,95,110,97,109,101,95,95]) 165),(Value.str (st [99,112,121,51,49,51,46,104,116,116,112,46,99,111,111,107,105,101,106,97,114]) 1883)⟩,⟨(PyData.keyHash P (st [95,95,100,111,99,95,95])),(Value.str (st [95,95,100,111,99,95,95]) 166),Value.none⟩,⟨(PyData.keyHash P (st [95,95,112,97,99,107,97,103,101,95,95])),(Value.str (st [95,95,112,97,99,107,97,103,101,95,95]) 167),Value.none⟩,⟨(PyData.keyHash P (st [95,95,108,111,97,100,101,114,95,95])),(Value.str (st [95,95,108,111,97,100,101,114,95,95]) 168),(Value.builtin "__main__.__loader__#opaque")⟩,⟨(PyData.keyHash P (st [95,95,115,112,101,99,95,95])),(Value.str (st [95,95,115,112,101,99,95,95]) 169),Value.none⟩,⟨(PyData.keyHash P (st [95,95,97,110,110,111,116,97,116,105,111,110,115,95,95])),(Value.str (st [95,95,97,110,110,111,116,97,116,105,111,110,115,95,95]) 170),(Value.ref 6)⟩,⟨(PyData.keyHash P (st [95,95,98,117,105,108,116,105,110,115,95,95])),(Value.str (st [95,95,98,117,105,108,116,105,110,115,95,95]) 171),(Value.ref 4)⟩,⟨(PyData.keyHash P (st [95,95,102,105,108,101,95,95])),(Value.str (st [95,95,102,105,108,101,95,95]) 173),(Value.str (st [47,99,108,97,105,109,47,99,117,116,46,112,121]) 172)⟩,⟨(PyData.keyHash P (st [95,95,99,97,99,104,101,100,95,95])),(Value.str (st [95,95,99,97,99,104,101,100,95,95]) 174),Value.none⟩,⟨(PyData.keyHash P (st [95,115,114,101])),(Value.str (st [95,115,114,101]) 275),(Value.ref 12)⟩,⟨(PyData.keyHash P (st [67,82,76,70])),(Value.str (st [67,82,76,70]) 283),(Value.str (st [13,10]) 282)⟩,⟨(PyData.keyHash P (st [78,76])),(Value.str (st [78,76]) 285),(Value.str (st [10]) 284)⟩,⟨(PyData.keyHash P (st [95,81,85,79,80,82,73,95,77,65,80])),(Value.str (st [95,81,85,79,80,82,73,95,77,65,80]) 1313),(Value.ref 34)⟩,⟨(PyData.keyHash P (st [95,81,85,79,80,82,73,95,72,69,65,68,69,82,95,77,65,80])),(Value.str (st [95,81,85,79,80,82,73,95,72,69,65,68,69,82,95,77,65,80]) 1314),(Value.ref 39)⟩,⟨(PyData.keyHash P (st [95,81,85,79,80,82,73,95,66,79,68,89,95,77,65,80])),(Value.str (st [95,81,85,79,80,82,73,95,66,79,68,89,95,77,65,80]) 1315),(Value.ref 41)⟩,⟨(PyData.keyHash P (st [97,115,99,105,105,95,108,111,119,101,114,99,97,115,101])),(Value.str (st [97,115,99,105,105,95,108,111,119,101,114,99,97,115,101]) 1317),(Value.str (st [97,98,99,100,101,102,103,104,105,106,107,108,109,110,111,112,113,114,115,116,117,118,119,120,121,122]) 1316)⟩,⟨(PyData.keyHash P (st [97,115,99,105,105,95,117,112,112,101,114,99,97,115,101])),(Value.str (st [97,115,99,105,105,95,117,112,112,101,114,99,97,115,101]) 1319),(Value.str (st [65,66,67,68,69,70,71,72,73,74,75,76,77,78,79,80,81,82,83,84,85,86,87,88,89,90]) 1318)⟩,⟨(PyData.keyHash P (st [97,115,99,105,105,95,108,101,116,116,101,114,115])),(Value.str (st [97,115,99,105,105,95,108,101,116,116,101,114,115]) 1321),(Value.str (st [97,98,99,100,101,102,103,104,105,106,107,108,109,110,111,112,113,114,115,116,117,118,119,120,121,122,65,66,67,68,69,70,71,72,73,74,75,76,77,78,79,80,81,82,83,84,85,86,87,88,89,90]) 1320)⟩,⟨(PyData.keyHash P (st [100,105,103,105,116,115])),(Value.str (st [100,105,103,105,116,115]) 1323),(Value.str (st [48,49,50,51,52,53,54,55,56,57]) 1322)⟩,⟨(PyData.keyHash P (st [104,101,120,100,105,103,105,116,115])),(Value.str (st [104,101,120,100,105,103,105,116,115]) 1328),(Value.str (st [48,49,50,51,52,53,54,55,56,57,97,98,99,100,101,102,65,66,67,68,69,70]) 1327)⟩,⟨(PyData.keyHash P (st [117,110,113,117,111,116,101])),(Value.str (st [117,110,113,117,111,116,101]) 1834),(Value.ref 54)⟩,⟨(PyData.keyHash P (st [113,117,111,116,101])),(Value.str (st [113,117,111,116,101]) 1841),(Value.ref 61)⟩,⟨(PyData.keyHash P (st [95,81,85,79,80,82,73,95,66,79,68,89,95,69,78,67,79,68,69,95,77,65,80])),(Value.str (st [95,81,85,79,80,82,73,95,66,79,68,89,95,69,78,67,79,68,69,95,77,65,80]) 1842),(Value.ref 63)⟩,⟨(PyData.keyHash P (st [98,111,100,121,95,101,110,99,111,100,101])),(Value.str (st [98,111,100,121,95,101,110,99,111,100,101]) 1869),(Value.ref 74)⟩,⟨(PyData.keyHash P (st [100,101,99,111,100,101])),(Value.str (st [100,101,99,111,100,101]) 1882),(Value.ref 82)⟩,⟨(PyData.keyHash P (st [95,116,119,105,110,95,114,101,95,53])),(Value.str (st [95,116,119,105,110,95,114,101,95,53]) 1912),(Value.ref 87)⟩,⟨(PyData.keyHash P (st [117,110,109,97,116,99,104,101,100])),(Value.str (st [117,110,109,97,116,99,104,101,100]) 1921),(Value.ref 94)⟩,⟨(PyData.keyHash P (st [72,69,65,68,69,82,95,84,79,75,69,78,95,82,69])),(Value.str (st [72,69,65,68,69,82,95,84,79,75,69,78,95,82,69]) 1969),(Value.ref 99)⟩,⟨(PyData.keyHash P (st [72,69,65,68,69,82,95,81,85,79,84,69,68,95,86,65,76,85,69,95,82,69])),(Value.str (st [72,69,65,68,69,82,95,81,85,79,84,69,68,95,86,65,76,85,69,95,82,69]) 2047),(Value.ref 104)⟩]⟩ 31),⟨[]⟩⟩
noncomputable def o72 (P : Params) : Obj := ⟨Value.none,Option.none,(Data.fields ⟨[(Value.int 18 0),(Value.int 0 0),(Value.ref 53),(Value.int 20 0),(Value.int 0 0),(Value.ref 60),(Value.int 26 0),(Value.int 0 0),(Value.ref 73),(Value.int 64 0),(Value.int 0 0),(Value.ref 81),(Value.int 96 0),(Value.int 0 0),(Value.ref 93)]⟩),⟨[]⟩⟩
noncomputable def o73 (P : Params) : Obj := ⟨(Value.type "list"),Option.none,(Data.seq ⟨[(Value.int 14 1888),(Value.int 4 1889),(Value.int 0 1890),(Value.int 0 1891),(Value.int 4294967295 1892),(Value.int 6 1893),(Value.int 0 1894),(Value.int 24 1895),(Value.int 13 1896),(Value.int 0 1897),(Value.int 4294967295 1898),(Value.int 13 1899),(Value.int 8 1900),(Value.int 16 1901),(Value.int 61 1902),(Value.int 8 1903),(Value.int 12 1904),(Value.int 16 1905),(Value.int 59 1906),(Value.int 0 1907),(Value.int 1 1908),(Value.int 1 1909)]⟩ 0),⟨[]⟩⟩
noncomputable def o74 (P : Params) : Obj := ⟨(Value.type "tuple"),Option.none,(Data.seq ⟨[Value.none]⟩ 0),⟨[]⟩⟩
noncomputable def o75 (P : Params) : Obj := ⟨(Value.type "tuple"),Option.none,(Data.seq ⟨[(Value.int 14 0),(Value.int 4 0),(Value.int 0 0),(Value.int 0 0),(Value.int 4294967295 0),(Value.int 6 0),(Value.int 0 0),(Value.int 24 0),(Value.int 13 0),(Value.int 0 0),(Value.int 4294967295 0),(Value.int 13 0),(Value.int 8 0),(Value.int 16 0),(Value.int 61 0),(Value.int 8 0),(Value.int 12 0),(Value.int 16 0),(Value.int 59 0),(Value.int 0 0),(Value.int 1 0),(Value.int 1 0)]⟩ 0),⟨[]⟩⟩
noncomputable def o76 (P : Params) : Obj := ⟨(Value.type "re.Pattern"),Option.none,(Data.fields ⟨[(Value.str (st [94,91,61,92,115,59,93,42]) 1886),(Value.int 32 1911),(Value.int 0 0),Value.none,Value.none,(Value.ref 86),(Value.int 0 0)]⟩),⟨[]⟩⟩
noncomputable def o77 (P : Params) : Obj := ⟨(Value.type "tuple"),Option.none,(Data.seq ⟨[(Value.str (st [109,97,116,99,104]) 1916),(Value.str (st [115,116,97,114,116]) 1917),(Value.str (st [101,110,100]) 1918)]⟩ 0),⟨[]⟩⟩
noncomputable def o78 (P : Params) : Obj := ⟨Value.none,Option.none,(Data.func ⟨(st [117,110,109,97,116,99,104,101,100]),(st [117,110,109,97,116,99,104,101,100]),(fP 23),(FuncBody.stmts (fB 23)),(fS 23),0,[],Value.none,Value.none,Value.none,Value.none,Option.none,Value.none,Value.none,0⟩),⟨[]⟩⟩
noncomputable def o79 (P : Params) : Obj := ⟨(Value.type "code"),Option.none,(Data.fields ⟨[(Value.str (st [117,110,109,97,116,99,104,101,100]) 1913),(Value.str (st [117,110,109,97,116,99,104,101,100]) 1914),(Value.str (st [47,99,108,97,105,109,47,99,117,116,46,112,121]) 1915),(Value.int 96 0),(Value.int 1 0),(Value.int 0 0),(Value.int 0 0),(Value.int 3 0),(Value.ref 88),(Value.bool Bool.true),(Value.int 276 0),(Value.ref 89),Value.none,(Value.ref 90),(Value.ref 91),(Value.ref 92),(Value.int 1919 0),(Value.int 96 0),(Value.str (st [47,99,108,97,105,109,47,99,117,116,46,112,121]) 1920)]⟩),⟨[]⟩⟩
noncomputable def o80 (P : Params) : Obj := ⟨(Value.type "function"),Option.none,(Data.func ⟨(st [117,110,109,97,116,99,104,101,100]),(st [117,110,109,97,116,99,104,101,100]),(fP 23),(FuncBody.stmts (fB 23)),(fS 23),3,[],Value.none,Value.none,Value.none,(Value.str (st [99,112,121,51,49,51,46,104,116,116,112,46,99,111,111,107,105,101,106,97,114]) 1883),Option.none,(Value.ref 93),Value.none,0⟩),⟨[]⟩⟩
noncomputable def o81 (P : Params) : Obj := ⟨(Value.type "list"),Option.none,(Data.seq ⟨[(Value.int 14 1925),(Value.int 4 1926),(Value.int 0 1927),(Value.int 1 1928),(Value.int 4294967295 1929),(Value.int 6 1930),(Value.int 0 1931),(Value.int 24 1932),(Value.int 9 1933),(Value.int 0 1934),(Value.int 4294967295 1935),(Value.int 13 1936),(Value.int 4 1937),(Value.int 8 1938),(Value.int 12 1939),(Value.int 0 1940),(Value.int 1 1941),(Value.int 17 1942),(Value.int 0 1943),(Value.int 24 1944),(Value.int 19 1945),(Value.int 1 1946),(Value.int 4294967295 1947),(Value.int 13 1948),(Value.int 14 1949),(Value.int 21 1950),(Value.int 9 1951),(Value.int 0 1952),(Value.int 671092736 1953),(Value.int 0 1954),(Value.int 0 1955),(Value.int 0 1956),(Value.int 0 1957),(Value.int 0 1958),(Value.int 0 1959),(Value.int 8 1960),(Value.int 12 1961),(Value.int 0 1962),(Value.int 1 1963),(Value.int 17 1964),(Value.int 1 1965),(Value.int 1 1966)]⟩ 0),⟨[]⟩⟩
noncomputable def o82 (P : Params) : Obj := ⟨(Value.type "tuple"),Option.none,(Data.seq ⟨[Value.none,Value.none]⟩ 0),⟨[]⟩⟩
noncomputable def o83 (P : Params) : Obj := ⟨(Value.type "tuple"),Option.none,(Data.seq ⟨[(Value.int 14 0),(Value.int 4 0),(Value.int 0 0),(Value.int 1 0),(Value.int 4294967295 0),(Value.int 6 0),(Value.int 0 0),(Value.int 24 0),(Value.int 9 0),(Value.int 0 0),(Value.int 4294967295 0),(Value.int 13 0),(Value.int 4 0),(Value.int 8 0),(Value.int 12 0),(Value.int 0 0),(Value.int 1 0),(Value.int 17 0),(Value.int 0 0),(Value.int 24 0),(Value.int 19 0),(Value.int 1 0),(Value.int 4294967295 0),(Value.int 13 0),(Value.int 14 0),(Value.int 21 0),(Value.int 9 0),(Value.int 0 0),(Value.int 671092736 0),(Value.int 0 0),(Value.int 0 0),(Value.int 0 0),(Value.int 0 0),(Value.int 0 0),(Value.int 0 0),(Value.int 8 0),(Value.int 12 0),(Value.int 0 0),(Value.int 1 0),(Value.int 17 0),(Value.int 1 0),(Value.int 1 0)]⟩ 0),⟨[]⟩⟩
noncomputable def o84 (P : Params) : Obj := ⟨(Value.type "re.Pattern"),Option.none,(Data.fields ⟨[(Value.str (st [94,92,115,42,40,91,94,61,92,115,59,44,93,43,41]) 1923),(Value.int 32 1968),(Value.int 1 0),Value.none,Value.none,(Value.ref 98),(Value.int 0 0)]⟩),⟨[]⟩⟩
noncomputable def o85 (P : Params) : Obj := ⟨(Value.type "list"),Option.none,(Data.seq ⟨[(Value.int 14 1973),(Value.int 4 1974),(Value.int 0 1975),(Value.int 3 1976),(Value.int 4294967295 1977),(Value.int 6 1978),(Value.int 0 1979),(Value.int 24 1980),(Value.int 9 1981),(Value.int 0 1982),(Value.int 4294967295 1983),(Value.int 13 1984),(Value.int 4 1985),(Value.int 8 1986),(Value.int 12 1987),(Value.int 0 1988),(Value.int 1 1989),(Value.int 16 1990),(Value.int 61 1991),(Value.int 24 1992),(Value.int 9 1993),(Value.int 0 1994),(Value.int 4294967295 1995),(Value.int 13 1996),(Value.int 4 1997),(Value.int 8 1998),(Value.int 12 1999),(Value.int 0 2000),(Value.int 1 2001),(Value.int 16 2002),(Value.int 34 2003),(Value.int 17 2004),(Value.int 0 2005),(Value.int 24 2006),(Value.int 12 2007),(Value.int 0 2008),(Value.int 4294967295 2009),(Value.int 13 2010),(Value.int 7 2011),(Value.int 21 2012),(Value.int 16 2013),(Value.int 34 2014),(Value.int 16 2015),(Value.int 92 2016),(Value.int 0 2017),(Value.int 1 2018),(Value.int 23 2019),(Value.int 19 2020),(Value.int 0 2021),(Value.int 4294967295 2022),(Value.int 16 2023),(Value.int 92 2024),(Value.int 2 2025),(Value.int 24 2026),(Value.int 12 2027),(Value.int 0 2028),(Value.int 4294967295 2029),(Value.int 13 2030),(Value.int 7 2031),(Value.int 21 2032),(Value.int 16 2033),(Value.int 34 2034),(Value.int 16 2035),(Value.int 92 2036),(Value.int 0 2037),(Value.int 1 2038),(Value.int 18 2039),(Value.int 17 2040),(Value.int 1 2041),(Value.int 16 2042),(Value.int 34 2043),(Value.int 1 2044)]⟩ 0),⟨[]⟩⟩
noncomputable def o86 (P : Params) : Obj := ⟨(Value.type "tuple"),Option.none,(Data.seq ⟨[(Value.int 14 0),(Value.int 4 0),(Value.int 0 0),(Value.int 3 0),(Value.int 4294967295 0),(Value.int 6 0),(Value.int 0 0),(Value.int 24 0),(Value.int 9 0),(Value.int 0 0),(Value.int 4294967295 0),(Value.int 13 0),(Value.int 4 0),(Value.int 8 0),(Value.int 12 0),(Value.int 0 0),(Value.int 1 0),(Value.int 16 0),(Value.int 61 0),(Value.int 24 0),(Value.int 9 0),(Value.int 0 0),(Value.int 4294967295 0),(Value.int 13 0),(Value.int 4 0),(Value.int 8 0),(Value.int 12 0),(Value.int 0 0),(Value.int 1 0),(Value.int 16 0),(Value.int 34 0),(Value.int 17 0),(Value.int 0 0),(Value.int 24 0),(Value.int 12 0),(Value.int 0 0),(Value.int 4294967295 0),(Value.int 13 0),(Value.int 7 0),(Value.int 21 0),(Value.int 16 0),(Value.int 34 0),(Value.int 16 0),(Value.int 92 0),(Value.int 0 0),(Value.int 1 0),(Value.int 23 0),(Value.int 19 0),(Value.int 0 0),(Value.int 4294967295 0),(Value.int 16 0),(Value.int 92 0),(Value.int 2 0),(Value.int 24 0),(Value.int 12 0),(Value.int 0 0),(Value.int 4294967295 0),(Value.int 13 0),(Value.int 7 0),(Value.int 21 0),(Value.int 16 0),(Value.int 34 0),(Value.int 16 0),(Value.int 92 0),(Value.int 0 0),(Value.int 1 0),(Value.int 18 0),(Value.int 17 0),(Value.int 1 0),(Value.int 16 0),(Value.int 34 0),(Value.int 1 0)]⟩ 0),⟨[]⟩⟩
noncomputable def o87 (P : Params) : Obj := ⟨(Value.type "re.Pattern"),Option.none,(Data.fields ⟨[(Value.str (st [94,92,115,42,61,92,115,42,92,34,40,91,94,92,34,92,92,93,42,40,63,58,92,92,46,91,94,92,34,92,92,93,42,41,42,41,92,34]) 1971),(Value.int 32 2046),(Value.int 1 0),Value.none,Value.none,(Value.ref 103),(Value.int 0 0)]⟩),⟨[]⟩⟩
noncomputable def tr26 (P : Params) : BT := (.node (o0 P) (.node (o1 P) (.node (o71 P) (.node (o7 P) (.node (o7 P) (.node (o28 P) (.node (o58 P) .nil .nil) (.node (o81 P) .nil .nil)) (.node (o47 P) (.node (o7 P) .nil .nil) .nil)) (.node (o22 P) (.node (o43 P) (.node (o7 P) .nil .nil) (.node (o86 P) .nil .nil)) (.node (o7 P) (.node (o76 P) .nil .nil) .nil))) (.node (o11 P) (.node (o18 P) (.node (o34 P) (.node (o61 P) .nil .nil) (.node (o84 P) .nil .nil)) (.node (o7 P) (.node (o73 P) .nil .nil) .nil)) (.node (o26 P) (.node (o7 P) (.node (o66 P) .nil .nil) .nil) (.node (o55 P) (.node (o7 P) .nil .nil) .nil)))) (.node (o5 P) (.node (o9 P) (.node (o16 P) (.node (o32 P) (.node (o7 P) .nil .nil) (.node (o82 P) .nil .nil)) (.node (o8 P) (.node (o69 P) .nil .nil) .nil)) (.node (o24 P) (.node (o45 P) (.node (o64 P) .nil .nil) .nil) (.node (o54 P) (.node (o8 P) .nil .nil) .nil))) (.node (o13 P) (.node (o20 P) (.node (o35 P) (.node (o8 P) .nil .nil) (.node (o6 P) .nil .nil)) (.node (o52 P) (.node (o74 P) .nil .nil) .nil)) (.node (o72 P) (.node (o46 P) (.node (o8 P) .nil .nil) .nil) (.node (o57 P) (.node (o79 P) .nil .nil) .nil))))) (.node (o2 P) (.node (o4 P) (.node (o8 P) (.node (o15 P) (.node (o31 P) (.node (o59 P) .nil .nil) (.node (o6 P) .nil .nil)) (.node (o7 P) (.node (o68 P) .nil .nil) .nil)) (.node (o23 P) (.node (o37 P) (.node (o63 P) .nil .nil) (.node (o87 P) .nil .nil)) (.node (o8 P) (.node (o7 P) .nil .nil) .nil))) (.node (o12 P) (.node (o19 P) (.node (o7 P) (.node (o7 P) .nil .nil) (.node (o85 P) .nil .nil)) (.node (o51 P) (.node (o6 P) .nil .nil) .nil)) (.node (o7 P) (.node (o42 P) (.node (o7 P) .nil .nil) .nil) (.node (o56 P) (.node (o78 P) .nil .nil) .nil)))) (.node (o6 P) (.node (o10 P) (.node (o17 P) (.node (o33 P) (.node (o60 P) .nil .nil) (.node (o83 P) .nil .nil)) (.node (o50 P) (.node (o70 P) .nil .nil) .nil)) (.node (o25 P) (.node (o41 P) (.node (o65 P) .nil .nil) .nil) (.node (o7 P) (.node (o77 P) .nil .nil) .nil))) (.node (o14 P) (.node (o21 P) (.node (o37 P) (.node (o62 P) .nil .nil) (.node (o82 P) .nil .nil)) (.node (o53 P) (.node (o75 P) .nil .nil) .nil)) (.node (o27 P) (.node (o7 P) (.node (o67 P) .nil .nil) .nil) (.node (o37 P) (.node (o80 P) .nil .nil) .nil))))))
noncomputable def S26 (w : World) (os : OsState) : SharedT := ⟨tr26 w.params, 105, lf, ⟨[]⟩, dr, 2048, os⟩
noncomputable def pos26 : Pos := ⟨100,0,100,22⟩
noncomputable def o88 (P : Params) : Obj := ⟨(Value.type "dict"),Option.none,(Data.dict ⟨[⟨(PyData.keyHash P (st [95,95,110,97,109,101,95,95])),(Value.str (st [95,95,110,97,109,101,95,95]) 165),(Value.str (st [108,97,119,95,113,117,48,48,52,56,95,48,49]) 2142)⟩,⟨(PyData.keyHash P (st [95,95,100,111,99,95,95])),(Value.str (st [95,95,100,111,99,95,95]) 166),Value.none⟩,⟨(PyData.keyHash P (st [95,95,112,97,99,107,97,103,101,95,95])),(Value.str (st [95,95,112,97,99,107,97,103,101,95,95]) 167),Value.none⟩,⟨(PyData.keyHash P (st [95,95,108,111,97,100,101,114,95,95])),(Value.str (st [95,95,108,111,97,100,101,114,95,95]) 168),(Value.builtin "__main__.__loader__#opaque")⟩,⟨(PyData.keyHash P (st [95,95,115,112,101,99,95,95])),(Value.str (st [95,95,115,112,101,99,95,95]) 169),Value.none⟩,⟨(PyData.keyHash P (st [95,95,97,110,110,111,116,97,116,105,111,110,115,95,95])),(Value.str (st [95,95,97,110,110,111,116,97,116,105,111,110,115,95,95]) 170),(Value.ref 6)⟩,⟨(PyData.keyHash P (st [95,95,98,117,105,108,116,105,110,115,95,95])),(Value.str (st [95,95,98,117,105,108,116,105,110,115,95,95]) 171),(Value.ref 4)⟩,⟨(PyData.keyHash P (st [95,95,102,105,108,101,95,95])),(Value.str (st [95,95,102,105,108,101,95,95]) 173),(Value.str (st [47,99,108,97,105,109,47,99,117,116,46,112,121]) 172)⟩,⟨(PyData.keyHash P (st [95,95,99,97,99,104,101,100,95,95])),(Value.str (st [95,95,99,97,99,104,101,100,95,95]) 174),Value.none⟩,⟨(PyData.keyHash P (st [95,115,114,101])),(Value.str (st [95,115,114,101]) 275),(Value.ref 12)⟩,⟨(PyData.keyHash P (st [67,82,76,70])),(Value.str (st [67,82,76,70]) 283),(Value.str (st [13,10]) 282)⟩,⟨(PyData.keyHash P (st [78,76])),(Value.str (st [78,76]) 285),(Value.str (st [10]) 284)⟩,⟨(PyData.keyHash P (st [95,81,85,79,80,82,73,95,77,65,80])),(Value.str (st [95,81,85,79,80,82,73,95,77,65,80]) 1313),(Value.ref 34)⟩,⟨(PyData.keyHash P (st [95,81,85,79,80,82,73,95,72,69,65,68,69,82,95,77,65,80])),(Value.str (st [95,81,85,79,80,82,73,95,72,69,65,68,69,82,95,77,65,80]) 1314),(Value.ref 39)⟩,⟨(PyData.keyHash P (st [95,81,85,79,80,82,73,95,66,79,68,89,95,77,65,80])),(Value.str (st [95,81,85,79,80,82,73,95,66,79,68,89,95,77,65,80]) 1315),(Value.ref 41)⟩,⟨(PyData.keyHash P (st [97,115,99,105,105,95,108,111,119,101,114,99,97,115,101])),(Value.str (st [97,115,99,105,105,95,108,111,119,101,114,99,97,115,101]) 1317),(Value.str (st [97,98,99,100,101,102,103,104,105,106,107,108,109,110,111,112,113,114,115,116,117,118,119,120,121,122]) 1316)⟩,⟨(PyData.keyHash P (st [97,115,99,105,105,95,117,112,112,101,114,99,97,115,101])),(Value.str (st [97,115,99,105,105,95,117,112,112,101,114,99,97,115,101]) 1319),(Value.str (st [65,66,67,68,69,70,71,72,73,74,75,76,77,78,79,80,81,82,83,84,85,86,87,88,89,90]) 1318)⟩,⟨(PyData.keyHash P (st [97,115,99,105,105,95,108,101,116,116,101,114,115])),(Value.str (st [97,115,99,105,105,95,108,101,116,116,101,114,115]) 1321),(Value.str (st [97,98,99,100,101,102,103,104,105,106,107,108,109,110,111,112,113,114,115,116,117,118,119,120,121,122,65,66,67,68,69,70,71,72,73,74,75,76,77,78,79,80,81,82,83,84,85,86,87,88,89,90]) 1320)⟩,⟨(PyData.keyHash P (st [100,105,103,105,116,115])),(Value.str (st [100,105,103,105,116,115]) 1323),(Value.str (st [48,49,50,51,52,53,54,55,56,57]) 1322)⟩,⟨(PyData.keyHash P (st [104,101,120,100,105,103,105,116,115])),(Value.str (st [104,101,120,100,105,103,105,116,115]) 1328),(Value.str (st [48,49,50,51,52,53,54,55,56,57,97,98,99,100,101,102,65,66,67,68,69,70]) 1327)⟩,⟨(PyData.keyHash P (st [117,110,113,117,111,116,101])),(Value.str (st [117,110,113,117,111,116,101]) 1834),(Value.ref 54)⟩,⟨(PyData.keyHash P (st [113,117,111,116,101])),(Value.str (st [113,117,111,116,101]) 1841),(Value.ref 61)⟩,⟨(PyData.keyHash P (st [95,81,85,79,80,82,73,95,66,79,68,89,95,69,78,67,79,68,69,95,77,65,80])),(Value.str (st [95,81,85,79,80,82,73,95,66,79,68,89,95,69,78,67,79,68,69,95,77,65,80]) 1842),(Value.ref 63)⟩,⟨(PyData.keyHash P (st [98,111,100,121,95,101,110,99,111,100,101])),(Value.str (st [98,111,100,121,95,101,110,99,111,100,101]) 1869),(Value.ref 74)⟩,⟨(PyData.keyHash P (st [100,101,99,111,100,101])),(Value.str (st [100,101,99,111,100,101]) 1882),(Value.ref 82)⟩,⟨(PyData.keyHash P (st [95,116,119,105,110,95,114,101,95,53])),(Value.str (st [95,116,119,105,110,95,114,101,95,53]) 1912),(Value.ref 87)⟩,⟨(PyData.keyHash P (st [117,110,109,97,116,99,104,101,100])),(Value.str (st [117,110,109,97,116,99,104,101,100]) 1921),(Value.ref 94)⟩,⟨(PyData.keyHash P (st [72,69,65,68,69,82,95,84,79,75,69,78,95,82,69])),(Value.str (st [72,69,65,68,69,82,95,84,79,75,69,78,95,82,69]) 1969),(Value.ref 99)⟩,⟨(PyData.keyHash P (st [72,69,65,68,69,82,95,81,85,79,84,69,68,95,86,65,76,85,69,95,82,69])),(Value.str (st [72,69,65,68,69,82,95,81,85,79,84,69,68,95,86,65,76,85,69,95,82,69]) 2047),(Value.ref 104)⟩,⟨(PyData.keyHash P (st [72,69,65,68,69,82,95,86,65,76,85,69,95,82,69])),(Value.str (st [72,69,65,68,69,82,95,86,65,76,85,69,95,82,69]) 2102),(Value.ref 109)⟩,⟨(PyData.keyHash P (st [72,69,65,68,69,82,95,69,83,67,65,80,69,95,82,69])),(Value.str (st [72,69,65,68,69,82,95,69,83,67,65,80,69,95,82,69]) 2125),(Value.ref 114)⟩,⟨(PyData.keyHash P (st [115,112,108,105,116,95,104,101,97,100,101,114,95,119,111,114,100,115])),(Value.str (st [115,112,108,105,116,95,104,101,97,100,101,114,95,119,111,114,100,115]) 2141),(Value.ref 121)⟩,⟨(PyData.keyHash P (st [95,108,97,119,95,116,101,120,116])),(Value.str (st [95,108,97,119,95,116,101,120,116]) 2153),(Value.ref 128)⟩,⟨(PyData.keyHash P (st [95,108,97,119,95,114,111,119,115])),(Value.str (st [95,108,97,119,95,114,111,119,115]) 2169),(Value.ref 135)⟩,⟨(PyData.keyHash P (st [95,108,97,119,95,114,101,97,100,105,110,103])),(Value.str (st [95,108,97,119,95,114,101,97,100,105,110,103]) 2177),(Value.ref 142)⟩,⟨(PyData.keyHash P (st [95,108,97,119,95,114,111,119])),(Value.str (st [95,108,97,119,95,114,111,119]) 2187),(Value.ref 149)⟩,⟨(PyData.keyHash P (st [108,97,119])),(Value.str (st [108,97,119]) 2193),(Value.ref 154)⟩]⟩ 39),⟨[]⟩⟩
noncomputable def o89 (P : Params) : Obj := ⟨Value.none,Option.none,(Data.fields ⟨[(Value.int 18 0),(Value.int 0 0),(Value.ref 53),(Value.int 20 0),(Value.int 0 0),(Value.ref 60),(Value.int 26 0),(Value.int 0 0),(Value.ref 73),(Value.int 64 0),(Value.int 0 0),(Value.ref 81),(Value.int 96 0),(Value.int 0 0),(Value.ref 93),(Value.int 103 0),(Value.int 0 0),(Value.ref 120),(Value.int 141 0),(Value.int 0 0),(Value.ref 127),(Value.int 156 0),(Value.int 0 0),(Value.ref 134),(Value.int 176 0),(Value.int 0 0),(Value.ref 141),(Value.int 183 0),(Value.int 0 0),(Value.ref 148),(Value.int 189 0),(Value.int 0 0),(Value.ref 153)]⟩),⟨[]⟩⟩
noncomputable def o90 (P : Params) : Obj := ⟨(Value.type "list"),Option.none,(Data.seq ⟨[(Value.int 14 2051),(Value.int 4 2052),(Value.int 0 2053),(Value.int 1 2054),(Value.int 4294967295 2055),(Value.int 6 2056),(Value.int 0 2057),(Value.int 24 2058),(Value.int 9 2059),(Value.int 0 2060),(Value.int 4294967295 2061),(Value.int 13 2062),(Value.int 4 2063),(Value.int 8 2064),(Value.int 12 2065),(Value.int 0 2066),(Value.int 1 2067),(Value.int 16 2068),(Value.int 61 2069),(Value.int 24 2070),(Value.int 9 2071),(Value.int 0 2072),(Value.int 4294967295 2073),(Value.int 13 2074),(Value.int 4 2075),(Value.int 8 2076),(Value.int 12 2077),(Value.int 0 2078),(Value.int 1 2079),(Value.int 17 2080),(Value.int 0 2081),(Value.int 24 2082),(Value.int 14 2083),(Value.int 0 2084),(Value.int 4294967295 2085),(Value.int 13 2086),(Value.int 9 2087),(Value.int 21 2088),(Value.int 8 2089),(Value.int 12 2090),(Value.int 16 2091),(Value.int 59 2092),(Value.int 16 2093),(Value.int 44 2094),(Value.int 0 2095),(Value.int 1 2096),(Value.int 17 2097),(Value.int 1 2098),(Value.int 1 2099)]⟩ 0),⟨[]⟩⟩
noncomputable def o91 (P : Params) : Obj := ⟨(Value.type "tuple"),Option.none,(Data.seq ⟨[(Value.int 14 0),(Value.int 4 0),(Value.int 0 0),(Value.int 1 0),(Value.int 4294967295 0),(Value.int 6 0),(Value.int 0 0),(Value.int 24 0),(Value.int 9 0),(Value.int 0 0),(Value.int 4294967295 0),(Value.int 13 0),(Value.int 4 0),(Value.int 8 0),(Value.int 12 0),(Value.int 0 0),(Value.int 1 0),(Value.int 16 0),(Value.int 61 0),(Value.int 24 0),(Value.int 9 0),(Value.int 0 0),(Value.int 4294967295 0),(Value.int 13 0),(Value.int 4 0),(Value.int 8 0),(Value.int 12 0),(Value.int 0 0),(Value.int 1 0),(Value.int 17 0),(Value.int 0 0),(Value.int 24 0),(Value.int 14 0),(Value.int 0 0),(Value.int 4294967295 0),(Value.int 13 0),(Value.int 9 0),(Value.int 21 0),(Value.int 8 0),(Value.int 12 0),(Value.int 16 0),(Value.int 59 0),(Value.int 16 0),(Value.int 44 0),(Value.int 0 0),(Value.int 1 0),(Value.int 17 0),(Value.int 1 0),(Value.int 1 0)]⟩ 0),⟨[]⟩⟩
noncomputable def o92 (P : Params) : Obj := ⟨(Value.type "re.Pattern"),Option.none,(Data.fields ⟨[(Value.str (st [94,92,115,42,61,92,115,42,40,91,94,92,115,59,44,93,42,41]) 2049),(Value.int 32 2101),(Value.int 1 0),Value.none,Value.none,(Value.ref 108),(Value.int 0 0)]⟩),⟨[]⟩⟩
noncomputable def o93 (P : Params) : Obj := ⟨(Value.type "list"),Option.none,(Data.seq ⟨[(Value.int 14 2106),(Value.int 8 2107),(Value.int 1 2108),(Value.int 2 2109),(Value.int 2 2110),(Value.int 1 2111),(Value.int 1 2112),(Value.int 92 2113),(Value.int 0 2114),(Value.int 16 2115),(Value.int 92 2116),(Value.int 17 2117),(Value.int 0 2118),(Value.int 2 2119),(Value.int 17 2120),(Value.int 1 2121),(Value.int 1 2122)]⟩ 0),⟨[]⟩⟩
noncomputable def o94 (P : Params) : Obj := ⟨(Value.type "tuple"),Option.none,(Data.seq ⟨[(Value.int 14 0),(Value.int 8 0),(Value.int 1 0),(Value.int 2 0),(Value.int 2 0),(Value.int 1 0),(Value.int 1 0),(Value.int 92 0),(Value.int 0 0),(Value.int 16 0),(Value.int 92 0),(Value.int 17 0),(Value.int 0 0),(Value.int 2 0),(Value.int 17 0),(Value.int 1 0),(Value.int 1 0)]⟩ 0),⟨[]⟩⟩
noncomputable def o95 (P : Params) : Obj := ⟨(Value.type "re.Pattern"),Option.none,(Data.fields ⟨[(Value.str (st [92,92,40,46,41]) 2104),(Value.int 32 2124),(Value.int 1 0),Value.none,Value.none,(Value.ref 113),(Value.int 0 0)]⟩),⟨[]⟩⟩
noncomputable def o96 (P : Params) : Obj := ⟨(Value.type "tuple"),Option.none,(Data.seq ⟨[(Value.str (st [104,101,97,100,101,114,95,118,97,108,117,101,115]) 2129),(Value.str (st [114,101,115,117,108,116]) 2130),(Value.str (st [116,101,120,116]) 2131),(Value.str (st [111,114,105,103,95,116,101,120,116]) 2132),(Value.str (st [112,97,105,114,115]) 2133),(Value.str (st [109]) 2134),(Value.str (st [110,97,109,101]) 2135),(Value.str (st [118,97,108,117,101]) 2136),(Value.str (st [110,111,110,95,106,117,110,107]) 2137),(Value.str (st [110,114,95,106,117,110,107,95,99,104,97,114,115]) 2138)]⟩ 0),⟨[]⟩⟩
noncomputable def o97 (P : Params) : Obj := ⟨Value.none,Option.none,(Data.func ⟨(st [115,112,108,105,116,95,104,101,97,100,101,114,95,119,111,114,100,115]),(st [115,112,108,105,116,95,104,101,97,100,101,114,95,119,111,114,100,115]),(fP 28),(FuncBody.stmts (fB 28)),(fS 28),0,[],Value.none,Value.none,Value.none,Value.none,Option.none,Value.none,Value.none,0⟩),⟨[]⟩⟩
noncomputable def o98 (P : Params) : Obj := ⟨(Value.type "code"),Option.none,(Data.fields ⟨[(Value.str (st [115,112,108,105,116,95,104,101,97,100,101,114,95,119,111,114,100,115]) 2126),(Value.str (st [115,112,108,105,116,95,104,101,97,100,101,114,95,119,111,114,100,115]) 2127),(Value.str (st [47,99,108,97,105,109,47,99,117,116,46,112,121]) 2128),(Value.int 103 0),(Value.int 1 0),(Value.int 0 0),(Value.int 0 0),(Value.int 3 0),(Value.ref 115),(Value.bool Bool.true),(Value.int 276 0),(Value.ref 116),Value.none,(Value.ref 117),(Value.ref 118),(Value.ref 119),(Value.int 2139 0),(Value.int 103 0),(Value.str (st [47,99,108,97,105,109,47,99,117,116,46,112,121]) 2140)]⟩),⟨[]⟩⟩
noncomputable def o99 (P : Params) : Obj := ⟨(Value.type "function"),Option.none,(Data.func ⟨(st [115,112,108,105,116,95,104,101,97,100,101,114,95,119,111,114,100,115]),(st [115,112,108,105,116,95,104,101,97,100,101,114,95,119,111,114,100,115]),(fP 28),(FuncBody.stmts (fB 28)),(fS 28),3,[],Value.none,Value.none,Value.none,(Value.str (st [99,112,121,51,49,51,46,104,116,116,112,46,99,111,111,107,105,101,106,97,114]) 1883),Option.none,(Value.ref 120),Value.none,0⟩),⟨[]⟩⟩
noncomputable def o100 (P : Params) : Obj := ⟨(Value.type "tuple"),Option.none,(Data.seq ⟨[(Value.str (st [115,99,114,105,112,116]) 2147),(Value.str (st [98,97,114,101]) 2148),(Value.str (st [115,105,103,110,115]) 2149),(Value.str (st [120]) 2150)]⟩ 0),⟨[]⟩⟩
noncomputable def o101 (P : Params) : Obj := ⟨Value.none,Option.none,(Data.func ⟨(st [95,108,97,119,95,116,101,120,116]),(st [95,108,97,119,95,116,101,120,116]),(fP 30),(FuncBody.stmts (fB 30)),(fS 30),0,[],Value.none,Value.none,Value.none,Value.none,Option.none,Value.none,Value.none,0⟩),⟨[]⟩⟩
noncomputable def o102 (P : Params) : Obj := ⟨(Value.type "code"),Option.none,(Data.fields ⟨[(Value.str (st [95,108,97,119,95,116,101,120,116]) 2144),(Value.str (st [95,108,97,119,95,116,101,120,116]) 2145),(Value.str (st [47,99,108,97,105,109,47,99,117,116,46,112,121]) 2146),(Value.int 141 0),(Value.int 1 0),(Value.int 0 0),(Value.int 0 0),(Value.int 3 0),(Value.ref 122),(Value.bool Bool.true),(Value.int 276 0),(Value.ref 123),Value.none,(Value.ref 124),(Value.ref 125),(Value.ref 126),(Value.int 2151 0),(Value.int 141 0),(Value.str (st [47,99,108,97,105,109,47,99,117,116,46,112,121]) 2152)]⟩),⟨[]⟩⟩
noncomputable def o103 (P : Params) : Obj := ⟨(Value.type "function"),Option.none,(Data.func ⟨(st [95,108,97,119,95,116,101,120,116]),(st [95,108,97,119,95,116,101,120,116]),(fP 30),(FuncBody.stmts (fB 30)),(fS 30),3,[],Value.none,Value.none,Value.none,(Value.str (st [108,97,119,95,113,117,48,48,52,56,95,48,49]) 2142),Option.none,(Value.ref 127),Value.none,0⟩),⟨[]⟩⟩
noncomputable def o104 (P : Params) : Obj := ⟨(Value.type "tuple"),Option.none,(Data.seq ⟨[(Value.str (st [116,101,120,116]) 2157),(Value.str (st [119,105,100,116,104]) 2158),(Value.str (st [102,105,103,117,114,101,115]) 2159),(Value.str (st [114,111,119,115]) 2160),(Value.str (st [108,105,110,101]) 2161),(Value.str (st [112,105,101,99,101,115]) 2162),(Value.str (st [115,105,103,110]) 2163),(Value.str (st [108,101,102,116]) 2164),(Value.str (st [114,111,119]) 2165),(Value.str (st [112,105,101,99,101]) 2166)]⟩ 0),⟨[]⟩⟩
noncomputable def o105 (P : Params) : Obj := ⟨Value.none,Option.none,(Data.func ⟨(st [95,108,97,119,95,114,111,119,115]),(st [95,108,97,119,95,114,111,119,115]),(fP 31),(FuncBody.stmts (fB 31)),(fS 31),0,[],Value.none,Value.none,Value.none,Value.none,Option.none,Value.none,Value.none,0⟩),⟨[]⟩⟩
noncomputable def o106 (P : Params) : Obj := ⟨(Value.type "code"),Option.none,(Data.fields ⟨[(Value.str (st [95,108,97,119,95,114,111,119,115]) 2154),(Value.str (st [95,108,97,119,95,114,111,119,115]) 2155),(Value.str (st [47,99,108,97,105,109,47,99,117,116,46,112,121]) 2156),(Value.int 156 0),(Value.int 2 0),(Value.int 0 0),(Value.int 0 0),(Value.int 3 0),(Value.ref 129),(Value.bool Bool.true),(Value.int 276 0),(Value.ref 130),Value.none,(Value.ref 131),(Value.ref 132),(Value.ref 133),(Value.int 2167 0),(Value.int 156 0),(Value.str (st [47,99,108,97,105,109,47,99,117,116,46,112,121]) 2168)]⟩),⟨[]⟩⟩
noncomputable def o107 (P : Params) : Obj := ⟨(Value.type "function"),Option.none,(Data.func ⟨(st [95,108,97,119,95,114,111,119,115]),(st [95,108,97,119,95,114,111,119,115]),(fP 31),(FuncBody.stmts (fB 31)),(fS 31),3,[],Value.none,Value.none,Value.none,(Value.str (st [108,97,119,95,113,117,48,48,52,56,95,48,49]) 2142),Option.none,(Value.ref 134),Value.none,0⟩),⟨[]⟩⟩
noncomputable def o108 (P : Params) : Obj := ⟨(Value.type "tuple"),Option.none,(Data.seq ⟨[(Value.str (st [114,111,119]) 2173),(Value.str (st [98,97,114,101]) 2174)]⟩ 0),⟨[]⟩⟩
noncomputable def o109 (P : Params) : Obj := ⟨Value.none,Option.none,(Data.func ⟨(st [95,108,97,119,95,114,101,97,100,105,110,103]),(st [95,108,97,119,95,114,101,97,100,105,110,103]),(fP 32),(FuncBody.stmts (fB 32)),(fS 32),0,[],Value.none,Value.none,Value.none,Value.none,Option.none,Value.none,Value.none,0⟩),⟨[]⟩⟩
noncomputable def o110 (P : Params) : Obj := ⟨(Value.type "code"),Option.none,(Data.fields ⟨[(Value.str (st [95,108,97,119,95,114,101,97,100,105,110,103]) 2170),(Value.str (st [95,108,97,119,95,114,101,97,100,105,110,103]) 2171),(Value.str (st [47,99,108,97,105,109,47,99,117,116,46,112,121]) 2172),(Value.int 176 0),(Value.int 1 0),(Value.int 0 0),(Value.int 0 0),(Value.int 3 0),(Value.ref 136),(Value.bool Bool.true),(Value.int 276 0),(Value.ref 137),Value.none,(Value.ref 138),(Value.ref 139),(Value.ref 140),(Value.int 2175 0),(Value.int 176 0),(Value.str (st [47,99,108,97,105,109,47,99,117,116,46,112,121]) 2176)]⟩),⟨[]⟩⟩
noncomputable def o111 (P : Params) : Obj := ⟨(Value.type "function"),Option.none,(Data.func ⟨(st [95,108,97,119,95,114,101,97,100,105,110,103]),(st [95,108,97,119,95,114,101,97,100,105,110,103]),(fP 32),(FuncBody.stmts (fB 32)),(fS 32),3,[],Value.none,Value.none,Value.none,(Value.str (st [108,97,119,95,113,117,48,48,52,56,95,48,49]) 2142),Option.none,(Value.ref 141),Value.none,0⟩),⟨[]⟩⟩
noncomputable def o112 (P : Params) : Obj := ⟨(Value.type "tuple"),Option.none,(Data.seq ⟨[(Value.str (st [114,101,97,100,105,110,103]) 2181),(Value.str (st [110,97,109,101]) 2182),(Value.str (st [118,97,108,117,101]) 2183),(Value.str (st [104,101,97,100]) 2184)]⟩ 0),⟨[]⟩⟩
noncomputable def o113 (P : Params) : Obj := ⟨Value.none,Option.none,(Data.func ⟨(st [95,108,97,119,95,114,111,119]),(st [95,108,97,119,95,114,111,119]),(fP 33),(FuncBody.stmts (fB 33)),(fS 33),0,[],Value.none,Value.none,Value.none,Value.none,Option.none,Value.none,Value.none,0⟩),⟨[]⟩⟩
noncomputable def o114 (P : Params) : Obj := ⟨(Value.type "code"),Option.none,(Data.fields ⟨[(Value.str (st [95,108,97,119,95,114,111,119]) 2178),(Value.str (st [95,108,97,119,95,114,111,119]) 2179),(Value.str (st [47,99,108,97,105,109,47,99,117,116,46,112,121]) 2180),(Value.int 183 0),(Value.int 1 0),(Value.int 0 0),(Value.int 0 0),(Value.int 3 0),(Value.ref 143),(Value.bool Bool.true),(Value.int 276 0),(Value.ref 144),Value.none,(Value.ref 145),(Value.ref 146),(Value.ref 147),(Value.int 2185 0),(Value.int 183 0),(Value.str (st [47,99,108,97,105,109,47,99,117,116,46,112,121]) 2186)]⟩),⟨[]⟩⟩
noncomputable def o115 (P : Params) : Obj := ⟨(Value.type "function"),Option.none,(Data.func ⟨(st [95,108,97,119,95,114,111,119]),(st [95,108,97,119,95,114,111,119]),(fP 33),(FuncBody.stmts (fB 33)),(fS 33),3,[],Value.none,Value.none,Value.none,(Value.str (st [108,97,119,95,113,117,48,48,52,56,95,48,49]) 2142),Option.none,(Value.ref 148),Value.none,0⟩),⟨[]⟩⟩
noncomputable def o116 (P : Params) : Obj := ⟨Value.none,Option.none,(Data.func ⟨(st [108,97,119]),(st [108,97,119]),(fP 34),(FuncBody.stmts (fB 34)),(fS 34),0,[],Value.none,Value.none,Value.none,Value.none,Option.none,Value.none,Value.none,0⟩),⟨[]⟩⟩
noncomputable def o117 (P : Params) : Obj := ⟨(Value.type "code"),Option.none,(Data.fields ⟨[(Value.str (st [108,97,119]) 2188),(Value.str (st [108,97,119]) 2189),(Value.str (st [47,99,108,97,105,109,47,99,117,116,46,112,121]) 2190),(Value.int 189 0),(Value.int 1 0),(Value.int 0 0),(Value.int 0 0),(Value.int 3 0),(Value.ref 150),(Value.bool Bool.true),(Value.int 276 0),(Value.ref 151),Value.none,Value.none,Value.none,(Value.ref 152),(Value.int 2191 0),(Value.int 189 0),(Value.str (st [47,99,108,97,105,109,47,99,117,116,46,112,121]) 2192)]⟩),⟨[]⟩⟩
noncomputable def o118 (P : Params) : Obj := ⟨(Value.type "function"),Option.none,(Data.func ⟨(st [108,97,119]),(st [108,97,119]),(fP 34),(FuncBody.stmts (fB 34)),(fS 34),3,[],Value.none,Value.none,Value.none,(Value.str (st [108,97,119,95,113,117,48,48,52,56,95,48,49]) 2142),Option.none,(Value.ref 153),Value.none,0⟩),⟨[]⟩⟩
noncomputable def tr35 (P : Params) : BT := (.node (o0 P) (.node (o1 P) (.node (o88 P) (.node (o7 P) (.node (o7 P) (.node (o28 P) (.node (o58 P) (.node (o102 P) .nil .nil) .nil) (.node (o81 P) .nil .nil)) (.node (o47 P) (.node (o7 P) (.node (o7 P) .nil .nil) .nil) (.node (o6 P) .nil .nil))) (.node (o22 P) (.node (o43 P) (.node (o7 P) (.node (o107 P) .nil .nil) .nil) (.node (o86 P) .nil .nil)) (.node (o7 P) (.node (o76 P) (.node (o8 P) .nil .nil) .nil) (.node (o97 P) .nil .nil)))) (.node (o11 P) (.node (o18 P) (.node (o34 P) (.node (o61 P) (.node (o104 P) .nil .nil) .nil) (.node (o84 P) .nil .nil)) (.node (o7 P) (.node (o73 P) (.node (o113 P) .nil .nil) .nil) (.node (o7 P) .nil .nil))) (.node (o26 P) (.node (o7 P) (.node (o66 P) (.node (o7 P) .nil .nil) .nil) (.node (o82 P) .nil .nil)) (.node (o55 P) (.node (o7 P) .nil .nil) (.node (o8 P) .nil .nil))))) (.node (o5 P) (.node (o9 P) (.node (o16 P) (.node (o32 P) (.node (o7 P) (.node (o7 P) .nil .nil) .nil) (.node (o82 P) .nil .nil)) (.node (o8 P) (.node (o69 P) (.node (o112 P) .nil .nil) .nil) (.node (o94 P) .nil .nil))) (.node (o24 P) (.node (o45 P) (.node (o64 P) (.node (o8 P) .nil .nil) .nil) (.node (o90 P) .nil .nil)) (.node (o54 P) (.node (o8 P) (.node (o117 P) .nil .nil) .nil) (.node (o99 P) .nil .nil)))) (.node (o13 P) (.node (o20 P) (.node (o35 P) (.node (o8 P) (.node (o105 P) .nil .nil) .nil) (.node (o6 P) .nil .nil)) (.node (o52 P) (.node (o74 P) (.node (o115 P) .nil .nil) .nil) (.node (o96 P) .nil .nil))) (.node (o89 P) (.node (o46 P) (.node (o8 P) (.node (o110 P) .nil .nil) .nil) (.node (o92 P) .nil .nil)) (.node (o57 P) (.node (o79 P) .nil .nil) (.node (o7 P) .nil .nil)))))) (.node (o2 P) (.node (o4 P) (.node (o8 P) (.node (o15 P) (.node (o31 P) (.node (o59 P) (.node (o103 P) .nil .nil) .nil) (.node (o6 P) .nil .nil)) (.node (o7 P) (.node (o68 P) (.node (o8 P) .nil .nil) .nil) (.node (o82 P) .nil .nil))) (.node (o23 P) (.node (o37 P) (.node (o63 P) (.node (o7 P) .nil .nil) .nil) (.node (o87 P) .nil .nil)) (.node (o8 P) (.node (o7 P) (.node (o116 P) .nil .nil) .nil) (.node (o98 P) .nil .nil)))) (.node (o12 P) (.node (o19 P) (.node (o7 P) (.node (o7 P) (.node (o7 P) .nil .nil) .nil) (.node (o85 P) .nil .nil)) (.node (o51 P) (.node (o6 P) (.node (o114 P) .nil .nil) .nil) (.node (o8 P) .nil .nil))) (.node (o7 P) (.node (o42 P) (.node (o7 P) (.node (o109 P) .nil .nil) .nil) (.node (o91 P) .nil .nil)) (.node (o56 P) (.node (o78 P) .nil .nil) (.node (o100 P) .nil .nil))))) (.node (o6 P) (.node (o10 P) (.node (o17 P) (.node (o33 P) (.node (o60 P) (.node (o8 P) .nil .nil) .nil) (.node (o83 P) .nil .nil)) (.node (o50 P) (.node (o70 P) (.node (o7 P) .nil .nil) .nil) (.node (o95 P) .nil .nil))) (.node (o25 P) (.node (o41 P) (.node (o65 P) (.node (o108 P) .nil .nil) .nil) (.node (o6 P) .nil .nil)) (.node (o7 P) (.node (o77 P) (.node (o118 P) .nil .nil) .nil) (.node (o7 P) .nil .nil)))) (.node (o14 P) (.node (o21 P) (.node (o37 P) (.node (o62 P) (.node (o106 P) .nil .nil) .nil) (.node (o82 P) .nil .nil)) (.node (o53 P) (.node (o75 P) (.node (o7 P) .nil .nil) .nil) (.node (o7 P) .nil .nil))) (.node (o27 P) (.node (o7 P) (.node (o67 P) (.node (o111 P) .nil .nil) .nil) (.node (o93 P) .nil .nil)) (.node (o37 P) (.node (o80 P) .nil .nil) (.node (o101 P) .nil .nil)))))))
noncomputable def S35 (w : World) (os : OsState) : SharedT := ⟨tr35 w.params, 155, lf, ⟨[]⟩, dr, 2194, os⟩
noncomputable def pos35 : Pos := ⟨189,0,197,110⟩
-- cuts [40, 40, 40, 40, 40, 40, 40, 40, 40, 40, 40, 40, 40, 40, 40, 40, 40, 40, 40] left 38 rows [] [[], [], [], [], [], [], [], [], [], [], [], [], [], [], [], [], [], [], []]
noncomputable def o119 (P : Params) : Obj := ⟨(Value.type "dict"),Option.none,(Data.dict ⟨[⟨(PyData.keyHash P (st [95,95,110,97,109,101,95,95])),(Value.str (st [95,95,110,97,109,101,95,95]) 247),(Value.str (st [95,115,114,101]) 246)⟩,⟨(PyData.keyHash P (st [95,95,100,111,99,95,95])),(Value.str (st [95,95,100,111,99,95,95]) 248),Value.none⟩,⟨(PyData.keyHash P (st [95,95,112,97,99,107,97,103,101,95,95])),(Value.str (st [95,95,112,97,99,107,97,103,101,95,95]) 250),(Value.str (st []) 249)⟩,⟨(PyData.keyHash P (st [95,95,108,111,97,100,101,114,95,95])),(Value.str (st [95,95,108,111,97,100,101,114,95,95]) 251),(Value.ref 14)⟩,⟨(PyData.keyHash P (st [95,95,115,112,101,99,95,95])),(Value.str (st [95,95,115,112,101,99,95,95]) 252),(Value.ref 26)⟩,⟨(PyData.keyHash P (st [99,111,109,112,105,108,101])),(Value.str (st [99,111,109,112,105,108,101]) 253),(Value.builtin "_sre.compile")⟩,⟨(PyData.keyHash P (st [116,101,109,112,108,97,116,101])),(Value.str (st [116,101,109,112,108,97,116,101]) 254),(Value.builtin "_sre.template")⟩,⟨(PyData.keyHash P (st [103,101,116,99,111,100,101,115,105,122,101])),(Value.str (st [103,101,116,99,111,100,101,115,105,122,101]) 255),(Value.builtin "_sre.getcodesize")⟩,⟨(PyData.keyHash P (st [97,115,99,105,105,95,105,115,99,97,115,101,100])),(Value.str (st [97,115,99,105,105,95,105,115,99,97,115,101,100]) 256),(Value.builtin "_sre.ascii_iscased")⟩,⟨(PyData.keyHash P (st [117,110,105,99,111,100,101,95,105,115,99,97,115,101,100])),(Value.str (st [117,110,105,99,111,100,101,95,105,115,99,97,115,101,100]) 257),(Value.builtin "_sre.unicode_iscased")⟩,⟨(PyData.keyHash P (st [97,115,99,105,105,95,116,111,108,111,119,101,114])),(Value.str (st [97,115,99,105,105,95,116,111,108,111,119,101,114]) 258),(Value.builtin "_sre.ascii_tolower")⟩,⟨(PyData.keyHash P (st [117,110,105,99,111,100,101,95,116,111,108,111,119,101,114])),(Value.str (st [117,110,105,99,111,100,101,95,116,111,108,111,119,101,114]) 259),(Value.builtin "_sre.unicode_tolower")⟩,⟨(PyData.keyHash P (st [77,65,71,73,67])),(Value.str (st [77,65,71,73,67]) 261),(Value.int 20230612 260)⟩,⟨(PyData.keyHash P (st [67,79,68,69,83,73,90,69])),(Value.str (st [67,79,68,69,83,73,90,69]) 263),(Value.int 4 262)⟩,⟨(PyData.keyHash P (st [77,65,88,82,69,80,69,65,84])),(Value.str (st [77,65,88,82,69,80,69,65,84]) 265),(Value.int 4294967295 264)⟩,⟨(PyData.keyHash P (st [77,65,88,71,82,79,85,80,83])),(Value.str (st [77,65,88,71,82,79,85,80,83]) 267),(Value.int 1073741823 266)⟩,⟨(PyData.keyHash P (st [99,111,112,121,114,105,103,104,116])),(Value.str (st [99,111,112,121,114,105,103,104,116]) 269),(Value.str (st [32,83,82,69,32,50,46,50,46,50,32,67,111,112,121,114,105,103,104,116,32,40,99,41,32,49,57,57,55,45,50,48,48,50,32,98,121,32,83,101,99,114,101,116,32,76,97,98,115,32,65,66,32]) 268)⟩]⟩ 17),⟨[]⟩⟩
noncomputable def tre (P : Params) : BT := (.node (o0 P) (.node (o1 P) (.node (o3 P) (.node (o7 P) (.node (o7 P) .nil .nil) (.node (o22 P) .nil .nil)) (.node (o119 P) (.node (o18 P) .nil .nil) (.node (o26 P) .nil .nil))) (.node (o5 P) (.node (o9 P) (.node (o16 P) .nil .nil) (.node (o24 P) .nil .nil)) (.node (o13 P) (.node (o20 P) .nil .nil) .nil))) (.node (o2 P) (.node (o4 P) (.node (o8 P) (.node (o15 P) .nil .nil) (.node (o23 P) .nil .nil)) (.node (o12 P) (.node (o19 P) .nil .nil) .nil)) (.node (o6 P) (.node (o10 P) (.node (o17 P) .nil .nil) (.node (o25 P) .nil .nil)) (.node (o14 P) (.node (o21 P) .nil .nil) .nil))))
noncomputable def Se (w : World) (os : OsState) : SharedT := ⟨tre w.params, 28, lf, ⟨[]⟩, dr, 276, os⟩
-- s0 28 toks 276 life lf drawn ⟨0,0,0,0⟩
-- pre 32 toks 282 life lf drawn ⟨0,0,0,0⟩
-- fin 155 toks 2194 life lf drawn ⟨0,0,0,0⟩
-- prepos ⟨0,0,0,0⟩

noncomputable abbrev pw : Program := PySem.Challenge.pw_qu0048_01
noncomputable abbrev an : Option Value := some (.ref 6)
noncomputable def env : Env := { scope := pw.main.scope, locals := mainNs, globals := mainNs, cells := [], code := .ref 30, frame := some 31 }
noncomputable abbrev cE : Code := .body bd env
noncomputable def sl (i n : Nat) : List Stmt := (bd.drop i).take n
noncomputable abbrev tbQ := PySem.W.Fast.tw14364793385576792824
noncomputable abbrev segQ := PySem.W.Fast.tw10110043849684766642
noncomputable abbrev goQ := PySem.W.Fast.tw10295753902157049106
noncomputable abbrev execsQ := PySem.W.Fast.tw12563942051412417395
noncomputable abbrev denQ := PySem.W.Fast.tw11892475500146522536
noncomputable abbrev fl (w : World) (b : Bool) : World := w.withFollow "special-get-raises" b
noncomputable abbrev fl2 (w : World) (b c : Bool) : World := (w.withFollow "comprehension-iter-twice" c).withFollow "special-get-raises" b
noncomputable abbrev thQ (l : List Stmt) (pos : Pos) : Thread := ⟨(execsQ l env).wrap doneF deadEnd id id, cE, pos, [topFrame default]⟩
theorem seg_q {w : World} {n : Nat} {S : SharedT} {T : Thread} {r} (h : segQ tbQ pw w 28 an 1 n S T = r) : segRunT treeTable pw w 28 an 1 n S T = r := by
  rw [PySem.W.Fast.te10110043849684766642, PySem.W.Fast.te14364793385576792824]
  exact h
theorem go_q {w : World} {n : Nat} {S : SharedT} {T : Thread} {r} (h : goQ tbQ pw w 28 an 1 n S T = r) : segGoT treeTable pw w 28 an 1 n S T = r := by
  rw [PySem.W.Fast.te10295753902157049106, PySem.W.Fast.te14364793385576792824]
  exact h
theorem th_q (l : List Stmt) (pos : Pos) : piecesOf l env cE pos [topFrame default] = thQ l pos := by
  unfold piecesOf
  rw [PySem.W.Fast.te12563942051412417395]
/-- a piece, as the chain wants it -/
noncomputable abbrev Piece (w : World) (n : Nat) (S : SharedT) (i k : Nat) (pos : Pos) (S' : SharedT) (pos' : Pos) : Prop :=
  segRun treeTable pw w 28 an 1 n S.abs (piecesOf (sl i k) env cE pos [topFrame default]) = some (Flow.next, S'.abs, cE, pos')
theorem piece_q {w : World} {n : Nat} {S S' : SharedT} {i k : Nat} {pos pos' : Pos} (h : segQ tbQ pw w 28 an 1 n S (thQ (sl i k) pos) = some (Flow.next, S', cE, pos')) : Piece w n S i k pos S' pos' := by
  unfold Piece
  rw [th_q]
  exact segRun_of (seg_q h)
theorem by2 {P : World → Prop} (h : ∀ w b c, P (fl2 w b c)) (w : World) : P w :=
  byRow2 "special-get-raises" (P := P) (fun w => byRow2 "comprehension-iter-twice" (P := fun w => P (w.withFollow "special-get-raises" false)) (fun w => h w false false) (fun w => h w false true) w)
    (fun w => byRow2 "comprehension-iter-twice" (P := fun w => P (w.withFollow "special-get-raises" true)) (fun w => h w true false) (fun w => h w true true) w) w
theorem by1 {P : World → Prop} (h : ∀ w b, P (fl w b)) (w : World) : P w := byRow2 "special-get-raises" (P := P) (fun w => h w false) (fun w => h w true) w
noncomputable def AllTo (P : Nat → Prop) : Nat → Prop
  | 0 => True
  | n + 1 => AllTo P n ∧ P n
theorem AllTo.get {P : Nat → Prop} : ∀ {n : Nat}, AllTo P n → ∀ i, i < n → P i
  | 0, _, i, h => absurd h (Nat.not_lt_zero _)
  | n + 1, H, i, h => by
    rcases Nat.lt_or_eq_of_le (Nat.le_of_lt_succ h) with q | q
    · exact AllTo.get H.1 i q
    · exact q ▸ H.2
theorem loop_run {w : World} {S : Nat → SharedT} {T : Nat → Thread} {c m N : Nat} {r} (hs : ∀ i, i < m → goQ tbQ pw w 28 an 1 c (S i) (T i) = some (S (i + 1), T (i + 1)))
    (hend : segQ tbQ pw w 28 an 1 N (S m) (T m) = some r) : ∀ j, j ≤ m → segRun treeTable pw w 28 an 1 (j * c + N) (S (m - j)).abs (T (m - j)) = some (r.1, r.2.1.abs, r.2.2)
  | 0, _ => by
    rw [Nat.zero_mul, Nat.zero_add]
    obtain ⟨f, s, c, q⟩ := r
    exact segRun_of (seg_q hend)
  | j + 1, h => by
    have e : m - (j + 1) + 1 = m - j := by omega
    have h1 := hs (m - (j + 1)) (by omega)
    rw [e] at h1
    rw [show (j + 1) * c + N = c + (j * c + N) by rw [Nat.add_mul]; omega]
    exact seg_go (segGo_of (go_q h1)) (loop_run hs hend j (by omega))
/-- a loop: its start, its turns, its end -/
theorem loop_piece {w : World} {S : Nat → SharedT} {T : Nat → Thread} {S₀ S' : SharedT} {c m N n i k M : Nat} {pos pos' : Pos} (h0 : goQ tbQ pw w 28 an 1 n S₀ (thQ (sl i k) pos) = some (S 0, T 0))
    (hs : ∀ i, i < m → goQ tbQ pw w 28 an 1 c (S i) (T i) = some (S (i + 1), T (i + 1)))
    (hend : segQ tbQ pw w 28 an 1 N (S m) (T m) = some (Flow.next, S', cE, pos')) (hM : n + (m * c + N) = M) : Piece w M S₀ i k pos S' pos' := by
  subst hM
  unfold Piece
  rw [th_q]
  have h := loop_run hs hend m (Nat.le_refl _)
  rw [Nat.sub_self] at h
  exact seg_go (segGo_of (go_q h0)) h

theorem st0 (w : World) (os : OsState) : Piece w 40 (S0 w os) 0 2 pos0 (S2 w os) pos2 := piece_q (by kernel_rfl)
theorem st3 (w : World) (os : OsState) : Piece w 160 (S3 w os) 3 8 pos3 (S11 w os) pos11 := piece_q (by kernel_rfl)
theorem st12 (w : World) (os : OsState) : Piece w 30 (S12 w os) 12 1 pos12 (S13 w os) pos13 := piece_q (by kernel_rfl)
theorem st14 (w : World) : ∀ os, Piece w 300 (S14 w os) 14 7 pos14 (S21 w os) pos21 :=
  by1 (P := fun w => ∀ os, Piece w 300 (S14 w os) 14 7 pos14 (S21 w os) pos21) (fun w b os => piece_q (by cases b <;> kernel_rfl)) w
theorem st21 (w : World) (os : OsState) : Piece w 340 (S21 w os) 21 5 pos21 (S26 w os) pos26 := piece_q (by kernel_rfl)
theorem st26 (w : World) (os : OsState) : Piece w 380 (S26 w os) 26 9 pos26 (S35 w os) pos35 := piece_q (by kernel_rfl)

noncomputable def hx (d : Nat) : Nat := bif Nat.blt d 10 then 48 + d else 55 + d
noncomputable def hex2 (i : Nat) : Str := st [61, hx (i / 16), hx (i % 16)]
noncomputable def all2 : List Value := (List.range 256).map fun j => Value.str (hex2 j) (292 + 4 * j)
noncomputable def o2r : Obj := ⟨.type "range", none, .fields ⟨[.int 0 287, .int 256 286, .int 1 288]⟩, ⟨[]⟩⟩
noncomputable def o2a (i : Nat) : Obj := ⟨.type "range_iterator", none, .fields ⟨[.int (Int.ofNat i) 0, .int (Int.ofNat (256 - i)) 0, .int 1 0]⟩, ⟨[]⟩⟩
noncomputable def o2b (i : Nat) : Obj := ⟨.type "list", none, .seq ⟨all2.take i⟩ i, ⟨[]⟩⟩
noncomputable def o2c (i : Nat) (P : Params) : Obj := ⟨.type "dict", none, (match i with | 0 => .dict ⟨[]⟩ 0 | i + 1 => .dict ⟨[⟨PyData.keyHash P (st [99]), .str (st [99]) 290, .int (Int.ofNat i) (289 + 4 * i)⟩]⟩ 1), ⟨[]⟩⟩
noncomputable def tr2h (i : Nat) (P : Params) : BT := (.node (o0 P) (.node (o1 P) (.node (o29 P) (.node (o7 P) (.node (o7 P) (.node (o28 P) .nil .nil) .nil) (.node (o22 P) .nil .nil)) (.node (o11 P) (.node (o18 P) (.node (o2c i P) .nil .nil) .nil) (.node (o26 P) .nil .nil))) (.node (o5 P) (.node (o9 P) (.node (o16 P) (.node (o2a i) .nil .nil) .nil) (.node (o24 P) .nil .nil)) (.node (o13 P) (.node (o20 P) .nil .nil) (.node (o8 P) .nil .nil)))) (.node (o2 P) (.node (o4 P) (.node (o8 P) (.node (o15 P) (.node o2r .nil .nil) .nil) (.node (o23 P) .nil .nil)) (.node (o12 P) (.node (o19 P) .nil .nil) (.node (o7 P) .nil .nil))) (.node (o6 P) (.node (o10 P) (.node (o17 P) (.node (o2b i) .nil .nil) .nil) (.node (o25 P) .nil .nil)) (.node (o14 P) (.node (o21 P) .nil .nil) (.node (o27 P) .nil .nil)))))
noncomputable def S2h (i : Nat) (w : World) (os : OsState) : SharedT := ⟨tr2h i w.params, 36, lf, ⟨[]⟩, dr, 289 + 4 * i, os⟩
noncomputable def e2 : Expr := match sl 2 1 with | [.Assign _ e _] => e | _ => default
noncomputable def sc2 : Scope := match e2 with | .ListComp _ _ sc _ => sc | _ => default
noncomputable def env2 : Env := { scope := sc2, locals := 35, globals := 3, cells := [], code := .ref 30, frame := some 31 }
noncomputable def c2 : Code := .compLoop e2 0 (.ref 33) (.ref 34) env2
noncomputable def pos2h (i : Nat) : Pos := match i with | 0 => ⟨4,36,4,46⟩ | _ => ⟨4,15,4,26⟩
noncomputable abbrev T2h (k : Result → Sem Fin) (i : Nat) : Thread := ⟨denQ treeTable c2, c2, pos2h i, [.ret k none true [.ref 35, .ref 34] cE ⟨4,36,4,46⟩ [], topFrame default]⟩
noncomputable def k2 (w : World) (os : OsState) (n : Nat) : Result → Sem Fin := match goQ tbQ pw w 28 an 1 n (S2 w os) (thQ (sl 2 1) pos2) with
  | some (_, ⟨_, _, _, .ret k _ _ _ _ _ _ :: _⟩) => k
  | _ => fun _ => .pure (.done .next)
noncomputable abbrev Q2 (j : Nat) : Prop := ∀ (w : World) (os : OsState) (k : Result → Sem Fin) (b : Bool), goQ tbQ pw (fl w b) 28 an 1 296 (S2h (8 * j) (fl w b) os) (T2h k (8 * j)) = some (S2h (8 * (j + 1)) (fl w b) os, T2h k (8 * (j + 1)))
theorem q2n0 : AllTo Q2 0 := trivial
theorem q2n1 : AllTo Q2 1 := ⟨q2n0, by intro w os k b; cases b <;> kernel_rfl⟩
theorem q2n2 : AllTo Q2 2 := ⟨q2n1, by intro w os k b; cases b <;> kernel_rfl⟩
theorem q2n3 : AllTo Q2 3 := ⟨q2n2, by intro w os k b; cases b <;> kernel_rfl⟩
theorem q2n4 : AllTo Q2 4 := ⟨q2n3, by intro w os k b; cases b <;> kernel_rfl⟩
theorem q2n5 : AllTo Q2 5 := ⟨q2n4, by intro w os k b; cases b <;> kernel_rfl⟩
theorem q2n6 : AllTo Q2 6 := ⟨q2n5, by intro w os k b; cases b <;> kernel_rfl⟩
theorem q2n7 : AllTo Q2 7 := ⟨q2n6, by intro w os k b; cases b <;> kernel_rfl⟩
theorem q2n8 : AllTo Q2 8 := ⟨q2n7, by intro w os k b; cases b <;> kernel_rfl⟩
theorem q2n9 : AllTo Q2 9 := ⟨q2n8, by intro w os k b; cases b <;> kernel_rfl⟩
theorem q2n10 : AllTo Q2 10 := ⟨q2n9, by intro w os k b; cases b <;> kernel_rfl⟩
theorem q2n11 : AllTo Q2 11 := ⟨q2n10, by intro w os k b; cases b <;> kernel_rfl⟩
theorem q2n12 : AllTo Q2 12 := ⟨q2n11, by intro w os k b; cases b <;> kernel_rfl⟩
theorem q2n13 : AllTo Q2 13 := ⟨q2n12, by intro w os k b; cases b <;> kernel_rfl⟩
theorem q2n14 : AllTo Q2 14 := ⟨q2n13, by intro w os k b; cases b <;> kernel_rfl⟩
theorem q2n15 : AllTo Q2 15 := ⟨q2n14, by intro w os k b; cases b <;> kernel_rfl⟩
theorem q2n16 : AllTo Q2 16 := ⟨q2n15, by intro w os k b; cases b <;> kernel_rfl⟩
theorem q2n17 : AllTo Q2 17 := ⟨q2n16, by intro w os k b; cases b <;> kernel_rfl⟩
theorem q2n18 : AllTo Q2 18 := ⟨q2n17, by intro w os k b; cases b <;> kernel_rfl⟩
theorem q2n19 : AllTo Q2 19 := ⟨q2n18, by intro w os k b; cases b <;> kernel_rfl⟩
theorem q2n20 : AllTo Q2 20 := ⟨q2n19, by intro w os k b; cases b <;> kernel_rfl⟩
theorem q2n21 : AllTo Q2 21 := ⟨q2n20, by intro w os k b; cases b <;> kernel_rfl⟩
theorem q2n22 : AllTo Q2 22 := ⟨q2n21, by intro w os k b; cases b <;> kernel_rfl⟩
theorem q2n23 : AllTo Q2 23 := ⟨q2n22, by intro w os k b; cases b <;> kernel_rfl⟩
theorem q2n24 : AllTo Q2 24 := ⟨q2n23, by intro w os k b; cases b <;> kernel_rfl⟩
theorem q2n25 : AllTo Q2 25 := ⟨q2n24, by intro w os k b; cases b <;> kernel_rfl⟩
theorem q2n26 : AllTo Q2 26 := ⟨q2n25, by intro w os k b; cases b <;> kernel_rfl⟩
theorem q2n27 : AllTo Q2 27 := ⟨q2n26, by intro w os k b; cases b <;> kernel_rfl⟩
theorem q2n28 : AllTo Q2 28 := ⟨q2n27, by intro w os k b; cases b <;> kernel_rfl⟩
theorem q2n29 : AllTo Q2 29 := ⟨q2n28, by intro w os k b; cases b <;> kernel_rfl⟩
theorem q2n30 : AllTo Q2 30 := ⟨q2n29, by intro w os k b; cases b <;> kernel_rfl⟩
theorem q2n31 : AllTo Q2 31 := ⟨q2n30, by intro w os k b; cases b <;> kernel_rfl⟩
theorem q2n32 : AllTo Q2 32 := ⟨q2n31, by intro w os k b; cases b <;> kernel_rfl⟩
theorem s2a (w : World) (os : OsState) (b : Bool) : goQ tbQ pw (fl2 w b true) 28 an 1 42 (S2 (fl2 w b true) os) (thQ (sl 2 1) pos2) = some (S2h 0 (fl2 w b true) os, T2h (k2 (fl2 w b true) os 42) 0) := by cases b <;> kernel_rfl
theorem s2b (w : World) (os : OsState) (b : Bool) : goQ tbQ pw (fl2 w b false) 28 an 1 52 (S2 (fl2 w b false) os) (thQ (sl 2 1) pos2) = some (S2h 0 (fl2 w b false) os, T2h (k2 (fl2 w b false) os 52) 0) := by cases b <;> kernel_rfl
theorem s2c (w : World) (os : OsState) (b : Bool) : segQ tbQ pw (fl2 w b true) 28 an 1 40 (S2h 256 (fl2 w b true) os) (T2h (k2 (fl2 w b true) os 42) 256) = some (Flow.next, S3 (fl2 w b true) os, cE, pos3) := by cases b <;> kernel_rfl
theorem s2d (w : World) (os : OsState) (b : Bool) : segQ tbQ pw (fl2 w b false) 28 an 1 30 (S2h 256 (fl2 w b false) os) (T2h (k2 (fl2 w b false) os 52) 256) = some (Flow.next, S3 (fl2 w b false) os, cE, pos3) := by cases b <;> kernel_rfl
theorem st2 (w : World) : ∀ os, Piece w 9554 (S2 w os) 2 1 pos2 (S3 w os) pos3 := by
  have h : ∀ (w : World) (b c : Bool) (os : OsState), Piece (fl2 w b c) 9554 (S2 (fl2 w b c) os) 2 1 pos2 (S3 (fl2 w b c) os) pos3 := by
    intro w b c os
    cases c
    · exact loop_piece (S := fun j => S2h (8 * j) _ os) (T := fun j => T2h _ (8 * j)) (m := 32) (s2b w os b) (fun i hi => q2n32.get i hi _ os _ b) (s2d w os b) rfl
    · exact loop_piece (S := fun j => S2h (8 * j) _ os) (T := fun j => T2h _ (8 * j)) (m := 32) (s2a w os b) (fun i hi => q2n32.get i hi _ os _ b) (s2c w os b) rfl
  exact by2 (P := fun w => ∀ os, Piece w 9554 (S2 w os) 2 1 pos2 (S3 w os) pos3) h w

noncomputable def ents (o : Obj) : List DictEntry := match o.data with | .dict ⟨l⟩ _ => l | _ => []

noncomputable def B11 : List Nat := [45,33,42,43,47,97,98,99,100,101,102,103,104,105,106,107,108,109,110,111,112,113,114,115,116,117,118,119,120,121,122,65,66,67,68,69,70,71,72,73,74,75,76,77,78,79,80,81,82,83,84,85,86,87,88,89,90,48,49,50,51,52,53,54,55,56,57]
noncomputable def o11i (i : Nat) : Obj := ⟨.type "bytes_iterator", none, .fields ⟨[.bytes ⟨B11.map UInt8.ofNat⟩ 1337, .int (Int.ofNat i) 0]⟩, ⟨[]⟩⟩
noncomputable def l11 (i : Nat) : List Value := (List.range i).foldl (fun l j => l.set (B11.getD j 0) (.str (st [B11.getD j 0]) (1340 + 3 * j))) all2
noncomputable def o11l (i : Nat) : Obj := ⟨.type "list", none, .seq ⟨l11 i⟩ 0, ⟨[]⟩⟩
noncomputable def o11g (i : Nat) (P : Params) : Obj := match i with
  | 0 => o36 P
  | i + 1 => ⟨.type "dict", none, .dict ⟨ents (o36 P) ++ [⟨PyData.keyHash P (st [99]), .str (st [99]) 1339, .int (Int.ofNat (B11.getD i 0)) (1338 + 3 * i)⟩]⟩ 21, ⟨[]⟩⟩
noncomputable def tr11h (i : Nat) (P : Params) : BT := (.node (o0 P) (.node (o1 P) (.node (o11g i P) (.node (o7 P) (.node (o7 P) (.node (o28 P) .nil .nil) .nil) (.node (o22 P) (.node (o11l i) .nil .nil) .nil)) (.node (o11 P) (.node (o18 P) (.node (o34 P) .nil .nil) .nil) (.node (o26 P) .nil .nil))) (.node (o5 P) (.node (o9 P) (.node (o16 P) (.node (o32 P) .nil .nil) .nil) (.node (o24 P) (.node (o38 P) .nil .nil) .nil)) (.node (o13 P) (.node (o20 P) (.node (o35 P) .nil .nil) .nil) (.node (o8 P) .nil .nil)))) (.node (o2 P) (.node (o4 P) (.node (o8 P) (.node (o15 P) (.node (o31 P) .nil .nil) .nil) (.node (o23 P) (.node (o37 P) .nil .nil) .nil)) (.node (o12 P) (.node (o19 P) (.node (o7 P) .nil .nil) .nil) (.node (o7 P) .nil .nil))) (.node (o6 P) (.node (o10 P) (.node (o17 P) (.node (o33 P) .nil .nil) .nil) (.node (o25 P) (.node (o11i i) .nil .nil) .nil)) (.node (o14 P) (.node (o21 P) (.node (o37 P) .nil .nil) .nil) (.node (o27 P) .nil .nil)))))
noncomputable def S11h (i : Nat) (w : World) (os : OsState) : SharedT := ⟨tr11h i w.params, 43, lf, ⟨[]⟩, dr, 1338 + 3 * i, os⟩
noncomputable def c11 : Code := match sl 11 1 with | [.For t _ b o _] => .forLoop t (.ref 42) b o env | _ => default
noncomputable def pos11h (i : Nat) : Pos := match i with | 0 => ⟨13,9,13,74⟩ | _ => ⟨14,4,14,25⟩
noncomputable abbrev T11h (k : Result → Sem Fin) (i : Nat) : Thread := ⟨denQ treeTable c11, c11, pos11h i, [.ret k none false [] cE ⟨13,9,13,74⟩ [], topFrame default]⟩
noncomputable def k11 (w : World) (os : OsState) : Result → Sem Fin := match goQ tbQ pw w 28 an 1 44 (S11 w os) (thQ (sl 11 1) pos11) with
  | some (_, ⟨_, _, _, .ret k _ _ _ _ _ _ :: _⟩) => k
  | _ => fun _ => .pure (.done .next)
noncomputable abbrev Q11 (j : Nat) : Prop := ∀ (w : World) (os : OsState) (k : Result → Sem Fin) (b : Bool), goQ tbQ pw (fl w b) 28 an 1 270 (S11h (6 * j) (fl w b) os) (T11h k (6 * j)) = some (S11h (6 * (j + 1)) (fl w b) os, T11h k (6 * (j + 1)))
theorem q11n0 : AllTo Q11 0 := trivial
theorem q11n1 : AllTo Q11 1 := ⟨q11n0, by intro w os k b; cases b <;> kernel_rfl⟩
theorem q11n2 : AllTo Q11 2 := ⟨q11n1, by intro w os k b; cases b <;> kernel_rfl⟩
theorem q11n3 : AllTo Q11 3 := ⟨q11n2, by intro w os k b; cases b <;> kernel_rfl⟩
theorem q11n4 : AllTo Q11 4 := ⟨q11n3, by intro w os k b; cases b <;> kernel_rfl⟩
theorem q11n5 : AllTo Q11 5 := ⟨q11n4, by intro w os k b; cases b <;> kernel_rfl⟩
theorem q11n6 : AllTo Q11 6 := ⟨q11n5, by intro w os k b; cases b <;> kernel_rfl⟩
theorem q11n7 : AllTo Q11 7 := ⟨q11n6, by intro w os k b; cases b <;> kernel_rfl⟩
theorem q11n8 : AllTo Q11 8 := ⟨q11n7, by intro w os k b; cases b <;> kernel_rfl⟩
theorem q11n9 : AllTo Q11 9 := ⟨q11n8, by intro w os k b; cases b <;> kernel_rfl⟩
theorem q11n10 : AllTo Q11 10 := ⟨q11n9, by intro w os k b; cases b <;> kernel_rfl⟩
theorem q11n11 : AllTo Q11 11 := ⟨q11n10, by intro w os k b; cases b <;> kernel_rfl⟩
theorem s11a (w : World) (os : OsState) (b : Bool) : goQ tbQ pw (fl w b) 28 an 1 44 (S11 (fl w b) os) (thQ (sl 11 1) pos11) = some (S11h 0 (fl w b) os, T11h (k11 (fl w b) os) 0) := by cases b <;> kernel_rfl
theorem s11c (w : World) (os : OsState) (b : Bool) : segQ tbQ pw (fl w b) 28 an 1 70 (S11h 66 (fl w b) os) (T11h (k11 (fl w b) os) 66) = some (Flow.next, S12 (fl w b) os, cE, pos12) := by cases b <;> kernel_rfl
theorem st11 (w : World) : ∀ os, Piece w 3084 (S11 w os) 11 1 pos11 (S12 w os) pos12 :=
  by1 (P := fun w => ∀ os, Piece w 3084 (S11 w os) 11 1 pos11 (S12 w os) pos12) (fun w b os =>
    loop_piece (S := fun j => S11h (6 * j) _ os) (T := fun j => T11h _ (6 * j)) (m := 11) (s11a w os b) (fun i hi => q11n11.get i hi _ os _ b) (s11c w os b) rfl) w

noncomputable def B13 : List Nat := [32,33,34,35,36,37,38,39,40,41,42,43,44,45,46,47,48,49,50,51,52,53,54,55,56,57,58,59,60,62,63,64,65,66,67,68,69,70,71,72,73,74,75,76,77,78,79,80,81,82,83,84,85,86,87,88,89,90,91,92,93,94,95,96,97,98,99,100,101,102,103,104,105,106,107,108,109,110,111,112,113,114,115,116,117,118,119,120,121,122,123,124,125,126,9]
noncomputable def o13i (i : Nat) : Obj := ⟨.type "bytes_iterator", none, .fields ⟨[.bytes ⟨B13.map UInt8.ofNat⟩ 1542, .int (Int.ofNat i) 0]⟩, ⟨[]⟩⟩
noncomputable def l13 (i : Nat) : List Value := (List.range i).foldl (fun l j => l.set (B13.getD j 0) (.str (st [B13.getD j 0]) (1545 + 3 * j))) all2
noncomputable def o13l (i : Nat) : Obj := ⟨.type "list", none, .seq ⟨l13 i⟩ 0, ⟨[]⟩⟩
noncomputable def o13g (i : Nat) (P : Params) : Obj := match i with
  | 0 => o39 P
  | i + 1 => ⟨.type "dict", none, .dict ⟨ents (o36 P) ++ [⟨PyData.keyHash P (st [99]), .str (st [99]) 1339, .int (Int.ofNat (B13.getD i 0)) (1543 + 3 * i)⟩]⟩ 21, ⟨[]⟩⟩
noncomputable def tr13h (i : Nat) (P : Params) : BT := (.node (o0 P) (.node (o1 P) (.node (o13g i P) (.node (o7 P) (.node (o7 P) (.node (o28 P) .nil .nil) .nil) (.node (o22 P) (.node (o43 P) .nil .nil) .nil)) (.node (o11 P) (.node (o18 P) (.node (o34 P) .nil .nil) .nil) (.node (o26 P) (.node (o7 P) .nil .nil) .nil))) (.node (o5 P) (.node (o9 P) (.node (o16 P) (.node (o32 P) .nil .nil) .nil) (.node (o24 P) (.node (o13l i) .nil .nil) .nil)) (.node (o13 P) (.node (o20 P) (.node (o35 P) .nil .nil) .nil) (.node (o8 P) (.node (o13i i) .nil .nil) .nil)))) (.node (o2 P) (.node (o4 P) (.node (o8 P) (.node (o15 P) (.node (o31 P) .nil .nil) .nil) (.node (o23 P) (.node (o37 P) .nil .nil) .nil)) (.node (o12 P) (.node (o19 P) (.node (o7 P) .nil .nil) .nil) (.node (o7 P) (.node (o42 P) .nil .nil) .nil))) (.node (o6 P) (.node (o10 P) (.node (o17 P) (.node (o33 P) .nil .nil) .nil) (.node (o25 P) (.node (o41 P) .nil .nil) .nil)) (.node (o14 P) (.node (o21 P) (.node (o37 P) .nil .nil) .nil) (.node (o27 P) .nil .nil)))))
noncomputable def S13h (i : Nat) (w : World) (os : OsState) : SharedT := ⟨tr13h i w.params, 46, lf, ⟨[]⟩, dr, 1543 + 3 * i, os⟩
noncomputable def c13 : Code := match sl 13 1 with | [.For t _ b o _] => .forLoop t (.ref 45) b o env | _ => default
noncomputable def pos13h (i : Nat) : Pos := match i with | 0 => ⟨16,9,16,110⟩ | _ => ⟨17,4,17,23⟩
noncomputable abbrev T13h (k : Result → Sem Fin) (i : Nat) : Thread := ⟨denQ treeTable c13, c13, pos13h i, [.ret k none false [] cE ⟨16,9,16,110⟩ [], topFrame default]⟩
noncomputable def k13 (w : World) (os : OsState) : Result → Sem Fin := match goQ tbQ pw w 28 an 1 10 (S13 w os) (thQ (sl 13 1) pos13) with
  | some (_, ⟨_, _, _, .ret k _ _ _ _ _ _ :: _⟩) => k
  | _ => fun _ => .pure (.done .next)
noncomputable abbrev Q13 (j : Nat) : Prop := ∀ (w : World) (os : OsState) (k : Result → Sem Fin) (b : Bool), goQ tbQ pw (fl w b) 28 an 1 225 (S13h (5 * j) (fl w b) os) (T13h k (5 * j)) = some (S13h (5 * (j + 1)) (fl w b) os, T13h k (5 * (j + 1)))
theorem q13n0 : AllTo Q13 0 := trivial
theorem q13n1 : AllTo Q13 1 := ⟨q13n0, by intro w os k b; cases b <;> kernel_rfl⟩
theorem q13n2 : AllTo Q13 2 := ⟨q13n1, by intro w os k b; cases b <;> kernel_rfl⟩
theorem q13n3 : AllTo Q13 3 := ⟨q13n2, by intro w os k b; cases b <;> kernel_rfl⟩
theorem q13n4 : AllTo Q13 4 := ⟨q13n3, by intro w os k b; cases b <;> kernel_rfl⟩
theorem q13n5 : AllTo Q13 5 := ⟨q13n4, by intro w os k b; cases b <;> kernel_rfl⟩
theorem q13n6 : AllTo Q13 6 := ⟨q13n5, by intro w os k b; cases b <;> kernel_rfl⟩
theorem q13n7 : AllTo Q13 7 := ⟨q13n6, by intro w os k b; cases b <;> kernel_rfl⟩
theorem q13n8 : AllTo Q13 8 := ⟨q13n7, by intro w os k b; cases b <;> kernel_rfl⟩
theorem q13n9 : AllTo Q13 9 := ⟨q13n8, by intro w os k b; cases b <;> kernel_rfl⟩
theorem q13n10 : AllTo Q13 10 := ⟨q13n9, by intro w os k b; cases b <;> kernel_rfl⟩
theorem q13n11 : AllTo Q13 11 := ⟨q13n10, by intro w os k b; cases b <;> kernel_rfl⟩
theorem q13n12 : AllTo Q13 12 := ⟨q13n11, by intro w os k b; cases b <;> kernel_rfl⟩
theorem q13n13 : AllTo Q13 13 := ⟨q13n12, by intro w os k b; cases b <;> kernel_rfl⟩
theorem q13n14 : AllTo Q13 14 := ⟨q13n13, by intro w os k b; cases b <;> kernel_rfl⟩
theorem q13n15 : AllTo Q13 15 := ⟨q13n14, by intro w os k b; cases b <;> kernel_rfl⟩
theorem q13n16 : AllTo Q13 16 := ⟨q13n15, by intro w os k b; cases b <;> kernel_rfl⟩
theorem q13n17 : AllTo Q13 17 := ⟨q13n16, by intro w os k b; cases b <;> kernel_rfl⟩
theorem q13n18 : AllTo Q13 18 := ⟨q13n17, by intro w os k b; cases b <;> kernel_rfl⟩
theorem q13n19 : AllTo Q13 19 := ⟨q13n18, by intro w os k b; cases b <;> kernel_rfl⟩
theorem s13a (w : World) (os : OsState) (b : Bool) : goQ tbQ pw (fl w b) 28 an 1 10 (S13 (fl w b) os) (thQ (sl 13 1) pos13) = some (S13h 0 (fl w b) os, T13h (k13 (fl w b) os) 0) := by cases b <;> kernel_rfl
theorem s13c (w : World) (os : OsState) (b : Bool) : segQ tbQ pw (fl w b) 28 an 1 30 (S13h 95 (fl w b) os) (T13h (k13 (fl w b) os) 95) = some (Flow.next, S14 (fl w b) os, cE, pos14) := by cases b <;> kernel_rfl
theorem st13 (w : World) : ∀ os, Piece w 4315 (S13 w os) 13 1 pos13 (S14 w os) pos14 :=
  by1 (P := fun w => ∀ os, Piece w 4315 (S13 w os) 13 1 pos13 (S14 w os) pos14) (fun w b os =>
    loop_piece (S := fun j => S13h (5 * j) _ os) (T := fun j => T13h _ (5 * j)) (m := 19) (s13a w os b) (fun i hi => q13n19.get i hi _ os _ b) (s13c w os b) rfl) w

/-! the top, from its start to its end -/
noncomputable def H0 (P : Params) : Heap := ⟨⟨[o0 P, o1 P, o2 P, o3 P, o4 P, o5 P, o6 P, o7 P, o8 P, o9 P, o10 P, o11 P, o12 P, o13 P, o14 P, o7 P, o15 P, o16 P, o17 P, o18 P, o19 P, o20 P, o21 P, o22 P, o23 P, o24 P, o25 P, o26 P]⟩, lf⟩
noncomputable def Ha (P : Params) : Heap := ⟨⟨[o0 P, o1 P, o2 P, o3 P, o4 P, o5 P, o6 P, o7 P, o8 P, o9 P, o10 P, o11 P, o12 P, o13 P, o14 P, o7 P, o15 P, o16 P, o17 P, o18 P, o19 P, o20 P, o21 P, o22 P, o23 P, o24 P, o25 P, o26 P, o7 P, o8 P, o27 P, o28 P]⟩, lf⟩
noncomputable def H1 (P : Params) : Heap := ⟨⟨[o0 P, o1 P, o2 P, o88 P, o4 P, o5 P, o6 P, o7 P, o8 P, o9 P, o10 P, o11 P, o12 P, o13 P, o14 P, o7 P, o15 P, o16 P, o17 P, o18 P, o19 P, o20 P, o21 P, o22 P, o23 P, o24 P, o25 P, o26 P, o7 P, o89 P, o27 P, o28 P, o31 P, o32 P, o33 P, o34 P, o7 P, o35 P, o37 P, o43 P, o37 P, o45 P, o41 P, o7 P, o42 P, o46 P, o7 P, o47 P, o7 P, o8 P, o50 P, o7 P, o51 P, o52 P, o53 P, o7 P, o8 P, o54 P, o7 P, o55 P, o56 P, o57 P, o37 P, o58 P, o59 P, o7 P, o60 P, o61 P, o7 P, o8 P, o62 P, o7 P, o63 P, o64 P, o65 P, o66 P, o7 P, o8 P, o67 P, o7 P, o68 P, o69 P, o70 P, o73 P, o6 P, o74 P, o75 P, o76 P, o7 P, o8 P, o77 P, o7 P, o78 P, o79 P, o80 P, o81 P, o6 P, o82 P, o83 P, o84 P, o85 P, o6 P, o82 P, o86 P, o87 P, o90 P, o6 P, o82 P, o91 P, o92 P, o93 P, o6 P, o82 P, o94 P, o95 P, o7 P, o8 P, o96 P, o7 P, o97 P, o98 P, o99 P, o7 P, o8 P, o100 P, o7 P, o101 P, o102 P, o103 P, o7 P, o8 P, o104 P, o7 P, o105 P, o106 P, o107 P, o7 P, o8 P, o108 P, o7 P, o109 P, o110 P, o111 P, o7 P, o8 P, o112 P, o7 P, o113 P, o114 P, o115 P, o7 P, o8 P, o116 P, o117 P, o118 P]⟩, lf⟩
theorem pre_ (w : World) (os : OsState) : topGo treeTable pw w 28 an 12 ⟨H0 w.params, ⟨[]⟩, dr, 276, os⟩ (topStub pw) = some (⟨Ha w.params, ⟨[]⟩, dr, 282, os⟩, ⟨denote treeTable cE, cE, ⟨0,0,0,0⟩, [topFrame default]⟩) := by
  rw [PySem.W.Fast.te15667345088766844465, PySem.W.Fast.te14364793385576792824, PySem.W.Fast.te11892475500146522536]
  kernel_rfl
theorem block_ (w : World) (os : OsState) : segRun treeTable pw w 28 an 1 1 ⟨Ha w.params, ⟨[]⟩, dr, 282, os⟩ (blockOf bd env cE ⟨0,0,0,0⟩ [topFrame default]) = some (Flow.next, (S0 w os).abs, cE, pos0) := by
  kernel_rfl
theorem fin_ (w : World) (os : OsState) : topRun treeTable pw w 28 an 2 (S35 w os).abs ⟨doneF .next, cE, pos35, [topFrame default]⟩ = some ⟨H1 w.params, ⟨[]⟩, dr, 2194, os⟩ := by
  rw [PySem.W.Fast.te14082659384304107361, PySem.W.Fast.te14364793385576792824]
  kernel_rfl
theorem bd_split : bd = sl 0 2 ++ (sl 2 1 ++ (sl 3 8 ++ (sl 11 1 ++ (sl 12 1 ++ (sl 13 1 ++ (sl 14 7 ++ (sl 21 5 ++ (sl 26 9 ++ [])))))))) := by kernel_rfl
theorem run_ (w : World) (os : OsState) : topRun treeTable pw w 28 an 18500 ⟨H0 w.params, ⟨[]⟩, dr, 276, os⟩ (topStub pw) = some ⟨H1 w.params, ⟨[]⟩, dr, 2194, os⟩ := by
  have k := piece_app (st26 w os) (piece_nil (fin_ w os))
  have k := piece_app (st21 w os) k
  have k := piece_app (st14 w os) k
  have k := piece_app (st13 w os) k
  have k := piece_app (st12 w os) k
  have k := piece_app (st11 w os) k
  have k := piece_app (st3 w os) k
  have k := piece_app (st2 w os) k
  have k := piece_app (st0 w os) k
  rw [← bd_split] at k
  have k := go_top (pre_ w os) (piece_block (block_ w os) k)
  exact topRun_mono 282 _ _ _ _ k

/-! the opening -/
noncomputable abbrev impQ := PySem.W.Fast.tw14789777615569096658
noncomputable abbrev startQ := PySem.W.Fast.tw1435165496053646825
noncomputable def Sz (os : OsState) : SharedT := ⟨.nil, 0, {}, ⟨[]⟩, {}, 1, os⟩
theorem imp1 (w : World) (os : OsState) : (impGoT treeTable (opening pw) w 798 (Sz os) (start (opening pw)).2).map (fun x => (x.1, x.2.atExitBegin)) = some (Se w os, some []) := by
  rw [PySem.W.Fast.te14789777615569096658, PySem.W.Fast.te14364793385576792824, PySem.W.Fast.te1435165496053646825]
  kernel_rfl
theorem imp2 {w : World} {s : Shared} {t : Thread} (h : t.atExitBegin = some []) : importEnds treeTable (opening pw) w 1 s t = some s := by
  unfold importEnds
  rw [h]
noncomputable def He (P : Params) : Heap := absHeap (tre P) 28 lf
theorem start1 : (Sz (start (opening pw)).1.os).abs = (start (opening pw)).1 := by kernel_rfl
theorem se_abs (w : World) (os : OsState) : (Se w os).abs = ⟨He w.params, ⟨[]⟩, dr, 276, os⟩ := by kernel_rfl
theorem imp3 {w : World} {os : OsState} {t0 : Thread} {r : Shared} (h : (impGoT treeTable (opening pw) w 798 (Sz os) t0).map (fun x => (x.1, x.2.atExitBegin)) = some (Se w os, some []))
    (hr : (Se w os).abs = r) : importEnds treeTable (opening pw) w 799 (Sz os).abs t0 = some r := by
  obtain ⟨⟨s, t⟩, h, e⟩ := Option.map_eq_some_iff.mp h
  obtain ⟨e1, e2⟩ := Prod.mk.inj e
  have k := imp_go (impGo_of h) (imp2 e2)
  rw [show s = Se w os from e1, hr] at k
  exact k
theorem imp_ (w : World) : importEnds treeTable (opening pw) w 799 (start (opening pw)).1 (start (opening pw)).2 = some ⟨He w.params, ⟨[]⟩, dr, 276, (start (opening pw)).1.os⟩ :=
  Eq.mp (congrArg (fun s => importEnds treeTable (opening pw) w 799 s (start (opening pw)).2 = some ⟨He w.params, ⟨[]⟩, dr, 276, (start (opening pw)).1.os⟩) start1)
    (imp3 (imp1 w (start (opening pw)).1.os) (se_abs w _))
theorem fence_ (w : World) : (fun os => (fenceModules? pw ⟨He w.params, ⟨[]⟩, dr, 276, os⟩).map (fun s => (s.heap, s.gens, s.drawn, s.toks))) = fun _ => some (H0 w.params, ⟨[]⟩, dr, 276) := by
  rw [PySem.W.Fast.te14289696077712309145]
  kernel_rfl
theorem open_ : ∀ w : World, (fencedOpening treeTable pw w 36298).map (fun s => (s.heap, s.gens, s.drawn, s.toks)) = some (H0 w.params, ⟨[]⟩, dr, 276) :=
  open_cut imp_ (by decide) fence_
theorem size_ (w : World) : ((H0 w.params).isNs mainGlobals && (⟨[]⟩ : Array GenState).size == 0, (H0 w.params).objs.size, (H0 w.params).nsMap mainGlobals "__annotations__") = (true, 28, an) := by
  rw [PySem.W.Fast.te8920871248978507458]
  kernel_rfl

/-! what the top leaves -/
noncomputable abbrev vw : Program := view pw [0, 1, 2, 3, 4, 5, 6, 7, 8, 9, 10, 15, 16, 17, 23, 24, 25, 26, 27, 28, 29, 31, 32, 33, 34, 35]
noncomputable abbrev loo : List Str := [Str.ofString "_QUOPRI_MAP", Str.ofString "_QUOPRI_HEADER_MAP", Str.ofString "_QUOPRI_BODY_MAP", Str.ofString "ascii_letters", Str.ofString "hexdigits", Str.ofString "_QUOPRI_BODY_ENCODE_MAP", Str.ofString "body_encode", Str.ofString "decode", Str.ofString "_twin_re_5", Str.ofString "HEADER_TOKEN_RE", Str.ofString "HEADER_QUOTED_VALUE_RE", Str.ofString "HEADER_VALUE_RE", Str.ofString "HEADER_ESCAPE_RE"]
noncomputable abbrev lvs : List (Str × WData) := [(Str.ofString "ascii_letters", .str ⟨#[97, 98, 99, 100, 101, 102, 103, 104, 105, 106, 107, 108, 109, 110, 111, 112, 113, 114, 115, 116, 117, 118, 119, 120, 121, 122, 65, 66, 67, 68, 69, 70, 71, 72, 73, 74, 75, 76, 77, 78, 79, 80, 81, 82, 83, 84, 85, 86, 87, 88, 89, 90]⟩), (Str.ofString "hexdigits", .str ⟨#[48, 49, 50, 51, 52, 53, 54, 55, 56, 57, 97, 98, 99, 100, 101, 102, 65, 66, 67, 68, 69, 70]⟩)]
noncomputable abbrev hk : Hook := kHook hK [2, 3, 6, 11, 12, 34, 39, 41, 48, 50, 51, 53, 54, 55, 57, 58, 60, 61, 63, 67, 68, 70, 71, 73, 74, 75, 76, 78, 79, 81, 82, 86, 87, 88, 90, 91, 93, 94, 98, 99, 103, 104, 108, 109, 113, 114, 115, 117, 118, 120, 121, 122, 124, 125, 127, 128, 129, 131, 132, 134, 135, 136, 138, 139, 141, 142, 143, 145, 146, 148, 149, 150, 153, 154] (fun _ => by kernel_rfl)
noncomputable abbrev xt (s : Shared) : Bool := xlAt vw lvs s && recOk (RowW.records PySem.Challenge.rw_qu0048_01.row.toRowW) s
noncomputable abbrev Looks (w : World) : Prop := (fun os => ((staticsOk (importedModules pw.main.body) (H0 w.params) (H1 w.params) && namesBound pw (H1 w.params) && gensDone ⟨H1 w.params, ⟨[]⟩, dr, 2194, os⟩ && laidKept (H0 w.params) (H1 w.params)),
        openSeen vw loo (importedModules pw.main.body) xt true ⟨H1 w.params, ⟨[]⟩, dr, 2194, os⟩, hk.obs ⟨H1 w.params, ⟨[]⟩, dr, 2194, os⟩)) = fun _ => (true, openGood vw loo, hk.val w)
theorem lk1 (w : World) (os : OsState) : (staticsOk (importedModules pw.main.body) (H0 w.params) (H1 w.params) && namesBound pw (H1 w.params) && gensDone ⟨H1 w.params, ⟨[]⟩, dr, 2194, os⟩ && laidKept (H0 w.params) (H1 w.params)) = true := by
  rw [PySem.W.Fast.te5923862056798008813]
  kernel_rfl
theorem lk2 (w : World) (os : OsState) : openSeen vw loo (importedModules pw.main.body) xt true ⟨H1 w.params, ⟨[]⟩, dr, 2194, os⟩ = openGood vw loo := by
  rw [PySem.W.Fast.te5923862056798008813, PySem.W.Fast.te4187177175401517315]
  kernel_rfl
theorem lk3 (w : World) (os : OsState) : hk.obs ⟨H1 w.params, ⟨[]⟩, dr, 2194, os⟩ = hk.val w := by
  kernel_rfl
theorem looks_ (w : World) : Looks w := by
  funext os
  exact looks_pair (lk1 w os) (looks_pair (lk2 w os) (lk3 w os))
theorem left : LeftO pw vw loo xt hk.obs hk.val 36298 := LeftO.of_pieces open_ size_ run_ (by decide) looks_
end
end Hd
end
section
open PySem PySem.Spec PySem.Calls PySem.W PyProof.Rows Mine
theorem PySem.Challenge.cw_qu0048_01_holds : PySem.Challenge.rw_qu0048_01.Holds := by
  w_on
  refine holds_law (by kernel_rfl) fun said => ?_
  refine holds_open (q := Hd.vw) (loose := Hd.loo) (Xt := Hd.xt) (XP := XL Hd.vw Hd.lvs) (Yf := Hook.obs Hd.hk) (Ya := Hook.val Hd.hk) (YP := Hook.says Hd.hk) (N := 36298) Hd.left (Hook.of Hd.hk) (Hook.keeps Hd.hk) (fun s e => xl_of s (Bool.and_eq_true_iff.mp e).1) XL.keeps (by rfl) (by rfl) (by rfl) (fun s e => recFacts_of (Bool.and_eq_true_iff.mp e).2) (by rfl) (by first | assumption | decide +kernel) (by decide +kernel) ⟨rfl, rfl, rfl, rfl, rfl, by decide +kernel⟩ ?hw ?hc
  case hw => w_witness2
  intro w s₀ s₁ mg mb G Y fa o pm cd doc dV kV ho hd hcd hD hmg hg args vals as hpre hlay hrd hwl hlo
  have KX := kIn_of Y
  have hfa : fa = 154 := by
    refine (Ground.open (P := fa = 154) G ?_)
    intro T _ _ _ _
    obtain ⟨o, es, ep, ho, hd, hk, hf⟩ := T.g
    have hx := KX 3 _ rfl
    rw [show mainGlobals = 3 from rfl, hx] at ho
    cases ho
    cases hd
    have h2 := (hf (Str.ofString "law")).trans hmg
    have h3 : some (Value.ref 154) = some (Value.ref fa) := by rw [← h2]; kernel_rfl
    cases h3; rfl
  subst hfa
  refine Ground.open G ?_
  intro T B D TE TW
  try (refine guard_noD D (by decide +kernel) ?_; clear D)
  wrow_args hpre hlay hrd hwl hlo
  first | refine callC_kw (enter_call ?_) | refine enter_call ?_
  rename IntsAre _ _ => hI
  rename Heap.IsList _ _ _ => hL
  rename ¬ ((63 : Nat) : Int) < _ => hcond
  refine Mine.law_ w _ _ _ _ _ (1 + claimMargin) 4 (some []) (some []) s₁ _ _ _ _ KX T (by decide) (by decide) hL hI (by omega) ?_
  intro h' tk' st
  refine GoodW.toG ⟨.inl ⟨.bool true, .bool true, [], rfl, fun _ => rfl, .bool true, by first | with_unfolding_all rfl | kernel_rfl, fun _ => ⟨List.nodup_nil, fun _ h => nomatch h⟩⟩, st, rfl, hg⟩
end
