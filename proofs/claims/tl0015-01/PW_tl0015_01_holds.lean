import PyProof.Rows.All
import Wide.All
import OpenK.AllK
import Wide.FinOn
import PySem.Challenge.RW_tl0015_01
open PySem PySem.W PyProof.Rows
set_option Elab.async false
section
open PySem PySem.W PyProof.Rows
namespace Mine
/-- a def of the text: its parameters, its body, its scope -/
noncomputable def defAtRow (n : Nat) : Option (Arguments × List Stmt × Scope) := match PySem.Challenge.pw_tl0015_01.main.body.drop n with
  | .FunctionDef _ a b _ _ _ s _ _ _ :: _ => some (a, b, s)
  | _ => none
set_option maxRecDepth 100000 in
set_option maxHeartbeats 4000000 in
/-- the part of the heap that the walk reads, as the top leaves it -/
noncomputable def KK : Params → Frag := (fun (a38 : Arguments) (b38 : List Stmt) (s38 : Scope) (_ : defAtRow 3 = some (a38, b38, s38))
  (a45 : Arguments) (b45 : List Stmt) (s45 : Scope) (_ : defAtRow 4 = some (a45, b45, s45))
  (a52 : Arguments) (b52 : List Stmt) (s52 : Scope) (_ : defAtRow 6 = some (a52, b52, s52))
  (a69 : Arguments) (b69 : List Stmt) (s69 : Scope) (_ : defAtRow 11 = some (a69, b69, s69))
  (a79 : Arguments) (b79 : List Stmt) (s79 : Scope) (_ : defAtRow 63 = some (a79, b79, s79))
  (a84 : Arguments) (b84 : List Stmt) (s84 : Scope) (_ : defAtRow 65 = some (a84, b84, s84))
  (a89 : Arguments) (b89 : List Stmt) (s89 : Scope) (_ : defAtRow 66 = some (a89, b89, s89))
  (a94 : Arguments) (b94 : List Stmt) (s94 : Scope) (_ : defAtRow 67 = some (a94, b94, s94))
  (a99 : Arguments) (b99 : List Stmt) (s99 : Scope) (_ : defAtRow 68 = some (a99, b99, s99))
  (a106 : Arguments) (b106 : List Stmt) (s106 : Scope) (_ : defAtRow 69 = some (a106, b106, s106))
  (a111 : Arguments) (b111 : List Stmt) (s111 : Scope) (_ : defAtRow 70 = some (a111, b111, s111))
  (a118 : Arguments) (b118 : List Stmt) (s118 : Scope) (_ : defAtRow 71 = some (a118, b118, s118))
  (a123 : Arguments) (b123 : List Stmt) (s123 : Scope) (_ : defAtRow 72 = some (a123, b123, s123))
  (a128 : Arguments) (b128 : List Stmt) (s128 : Scope) (_ : defAtRow 73 = some (a128, b128, s128))
  => fun P => ((
  (nat_lit 2, ⟨.none, .none, .dict #[⟨PySem.PyData.keyHash P "\x69mport.loaded._sre", .str "\x69mport.loaded._sre" 183, .bool true⟩, ⟨PySem.PyData.keyHash P "class._frozen_\x69mportlib.BuiltinImporter", .str "class._frozen_\x69mportlib.BuiltinImporter" 185, .ref 14⟩, ⟨PySem.PyData.keyHash P "watched.\x69mport", .str "watched.\x69mport" 206, .ref 18⟩, ⟨PySem.PyData.keyHash P "class._frozen_\x69mportlib.ModuleSpec", .str "class._frozen_\x69mportlib.ModuleSpec" 216, .ref 22⟩, ⟨PySem.PyData.keyHash P "sys.modules.booked-epoch", .str "sys.modules.booked-epoch" 245, .int 3 0⟩, ⟨PySem.PyData.keyHash P "\x69mport.later-laid._sre", .str "\x69mport.later-laid._sre" 270, .bool true⟩, ⟨PySem.PyData.keyHash P "watched.library", .str "watched.library" 272, .ref 27⟩, ⟨PySem.PyData.keyHash P "watched.library-objects", .str "watched.library-objects" 0, .str "\x0c" 0⟩, ⟨PySem.PyData.keyHash P "watched.library-deep._sre", .str "watched.library-deep._sre" 273, .str "\x04\x00\x00\x0b\x04\x00\x00\x0b\x04\x00\x00\x03\x04\x00\x00\x0b\x08\x04dict\x02" 0⟩] 9, #[]⟩) ::
  (nat_lit 3, ⟨.type "dict", .none, .dict (List.toArray (⟨PySem.PyData.keyHash P "__name__", .str "__name__" 165, .str "law_tl0015_01" 611⟩ :: ⟨PySem.PyData.keyHash P "__doc__", .str "__doc__" 166, .none⟩ :: ⟨PySem.PyData.keyHash P "__package__", .str "__package__" 167, .none⟩ :: ⟨PySem.PyData.keyHash P "__loader__", .str "__loader__" 168, .builtin "__main__.__loader__#\x6fpaque"⟩ :: ⟨PySem.PyData.keyHash P "__spec__", .str "__spec__" 169, .none⟩ :: ⟨PySem.PyData.keyHash P "__\x61n\x6eotations__", .str "__\x61n\x6eotations__" 170, .ref 6⟩ :: ⟨PySem.PyData.keyHash P "__builtins__", .str "__builtins__" 171, .ref 4⟩ :: ⟨PySem.PyData.keyHash P "__file__", .str "__file__" 173, .str "/claim/cut.py" 172⟩ :: ⟨PySem.PyData.keyHash P "__cached__", .str "__cached__" 174, .none⟩ :: ⟨PySem.PyData.keyHash P "_sre", .str "_sre" 275, .ref 12⟩ :: ⟨PySem.PyData.keyHash P "_DIV_LIMIT", .str "_DIV_LIMIT" 285, .int 4000 284⟩ :: ⟨PySem.PyData.keyHash P "_div2n1n", .str "_div2n1n" 302, .ref 38⟩ :: ⟨PySem.PyData.keyHash P "_div3n2n", .str "_div3n2n" 316, .ref 45⟩ :: ⟨PySem.PyData.keyHash P "rgb_to_hls", .str "rgb_to_hls" 337, .ref 52⟩ :: ⟨PySem.PyData.keyHash P "_twin_re_1", .str "_twin_re_1" 355, .ref 57⟩ :: ⟨PySem.PyData.keyHash P "_twin_re_2", .str "_twin_re_2" 397, .ref 62⟩ :: ⟨PySem.PyData.keyHash P "CRLF", .str "CRLF" 399, .str "\r\n" 398⟩ :: ⟨PySem.PyData.keyHash P "quotedata", .str "quotedata" 406, .ref 69⟩ :: ⟨PySem.PyData.keyHash P "LPAR", .str "LPAR" 410, .int 7 409⟩ :: ⟨PySem.PyData.keyHash P "RPAR", .str "RPAR" 412, .int 8 411⟩ :: ⟨PySem.PyData.keyHash P "LSQB", .str "LSQB" 414, .int 9 413⟩ :: ⟨PySem.PyData.keyHash P "RSQB", .str "RSQB" 416, .int 10 415⟩ :: ⟨PySem.PyData.keyHash P "COLON", .str "COLON" 418, .int 11 417⟩ :: ⟨PySem.PyData.keyHash P "COMMA", .str "COMMA" 420, .int 12 419⟩ :: ⟨PySem.PyData.keyHash P "SEMI", .str "SEMI" 422, .int 13 421⟩ :: ⟨PySem.PyData.keyHash P "PLUS", .str "PLUS" 424, .int 14 423⟩ :: ⟨PySem.PyData.keyHash P "MINUS", .str "MINUS" 426, .int 15 425⟩ :: ⟨PySem.PyData.keyHash P "STAR", .str "STAR" 428, .int 16 427⟩ :: ⟨PySem.PyData.keyHash P "SLASH", .str "SLASH" 430, .int 17 429⟩ :: ⟨PySem.PyData.keyHash P "VBAR", .str "VBAR" 432, .int 18 431⟩ :: ⟨PySem.PyData.keyHash P "AMPER", .str "AMPER" 434, .int 19 433⟩ :: ⟨PySem.PyData.keyHash P "LESS", .str "LESS" 436, .int 20 435⟩ :: ⟨PySem.PyData.keyHash P "GREATER", .str "GREATER" 438, .int 21 437⟩ :: ⟨PySem.PyData.keyHash P "EQUAL", .str "EQUAL" 440, .int 22 439⟩ :: ⟨PySem.PyData.keyHash P "DOT", .str "DOT" 442, .int 23 441⟩ :: ⟨PySem.PyData.keyHash P "PERCENT", .str "PERCENT" 444, .int 24 443⟩ :: ⟨PySem.PyData.keyHash P "LBRACE", .str "LBRACE" 446, .int 25 445⟩ :: ⟨PySem.PyData.keyHash P "RBRACE", .str "RBRACE" 448, .int 26 447⟩ :: ⟨PySem.PyData.keyHash P "EQEQUAL", .str "EQEQUAL" 450, .int 27 449⟩ :: ⟨PySem.PyData.keyHash P "NOTEQUAL", .str "NOTEQUAL" 452, .int 28 451⟩ :: ⟨PySem.PyData.keyHash P "LESSEQUAL", .str "LESSEQUAL" 454, .int 29 453⟩ :: ⟨PySem.PyData.keyHash P "GREATEREQUAL", .str "GREATEREQUAL" 456, .int 30 455⟩ :: ⟨PySem.PyData.keyHash P "TILDE", .str "TILDE" 458, .int 31 457⟩ :: ⟨PySem.PyData.keyHash P "CIRCUMFLEX", .str "CIRCUMFLEX" 460, .int 32 459⟩ :: ⟨PySem.PyData.keyHash P "LEFTSHIFT", .str "LEFTSHIFT" 462, .int 33 461⟩ :: ⟨PySem.PyData.keyHash P "RIGHTSHIFT", .str "RIGHTSHIFT" 464, .int 34 463⟩ :: ⟨PySem.PyData.keyHash P "DOUBLESTAR", .str "DOUBLESTAR" 466, .int 35 465⟩ :: ⟨PySem.PyData.keyHash P "PLUSEQUAL", .str "PLUSEQUAL" 468, .int 36 467⟩ :: ⟨PySem.PyData.keyHash P "MINEQUAL", .str "MINEQUAL" 470, .int 37 469⟩ :: ⟨PySem.PyData.keyHash P "STAREQUAL", .str "STAREQUAL" 472, .int 38 471⟩ :: ⟨PySem.PyData.keyHash P "SLASHEQUAL", .str "SLASHEQUAL" 474, .int 39 473⟩ :: ⟨PySem.PyData.keyHash P "PERCENTEQUAL", .str "PERCENTEQUAL" 476, .int 40 475⟩ :: ⟨PySem.PyData.keyHash P "AMPEREQUAL", .str "AMPEREQUAL" 478, .int 41 477⟩ :: ⟨PySem.PyData.keyHash P "VBAREQUAL", .str "VBAREQUAL" 480, .int 42 479⟩ :: ⟨PySem.PyData.keyHash P "CIRCUMFLEXEQUAL", .str "CIRCUMFLEXEQUAL" 482, .int 43 481⟩ :: ⟨PySem.PyData.keyHash P "LEFTSHIFTEQUAL", .str "LEFTSHIFTEQUAL" 484, .int 44 483⟩ :: ⟨PySem.PyData.keyHash P "RIGHTSHIFTEQUAL", .str "RIGHTSHIFTEQUAL" 486, .int 45 485⟩ :: ⟨PySem.PyData.keyHash P "DOUBLESTAREQUAL", .str "DOUBLESTAREQUAL" 488, .int 46 487⟩ :: ⟨PySem.PyData.keyHash P "DOUBLESLASH", .str "DOUBLESLASH" 490, .int 47 489⟩ :: ⟨PySem.PyData.keyHash P "DOUBLESLASHEQUAL", .str "DOUBLESLASHEQUAL" 492, .int 48 491⟩ :: ⟨PySem.PyData.keyHash P "AT", .str "AT" 494, .int 49 493⟩ :: ⟨PySem.PyData.keyHash P "ATEQUAL", .str "ATEQUAL" 496, .int 50 495⟩ :: ⟨PySem.PyData.keyHash P "RARROW", .str "RARROW" 498, .int 51 497⟩ :: ⟨PySem.PyData.keyHash P "ELLIPSIS", .str "ELLIPSIS" 500, .int 52 499⟩ :: ⟨PySem.PyData.keyHash P "COLONEQUAL", .str "COLONEQUAL" 502, .int 53 501⟩ :: ⟨PySem.PyData.keyHash P "EXCLAMATION", .str "EXCLAMATION" 504, .int 54 503⟩ :: ⟨PySem.PyData.keyHash P "NT_OFFSET", .str "NT_OFFSET" 506, .int 256 505⟩ :: ⟨PySem.PyData.keyHash P "EXACT_TOKEN_TYPES", .str "EXACT_TOKEN_TYPES" 603, .ref 70⟩ :: ⟨PySem.PyData.keyHash P "ISTERMINAL", .str "ISTERMINAL" 610, .ref 79⟩ :: ⟨PySem.PyData.keyHash P "_law_draws", .str "_law_draws" 618, .ref 84⟩ :: ⟨PySem.PyData.keyHash P "_law_tokens", .str "_law_tokens" 624, .ref 89⟩ :: ⟨PySem.PyData.keyHash P "_law_road", .str "_law_road" 630, .ref 94⟩ :: ⟨PySem.PyData.keyHash P "_law_cuts", .str "_law_cuts" 636, .ref 99⟩ :: ⟨PySem.PyData.keyHash P "_law_exits", .str "_law_exits" 647, .ref 106⟩ :: ⟨PySem.PyData.keyHash P "_law_flow", .str "_law_flow" 653, .ref 111⟩ :: ⟨PySem.PyData.keyHash P "_law_goods", .str "_law_goods" 665, .ref 118⟩ :: ⟨PySem.PyData.keyHash P "_law_divided", .str "_law_divided" 671, .ref 123⟩ :: ⟨PySem.PyData.keyHash P "law", .str "law" 677, .ref 128⟩ :: [])) 78, #[]⟩) ::
  (nat_lit 6, ⟨.type "dict", .none, .dict #[] 0, #[]⟩) ::
  (nat_lit 11, ⟨.type "dict", .none, .dict #[⟨PySem.PyData.keyHash P "__name__", .str "__name__" 247, .str "_sre" 246⟩, ⟨PySem.PyData.keyHash P "__doc__", .str "__doc__" 248, .none⟩, ⟨PySem.PyData.keyHash P "__package__", .str "__package__" 250, .str "" 249⟩, ⟨PySem.PyData.keyHash P "__loader__", .str "__loader__" 251, .builtin "off-the-table:_sre.__loader__:shared#\x6fpaque"⟩, ⟨PySem.PyData.keyHash P "__spec__", .str "__spec__" 252, .builtin "off-the-table:_sre.__spec__:shared#\x6fpaque"⟩, ⟨PySem.PyData.keyHash P "compile", .str "compile" 253, .builtin "_sre.compile"⟩, ⟨PySem.PyData.keyHash P "template", .str "template" 254, .builtin "off-the-table:_sre.template:shared#\x6fpaque"⟩, ⟨PySem.PyData.keyHash P "getcodesize", .str "getcodesize" 255, .builtin "off-the-table:_sre.getcodesize:shared#\x6fpaque"⟩, ⟨PySem.PyData.keyHash P "ascii_iscased", .str "ascii_iscased" 256, .builtin "off-the-table:_sre.ascii_iscased:shared#\x6fpaque"⟩, ⟨PySem.PyData.keyHash P "unicode_iscased", .str "unicode_iscased" 257, .builtin "off-the-table:_sre.unicode_iscased:shared#\x6fpaque"⟩, ⟨PySem.PyData.keyHash P "ascii_tolower", .str "ascii_tolower" 258, .builtin "off-the-table:_sre.ascii_tolower:shared#\x6fpaque"⟩, ⟨PySem.PyData.keyHash P "unicode_tolower", .str "unicode_tolower" 259, .builtin "off-the-table:_sre.unicode_tolower:shared#\x6fpaque"⟩, ⟨PySem.PyData.keyHash P "MAGIC", .str "MAGIC" 261, .int 20230612 260⟩, ⟨PySem.PyData.keyHash P "CODESIZE", .str "CODESIZE" 263, .int 4 262⟩, ⟨PySem.PyData.keyHash P "MAXREPEAT", .str "MAXREPEAT" 265, .int 4294967295 264⟩, ⟨PySem.PyData.keyHash P "MAXGROUPS", .str "MAXGROUPS" 267, .int 1073741823 266⟩, ⟨PySem.PyData.keyHash P "copyright", .str "copyright" 269, .str " SRE 2.2.2 Copyright (c) 1997-2002 by Secret Labs AB " 268⟩] 17, #[]⟩) ::
  (nat_lit 12, ⟨.type "module", .some 11, .plain, #[]⟩) ::
  (nat_lit 32, ⟨.type "tuple", .none, .seq #[] 0, #[]⟩) ::
  (nat_lit 34, ⟨.type "tuple", .none, .seq #[.str "a" 289, .str "b" 290, .str "n" 291, .str "pad" 292, .str "half_n" 293, .str "mask" 294, .str "b1" 295, .str "b2" 296, .str "q1" 297, .str "r" 298, .str "q2" 299] 0, #[]⟩) ::
  (nat_lit 35, ⟨.type "tuple", .none, .seq #[] 0, #[]⟩) ::
  (nat_lit 37, ⟨.type "code", .none, .fields #[.str "_div2n1n" 286, .str "_div2n1n" 287, .str "/claim/cut.py" 288, .int 4 0, .int 3 0, .int 0 0, .int 0 0, .int 3 0, .ref 32, .bool true, .int 276 0, .ref 33, .none, .ref 34, .ref 35, .ref 36, .int 300 0, .int 4 0, .str "/claim/cut.py" 301], #[]⟩) ::
  (nat_lit 38, ⟨.type "function", none, .func ⟨"_div2n1n", "_div2n1n", a38, (.stmts b38), s38, 3, [], .none, .none, .none, .str "cpy313._pylong" 282, .none, .ref 37, .none, 0⟩, #[]⟩) ::
  (nat_lit 39, ⟨.type "tuple", .none, .seq #[] 0, #[]⟩) ::
  (nat_lit 41, ⟨.type "tuple", .none, .seq #[.str "a12" 306, .str "a3" 307, .str "b" 308, .str "b1" 309, .str "b2" 310, .str "n" 311, .str "q" 312, .str "r" 313] 0, #[]⟩) ::
  (nat_lit 42, ⟨.type "tuple", .none, .seq #[] 0, #[]⟩) ::
  (nat_lit 44, ⟨.type "code", .none, .fields #[.str "_div3n2n" 303, .str "_div3n2n" 304, .str "/claim/cut.py" 305, .int 20 0, .int 6 0, .int 0 0, .int 0 0, .int 3 0, .ref 39, .bool true, .int 276 0, .ref 40, .none, .ref 41, .ref 42, .ref 43, .int 314 0, .int 20 0, .str "/claim/cut.py" 315], #[]⟩) ::
  (nat_lit 45, ⟨.type "function", none, .func ⟨"_div3n2n", "_div3n2n", a45, (.stmts b45), s45, 3, [], .none, .none, .none, .str "cpy313._pylong" 282, .none, .ref 44, .none, 0⟩, #[]⟩) ::
  (nat_lit 46, ⟨.type "tuple", .none, .seq #[] 0, #[]⟩) ::
  (nat_lit 48, ⟨.type "tuple", .none, .seq #[.str "r" 322, .str "g" 323, .str "b" 324, .str "maxc" 325, .str "minc" 326, .str "sumc" 327, .str "rangec" 328, .str "l" 329, .str "s" 330, .str "rc" 331, .str "gc" 332, .str "bc" 333, .str "h" 334] 0, #[]⟩) ::
  (nat_lit 49, ⟨.type "tuple", .none, .seq #[] 0, #[]⟩) ::
  (nat_lit 51, ⟨.type "code", .none, .fields #[.str "rgb_to_hls" 319, .str "rgb_to_hls" 320, .str "/claim/cut.py" 321, .int 31 0, .int 3 0, .int 0 0, .int 0 0, .int 3 0, .ref 46, .bool true, .int 276 0, .ref 47, .none, .ref 48, .ref 49, .ref 50, .int 335 0, .int 31 0, .str "/claim/cut.py" 336], #[]⟩) ::
  (nat_lit 52, ⟨.type "function", none, .func ⟨"rgb_to_hls", "rgb_to_hls", a52, (.stmts b52), s52, 3, [], .none, .none, .none, .str "cpy313.colorsys" 317, .none, .ref 51, .none, 0⟩, #[]⟩) ::
  (nat_lit 56, ⟨.type "tuple", .none, .seq #[.int 14 0, .int 4 0, .int 0 0, .int 1 0, .int 1 0, .int 6 0, .int 1 0, .int 16 0, .int 46 0, .int 1 0] 0, #[]⟩) ::
  (nat_lit 57, ⟨.type "re.Pattern", .none, .fields #[.str "(?m)^\\." 341, .int 40 354, .int 0 0, .none, .none, .ref 56, .int 0 0], #[]⟩) ::
  (nat_lit 61, ⟨.type "tuple", .none, .seq #[.int 14 0, .int 9 0, .int 4 0, .int 1 0, .int 2 0, .int 16 0, .int 10 0, .int 16 0, .int 13 0, .int 0 0, .int 7 0, .int 7 0, .int 16 0, .int 13 0, .int 16 0, .int 10 0, .int 15 0, .int 18 0, .int 5 0, .int 16 0, .int 10 0, .int 15 0, .int 13 0, .int 11 0, .int 16 0, .int 13 0, .int 5 0, .int 5 0, .int 0 0, .int 16 0, .int 10 0, .int 1 0, .int 15 0, .int 2 0, .int 0 0, .int 1 0] 0, #[]⟩) ::
  (nat_lit 62, ⟨.type "re.Pattern", .none, .fields #[.str "(?:\\r\\n|\\n|\\r(?!\\n))" 357, .int 32 396, .int 0 0, .none, .none, .ref 61, .int 0 0], #[]⟩) ::
  (nat_lit 63, ⟨.type "tuple", .none, .seq #[] 0, #[]⟩) ::
  (nat_lit 65, ⟨.type "tuple", .none, .seq #[.str "data" 403] 0, #[]⟩) ::
  (nat_lit 66, ⟨.type "tuple", .none, .seq #[] 0, #[]⟩) ::
  (nat_lit 68, ⟨.type "code", .none, .fields #[.str "quotedata" 400, .str "quotedata" 401, .str "/claim/cut.py" 402, .int 58 0, .int 1 0, .int 0 0, .int 0 0, .int 3 0, .ref 63, .bool true, .int 276 0, .ref 64, .none, .ref 65, .ref 66, .ref 67, .int 404 0, .int 58 0, .str "/claim/cut.py" 405], #[]⟩) ::
  (nat_lit 69, ⟨.type "function", none, .func ⟨"quotedata", "quotedata", a69, (.stmts b69), s69, 3, [], .none, .none, .none, .str "cpy313.smtplib" 338, .none, .ref 68, .none, 0⟩, #[]⟩) ::
  (nat_lit 70, ⟨.type "dict", .none, .dict #[⟨PySem.PyData.keyHash P "!", .str "!" 507, .int 54 503⟩, ⟨PySem.PyData.keyHash P "!=", .str "!=" 509, .int 28 451⟩, ⟨PySem.PyData.keyHash P "%", .str "%" 511, .int 24 443⟩, ⟨PySem.PyData.keyHash P "%=", .str "%=" 513, .int 40 475⟩, ⟨PySem.PyData.keyHash P "&", .str "&" 515, .int 19 433⟩, ⟨PySem.PyData.keyHash P "&=", .str "&=" 517, .int 41 477⟩, ⟨PySem.PyData.keyHash P "(", .str "(" 519, .int 7 409⟩, ⟨PySem.PyData.keyHash P ")", .str ")" 521, .int 8 411⟩, ⟨PySem.PyData.keyHash P "*", .str "*" 523, .int 16 427⟩, ⟨PySem.PyData.keyHash P "**", .str "**" 525, .int 35 465⟩, ⟨PySem.PyData.keyHash P "**=", .str "**=" 527, .int 46 487⟩, ⟨PySem.PyData.keyHash P "*=", .str "*=" 529, .int 38 471⟩, ⟨PySem.PyData.keyHash P "+", .str "+" 531, .int 14 423⟩, ⟨PySem.PyData.keyHash P "+=", .str "+=" 533, .int 36 467⟩, ⟨PySem.PyData.keyHash P ",", .str "," 535, .int 12 419⟩, ⟨PySem.PyData.keyHash P "-", .str "-" 537, .int 15 425⟩, ⟨PySem.PyData.keyHash P "-=", .str "-=" 539, .int 37 469⟩, ⟨PySem.PyData.keyHash P "->", .str "->" 541, .int 51 497⟩, ⟨PySem.PyData.keyHash P ".", .str "." 543, .int 23 441⟩, ⟨PySem.PyData.keyHash P "...", .str "..." 545, .int 52 499⟩, ⟨PySem.PyData.keyHash P "/", .str "/" 547, .int 17 429⟩, ⟨PySem.PyData.keyHash P "//", .str "//" 549, .int 47 489⟩, ⟨PySem.PyData.keyHash P "//=", .str "//=" 551, .int 48 491⟩, ⟨PySem.PyData.keyHash P "/=", .str "/=" 553, .int 39 473⟩, ⟨PySem.PyData.keyHash P ":", .str ":" 555, .int 11 417⟩, ⟨PySem.PyData.keyHash P ":=", .str ":=" 557, .int 53 501⟩, ⟨PySem.PyData.keyHash P ";", .str ";" 559, .int 13 421⟩, ⟨PySem.PyData.keyHash P "<", .str "<" 561, .int 20 435⟩, ⟨PySem.PyData.keyHash P "<<", .str "<<" 563, .int 33 461⟩, ⟨PySem.PyData.keyHash P "<<=", .str "<<=" 565, .int 44 483⟩, ⟨PySem.PyData.keyHash P "<=", .str "<=" 567, .int 29 453⟩, ⟨PySem.PyData.keyHash P "=", .str "=" 569, .int 22 439⟩, ⟨PySem.PyData.keyHash P "==", .str "==" 571, .int 27 449⟩, ⟨PySem.PyData.keyHash P ">", .str ">" 573, .int 21 437⟩, ⟨PySem.PyData.keyHash P ">=", .str ">=" 575, .int 30 455⟩, ⟨PySem.PyData.keyHash P ">>", .str ">>" 576, .int 34 463⟩, ⟨PySem.PyData.keyHash P ">>=", .str ">>=" 577, .int 45 485⟩, ⟨PySem.PyData.keyHash P "@", .str "@" 578, .int 49 493⟩, ⟨PySem.PyData.keyHash P "@=", .str "@=" 579, .int 50 495⟩, ⟨PySem.PyData.keyHash P "[", .str "[" 580, .int 9 413⟩, ⟨PySem.PyData.keyHash P "]", .str "]" 581, .int 10 415⟩, ⟨PySem.PyData.keyHash P "^", .str "^" 582, .int 32 459⟩, ⟨PySem.PyData.keyHash P "^=", .str "^=" 583, .int 43 481⟩, ⟨PySem.PyData.keyHash P "{", .str "{" 584, .int 25 445⟩, ⟨PySem.PyData.keyHash P "|", .str "|" 585, .int 18 431⟩, ⟨PySem.PyData.keyHash P "|=", .str "|=" 586, .int 42 479⟩, ⟨PySem.PyData.keyHash P "}", .str "}" 587, .int 26 447⟩, ⟨PySem.PyData.keyHash P "~", .str "~" 588, .int 31 457⟩] 48, #[]⟩) ::
  (nat_lit 73, ⟨.type "tuple", .none, .seq #[] 0, #[]⟩) ::
  (nat_lit 75, ⟨.type "tuple", .none, .seq #[.str "x" 607] 0, #[]⟩) ::
  (nat_lit 76, ⟨.type "tuple", .none, .seq #[] 0, #[]⟩) ::
  (nat_lit 78, ⟨.type "code", .none, .fields #[.str "ISTERMINAL" 604, .str "ISTERMINAL" 605, .str "/claim/cut.py" 606, .int 111 0, .int 1 0, .int 0 0, .int 0 0, .int 3 0, .ref 73, .bool true, .int 276 0, .ref 74, .none, .ref 75, .ref 76, .ref 77, .int 608 0, .int 111 0, .str "/claim/cut.py" 609], #[]⟩) ::
  (nat_lit 79, ⟨.type "function", none, .func ⟨"ISTERMINAL", "ISTERMINAL", a79, (.stmts b79), s79, 3, [], .none, .none, .none, .str "cpy313.token" 407, .none, .ref 78, .none, 0⟩, #[]⟩) ::
  (nat_lit 80, ⟨.type "tuple", .none, .seq #[] 0, #[]⟩) ::
  (nat_lit 83, ⟨.type "code", .none, .fields #[.str "_law_draws" 613, .str "_law_draws" 614, .str "/claim/cut.py" 615, .int 114 0, .int 1 0, .int 0 0, .int 0 0, .int 3 0, .ref 80, .bool true, .int 276 0, .ref 81, .none, .none, .none, .ref 82, .int 616 0, .int 114 0, .str "/claim/cut.py" 617], #[]⟩) ::
  (nat_lit 84, ⟨.type "function", none, .func ⟨"_law_draws", "_law_draws", a84, (.stmts b84), s84, 3, [], .none, .none, .none, .str "law_tl0015_01" 611, .none, .ref 83, .none, 0⟩, #[]⟩) ::
  (nat_lit 85, ⟨.type "tuple", .none, .seq #[] 0, #[]⟩) ::
  (nat_lit 88, ⟨.type "code", .none, .fields #[.str "_law_tokens" 619, .str "_law_tokens" 620, .str "/claim/cut.py" 621, .int 118 0, .int 1 0, .int 0 0, .int 0 0, .int 3 0, .ref 85, .bool true, .int 276 0, .ref 86, .none, .none, .none, .ref 87, .int 622 0, .int 118 0, .str "/claim/cut.py" 623], #[]⟩) ::
  (nat_lit 89, ⟨.type "function", none, .func ⟨"_law_tokens", "_law_tokens", a89, (.stmts b89), s89, 3, [], .none, .none, .none, .str "law_tl0015_01" 611, .none, .ref 88, .none, 0⟩, #[]⟩) ::
  (nat_lit 90, ⟨.type "tuple", .none, .seq #[] 0, #[]⟩) ::
  (nat_lit 93, ⟨.type "code", .none, .fields #[.str "_law_road" 625, .str "_law_road" 626, .str "/claim/cut.py" 627, .int 130 0, .int 1 0, .int 0 0, .int 0 0, .int 3 0, .ref 90, .bool true, .int 276 0, .ref 91, .none, .none, .none, .ref 92, .int 628 0, .int 130 0, .str "/claim/cut.py" 629], #[]⟩) ::
  (nat_lit 94, ⟨.type "function", none, .func ⟨"_law_road", "_law_road", a94, (.stmts b94), s94, 3, [], .none, .none, .none, .str "law_tl0015_01" 611, .none, .ref 93, .none, 0⟩, #[]⟩) ::
  (nat_lit 95, ⟨.type "tuple", .none, .seq #[] 0, #[]⟩) ::
  (nat_lit 98, ⟨.type "code", .none, .fields #[.str "_law_cuts" 631, .str "_law_cuts" 632, .str "/claim/cut.py" 633, .int 134 0, .int 2 0, .int 0 0, .int 0 0, .int 3 0, .ref 95, .bool true, .int 276 0, .ref 96, .none, .none, .none, .ref 97, .int 634 0, .int 134 0, .str "/claim/cut.py" 635], #[]⟩) ::
  (nat_lit 99, ⟨.type "function", none, .func ⟨"_law_cuts", "_law_cuts", a99, (.stmts b99), s99, 3, [], .none, .none, .none, .str "law_tl0015_01" 611, .none, .ref 98, .none, 0⟩, #[]⟩) ::
  (nat_lit 100, ⟨.type "tuple", .none, .seq #[] 0, #[]⟩) ::
  (nat_lit 102, ⟨.type "tuple", .none, .seq #[.str "pairs" 640, .str "exits" 641, .str "k" 642, .str "a" 643, .str "b" 644] 0, #[]⟩) ::
  (nat_lit 103, ⟨.type "tuple", .none, .seq #[] 0, #[]⟩) ::
  (nat_lit 105, ⟨.type "code", .none, .fields #[.str "_law_exits" 637, .str "_law_exits" 638, .str "/claim/cut.py" 639, .int 139 0, .int 1 0, .int 0 0, .int 0 0, .int 3 0, .ref 100, .bool true, .int 276 0, .ref 101, .none, .ref 102, .ref 103, .ref 104, .int 645 0, .int 139 0, .str "/claim/cut.py" 646], #[]⟩) ::
  (nat_lit 106, ⟨.type "function", none, .func ⟨"_law_exits", "_law_exits", a106, (.stmts b106), s106, 3, [], .none, .none, .none, .str "law_tl0015_01" 611, .none, .ref 105, .none, 0⟩, #[]⟩) ::
  (nat_lit 107, ⟨.type "tuple", .none, .seq #[] 0, #[]⟩) ::
  (nat_lit 110, ⟨.type "code", .none, .fields #[.str "_law_flow" 648, .str "_law_flow" 649, .str "/claim/cut.py" 650, .int 146 0, .int 3 0, .int 0 0, .int 0 0, .int 3 0, .ref 107, .bool true, .int 276 0, .ref 108, .none, .none, .none, .ref 109, .int 651 0, .int 146 0, .str "/claim/cut.py" 652], #[]⟩) ::
  (nat_lit 111, ⟨.type "function", none, .func ⟨"_law_flow", "_law_flow", a111, (.stmts b111), s111, 3, [], .none, .none, .none, .str "law_tl0015_01" 611, .none, .ref 110, .none, 0⟩, #[]⟩) ::
  (nat_lit 112, ⟨.type "tuple", .none, .seq #[] 0, #[]⟩) ::
  (nat_lit 114, ⟨.type "tuple", .none, .seq #[.str "one" 657, .str "two" 658, .str "hue" 659, .str "light" 660, .str "depth" 661, .str "spread" 662] 0, #[]⟩) ::
  (nat_lit 115, ⟨.type "tuple", .none, .seq #[] 0, #[]⟩) ::
  (nat_lit 117, ⟨.type "code", .none, .fields #[.str "_law_goods" 654, .str "_law_goods" 655, .str "/claim/cut.py" 656, .int 170 0, .int 2 0, .int 0 0, .int 0 0, .int 3 0, .ref 112, .bool true, .int 276 0, .ref 113, .none, .ref 114, .ref 115, .ref 116, .int 663 0, .int 170 0, .str "/claim/cut.py" 664], #[]⟩) ::
  (nat_lit 118, ⟨.type "function", none, .func ⟨"_law_goods", "_law_goods", a118, (.stmts b118), s118, 3, [], .none, .none, .none, .str "law_tl0015_01" 611, .none, .ref 117, .none, 0⟩, #[]⟩) ::
  (nat_lit 119, ⟨.type "tuple", .none, .seq #[] 0, #[]⟩) ::
  (nat_lit 122, ⟨.type "code", .none, .fields #[.str "_law_divided" 666, .str "_law_divided" 667, .str "/claim/cut.py" 668, .int 174 0, .int 3 0, .int 0 0, .int 0 0, .int 3 0, .ref 119, .bool true, .int 276 0, .ref 120, .none, .none, .none, .ref 121, .int 669 0, .int 174 0, .str "/claim/cut.py" 670], #[]⟩) ::
  (nat_lit 123, ⟨.type "function", none, .func ⟨"_law_divided", "_law_divided", a123, (.stmts b123), s123, 3, [], .none, .none, .none, .str "law_tl0015_01" 611, .none, .ref 122, .none, 0⟩, #[]⟩) ::
  (nat_lit 124, ⟨.type "tuple", .none, .seq #[] 0, #[]⟩) ::
  (nat_lit 127, ⟨.type "code", .none, .fields #[.str "law" 672, .str "law" 673, .str "/claim/cut.py" 674, .int 177 0, .int 1 0, .int 0 0, .int 0 0, .int 3 0, .ref 124, .bool true, .int 276 0, .ref 125, .none, .none, .none, .ref 126, .int 675 0, .int 177 0, .str "/claim/cut.py" 676], #[]⟩) ::
  (nat_lit 128, ⟨.type "function", none, .func ⟨"law", "law", a128, (.stmts b128), s128, 3, [], .none, .none, .none, .str "law_tl0015_01" 611, .none, .ref 127, .none, 0⟩, #[]⟩) :: []) : List (Nat × Obj)))
  _ _ _ rfl _ _ _ rfl _ _ _ rfl _ _ _ rfl _ _ _ rfl _ _ _ rfl _ _ _ rfl _ _ _ rfl _ _ _ rfl _ _ _ rfl _ _ _ rfl _ _ _ rfl _ _ _ rfl _ _ _ rfl
noncomputable def KA : List Addr := [2, 3, 6, 11, 12, 32, 34, 35, 37, 38, 39, 41, 42, 44, 45, 46, 48, 49, 51, 52, 56, 57, 61, 62, 63, 65, 66, 68, 69, 70, 73, 75, 76, 78, 79, 80, 83, 84, 85, 88, 89, 90, 93, 94, 95, 98, 99, 100, 102, 103, 105, 106, 107, 110, 111, 112, 114, 115, 117, 118, 119, 122, 123, 124, 127, 128]
noncomputable def view : Program := { PySem.Challenge.pw_tl0015_01 with main := { PySem.Challenge.pw_tl0015_01.main with
  body := PySem.Challenge.pw_tl0015_01.main.body.take 1 ++ ((PySem.Challenge.pw_tl0015_01.main.body.drop 2).take 3 ++ ((PySem.Challenge.pw_tl0015_01.main.body.drop 6).take 1 ++ ((PySem.Challenge.pw_tl0015_01.main.body.drop 8).take 4 ++ ((PySem.Challenge.pw_tl0015_01.main.body.drop 13).take 51 ++ PySem.Challenge.pw_tl0015_01.main.body.drop 65)))) } }
noncomputable def argsAt (n : Nat) : Arguments := match defAtRow n with | some (a, _, _) => a | none => ⟨[], [], none, [], [], none, []⟩
noncomputable def bodyAt (n : Nat) : List Stmt := match defAtRow n with | some (_, b, _) => b | none => []
noncomputable def scopeAt (n : Nat) : Scope := match defAtRow n with | some (_, _, s) => s | none => { kind := .function, names := [], isGenerator := false, isCoroutine := false }
noncomputable def kAt (P : Params) (a : Nat) : Obj := match (KK P).lookup a with | some o => o | none => default
set_option maxRecDepth 100000 in
/-- the heap as the top leaves it -/
noncomputable def HZl (P : Params) : List Obj :=
  (⟨.type "dict", .none, .dict (List.toArray (⟨PySem.PyData.keyHash P "__name__", .str "__name__" 1, .str "builtins" 160⟩ :: ⟨PySem.PyData.keyHash P "__doc__", .str "__doc__" 2, .builtin "builtins.__doc__:str#\x6fpaque"⟩ :: ⟨PySem.PyData.keyHash P "__package__", .str "__package__" 3, .builtin "builtins.__package__:str#\x6fpaque"⟩ :: ⟨PySem.PyData.keyHash P "__loader__", .str "__loader__" 4, .builtin "builtins.__loader__:shared#\x6fpaque"⟩ :: ⟨PySem.PyData.keyHash P "__spec__", .str "__spec__" 5, .builtin "builtins.__spec__#\x6fpaque"⟩ :: ⟨PySem.PyData.keyHash P "__build_class__", .str "__build_class__" 6, .builtin "__build_class__"⟩ :: ⟨PySem.PyData.keyHash P "__\x69mport__", .str "__\x69mport__" 7, .builtin "__\x69mport__"⟩ :: ⟨PySem.PyData.keyHash P "abs", .str "abs" 8, .builtin "abs"⟩ :: ⟨PySem.PyData.keyHash P "all", .str "all" 9, .builtin "all"⟩ :: ⟨PySem.PyData.keyHash P "any", .str "any" 10, .builtin "any"⟩ :: ⟨PySem.PyData.keyHash P "ascii", .str "ascii" 11, .builtin "ascii"⟩ :: ⟨PySem.PyData.keyHash P "bin", .str "bin" 12, .builtin "bin"⟩ :: ⟨PySem.PyData.keyHash P "breakpoint", .str "breakpoint" 13, .builtin "breakpoint"⟩ :: ⟨PySem.PyData.keyHash P "callable", .str "callable" 14, .builtin "callable"⟩ :: ⟨PySem.PyData.keyHash P "chr", .str "chr" 15, .builtin "chr"⟩ :: ⟨PySem.PyData.keyHash P "compile", .str "compile" 16, .builtin "compile"⟩ :: ⟨PySem.PyData.keyHash P "delattr", .str "delattr" 17, .builtin "delattr"⟩ :: ⟨PySem.PyData.keyHash P "dir", .str "dir" 18, .builtin "dir"⟩ :: ⟨PySem.PyData.keyHash P "divmod", .str "divmod" 19, .builtin "divmod"⟩ :: ⟨PySem.PyData.keyHash P "eval", .str "eval" 20, .builtin "eval"⟩ :: ⟨PySem.PyData.keyHash P "exec", .str "exec" 21, .builtin "exec"⟩ :: ⟨PySem.PyData.keyHash P "format", .str "format" 22, .builtin "format"⟩ :: ⟨PySem.PyData.keyHash P "getattr", .str "getattr" 23, .builtin "getattr"⟩ :: ⟨PySem.PyData.keyHash P "globals", .str "globals" 24, .builtin "globals"⟩ :: ⟨PySem.PyData.keyHash P "hasattr", .str "hasattr" 25, .builtin "hasattr"⟩ :: ⟨PySem.PyData.keyHash P "hash", .str "hash" 26, .builtin "hash"⟩ :: ⟨PySem.PyData.keyHash P "hex", .str "hex" 27, .builtin "hex"⟩ :: ⟨PySem.PyData.keyHash P "id", .str "id" 28, .builtin "id"⟩ :: ⟨PySem.PyData.keyHash P "input", .str "input" 29, .builtin "input"⟩ :: ⟨PySem.PyData.keyHash P "is\x69nstance", .str "is\x69nstance" 30, .builtin "is\x69nstance"⟩ :: ⟨PySem.PyData.keyHash P "issubclass", .str "issubclass" 31, .builtin "issubclass"⟩ :: ⟨PySem.PyData.keyHash P "iter", .str "iter" 32, .builtin "iter"⟩ :: ⟨PySem.PyData.keyHash P "aiter", .str "aiter" 33, .builtin "aiter"⟩ :: ⟨PySem.PyData.keyHash P "len", .str "len" 34, .builtin "len"⟩ :: ⟨PySem.PyData.keyHash P "locals", .str "locals" 35, .builtin "locals"⟩ :: ⟨PySem.PyData.keyHash P "max", .str "max" 36, .builtin "max"⟩ :: ⟨PySem.PyData.keyHash P "min", .str "min" 37, .builtin "min"⟩ :: ⟨PySem.PyData.keyHash P "next", .str "next" 38, .builtin "next"⟩ :: ⟨PySem.PyData.keyHash P "anext", .str "anext" 39, .builtin "anext"⟩ :: ⟨PySem.PyData.keyHash P "oct", .str "oct" 40, .builtin "oct"⟩ :: ⟨PySem.PyData.keyHash P "ord", .str "ord" 41, .builtin "ord"⟩ :: ⟨PySem.PyData.keyHash P "pow", .str "pow" 42, .builtin "pow"⟩ :: ⟨PySem.PyData.keyHash P "print", .str "print" 43, .builtin "print"⟩ :: ⟨PySem.PyData.keyHash P "repr", .str "repr" 44, .builtin "repr"⟩ :: ⟨PySem.PyData.keyHash P "round", .str "round" 45, .builtin "round"⟩ :: ⟨PySem.PyData.keyHash P "setattr", .str "setattr" 46, .builtin "setattr"⟩ :: ⟨PySem.PyData.keyHash P "sorted", .str "sorted" 47, .builtin "sorted"⟩ :: ⟨PySem.PyData.keyHash P "sum", .str "sum" 48, .builtin "sum"⟩ :: ⟨PySem.PyData.keyHash P "vars", .str "vars" 49, .builtin "vars"⟩ :: ⟨PySem.PyData.keyHash P "None", .str "None" 50, .none⟩ :: ⟨PySem.PyData.keyHash P "Ellipsis", .str "Ellipsis" 51, .ellipsis⟩ :: ⟨PySem.PyData.keyHash P "NotImplemented", .str "NotImplemented" 52, .notImplemented⟩ :: ⟨PySem.PyData.keyHash P "False", .str "False" 53, .bool false⟩ :: ⟨PySem.PyData.keyHash P "True", .str "True" 54, .bool true⟩ :: ⟨PySem.PyData.keyHash P "bool", .str "bool" 55, .type "bool"⟩ :: ⟨PySem.PyData.keyHash P "memoryview", .str "memoryview" 56, .type "memoryview"⟩ :: ⟨PySem.PyData.keyHash P "bytearray", .str "bytearray" 57, .type "bytearray"⟩ :: ⟨PySem.PyData.keyHash P "bytes", .str "bytes" 58, .type "bytes"⟩ :: ⟨PySem.PyData.keyHash P "classmethod", .str "classmethod" 59, .type "classmethod"⟩ :: ⟨PySem.PyData.keyHash P "complex", .str "complex" 60, .type "complex"⟩ :: ⟨PySem.PyData.keyHash P "dict", .str "dict" 61, .type "dict"⟩ :: ⟨PySem.PyData.keyHash P "enumerate", .str "enumerate" 62, .type "enumerate"⟩ :: ⟨PySem.PyData.keyHash P "filter", .str "filter" 63, .type "filter"⟩ :: ⟨PySem.PyData.keyHash P "float", .str "float" 64, .type "float"⟩ :: ⟨PySem.PyData.keyHash P "frozenset", .str "frozenset" 65, .type "frozenset"⟩ :: ⟨PySem.PyData.keyHash P "property", .str "property" 66, .type "property"⟩ :: ⟨PySem.PyData.keyHash P "int", .str "int" 67, .type "int"⟩ :: ⟨PySem.PyData.keyHash P "list", .str "list" 68, .type "list"⟩ :: ⟨PySem.PyData.keyHash P "map", .str "map" 69, .type "map"⟩ :: ⟨PySem.PyData.keyHash P "object", .str "object" 70, .type "object"⟩ :: ⟨PySem.PyData.keyHash P "range", .str "range" 71, .type "range"⟩ :: ⟨PySem.PyData.keyHash P "reversed", .str "reversed" 72, .type "reversed"⟩ :: ⟨PySem.PyData.keyHash P "set", .str "set" 73, .type "set"⟩ :: ⟨PySem.PyData.keyHash P "slice", .str "slice" 74, .type "slice"⟩ :: ⟨PySem.PyData.keyHash P "staticmethod", .str "staticmethod" 75, .type "staticmethod"⟩ :: ⟨PySem.PyData.keyHash P "str", .str "str" 76, .type "str"⟩ :: ⟨PySem.PyData.keyHash P "super", .str "super" 77, .type "super"⟩ :: ⟨PySem.PyData.keyHash P "tuple", .str "tuple" 78, .type "tuple"⟩ :: ⟨PySem.PyData.keyHash P "type", .str "type" 79, .type "type"⟩ :: ⟨PySem.PyData.keyHash P "zip", .str "zip" 80, .type "zip"⟩ :: ⟨PySem.PyData.keyHash P "__debug__", .str "__debug__" 81, .bool true⟩ :: ⟨PySem.PyData.keyHash P "BaseException", .str "BaseException" 82, .type "BaseException"⟩ :: ⟨PySem.PyData.keyHash P "BaseExceptionGroup", .str "BaseExceptionGroup" 83, .type "BaseExceptionGroup"⟩ :: ⟨PySem.PyData.keyHash P "Exception", .str "Exception" 84, .type "Exception"⟩ :: ⟨PySem.PyData.keyHash P "GeneratorExit", .str "GeneratorExit" 85, .type "GeneratorExit"⟩ :: ⟨PySem.PyData.keyHash P "KeyboardInterrupt", .str "KeyboardInterrupt" 86, .type "KeyboardInterrupt"⟩ :: ⟨PySem.PyData.keyHash P "SystemExit", .str "SystemExit" 87, .type "SystemExit"⟩ :: ⟨PySem.PyData.keyHash P "ArithmeticError", .str "ArithmeticError" 88, .type "ArithmeticError"⟩ :: ⟨PySem.PyData.keyHash P "AssertionError", .str "AssertionError" 89, .type "AssertionError"⟩ :: ⟨PySem.PyData.keyHash P "AttributeError", .str "AttributeError" 90, .type "AttributeError"⟩ :: ⟨PySem.PyData.keyHash P "BufferError", .str "BufferError" 91, .type "BufferError"⟩ :: ⟨PySem.PyData.keyHash P "EOFError", .str "EOFError" 92, .type "EOFError"⟩ :: ⟨PySem.PyData.keyHash P "ImportError", .str "ImportError" 93, .type "ImportError"⟩ :: ⟨PySem.PyData.keyHash P "LookupError", .str "LookupError" 94, .type "LookupError"⟩ :: ⟨PySem.PyData.keyHash P "MemoryError", .str "MemoryError" 95, .type "MemoryError"⟩ :: ⟨PySem.PyData.keyHash P "NameError", .str "NameError" 96, .type "NameError"⟩ :: ⟨PySem.PyData.keyHash P "OSError", .str "OSError" 97, .type "OSError"⟩ :: ⟨PySem.PyData.keyHash P "ReferenceError", .str "ReferenceError" 98, .type "ReferenceError"⟩ :: ⟨PySem.PyData.keyHash P "RuntimeError", .str "RuntimeError" 99, .type "RuntimeError"⟩ :: ⟨PySem.PyData.keyHash P "StopAsyncIteration", .str "StopAsyncIteration" 100, .type "StopAsyncIteration"⟩ :: ⟨PySem.PyData.keyHash P "StopIteration", .str "StopIteration" 101, .type "StopIteration"⟩ :: ⟨PySem.PyData.keyHash P "SyntaxError", .str "SyntaxError" 102, .type "SyntaxError"⟩ :: ⟨PySem.PyData.keyHash P "SystemError", .str "SystemError" 103, .type "SystemError"⟩ :: ⟨PySem.PyData.keyHash P "TypeError", .str "TypeError" 104, .type "TypeError"⟩ :: ⟨PySem.PyData.keyHash P "ValueError", .str "ValueError" 105, .type "ValueError"⟩ :: ⟨PySem.PyData.keyHash P "Warning", .str "Warning" 106, .type "Warning"⟩ :: ⟨PySem.PyData.keyHash P "FloatingPointError", .str "FloatingPointError" 107, .type "FloatingPointError"⟩ :: ⟨PySem.PyData.keyHash P "OverflowError", .str "OverflowError" 108, .type "OverflowError"⟩ :: ⟨PySem.PyData.keyHash P "ZeroDivisionError", .str "ZeroDivisionError" 109, .type "ZeroDivisionError"⟩ :: ⟨PySem.PyData.keyHash P "BytesWarning", .str "BytesWarning" 110, .type "BytesWarning"⟩ :: ⟨PySem.PyData.keyHash P "DeprecationWarning", .str "DeprecationWarning" 111, .type "DeprecationWarning"⟩ :: ⟨PySem.PyData.keyHash P "EncodingWarning", .str "EncodingWarning" 112, .type "EncodingWarning"⟩ :: ⟨PySem.PyData.keyHash P "FutureWarning", .str "FutureWarning" 113, .type "FutureWarning"⟩ :: ⟨PySem.PyData.keyHash P "ImportWarning", .str "ImportWarning" 114, .type "ImportWarning"⟩ :: ⟨PySem.PyData.keyHash P "PendingDeprecationWarning", .str "PendingDeprecationWarning" 115, .type "PendingDeprecationWarning"⟩ :: ⟨PySem.PyData.keyHash P "ResourceWarning", .str "ResourceWarning" 116, .type "ResourceWarning"⟩ :: ⟨PySem.PyData.keyHash P "RuntimeWarning", .str "RuntimeWarning" 117, .type "RuntimeWarning"⟩ :: ⟨PySem.PyData.keyHash P "SyntaxWarning", .str "SyntaxWarning" 118, .type "SyntaxWarning"⟩ :: ⟨PySem.PyData.keyHash P "UnicodeWarning", .str "UnicodeWarning" 119, .type "UnicodeWarning"⟩ :: ⟨PySem.PyData.keyHash P "UserWarning", .str "UserWarning" 120, .type "UserWarning"⟩ :: ⟨PySem.PyData.keyHash P "BlockingIOError", .str "BlockingIOError" 121, .type "BlockingIOError"⟩ :: ⟨PySem.PyData.keyHash P "ChildProcessError", .str "ChildProcessError" 122, .type "ChildProcessError"⟩ :: ⟨PySem.PyData.keyHash P "ConnectionError", .str "ConnectionError" 123, .type "ConnectionError"⟩ :: ⟨PySem.PyData.keyHash P "FileExistsError", .str "FileExistsError" 124, .type "FileExistsError"⟩ :: ⟨PySem.PyData.keyHash P "FileNotFoundError", .str "FileNotFoundError" 125, .type "FileNotFoundError"⟩ :: ⟨PySem.PyData.keyHash P "InterruptedError", .str "InterruptedError" 126, .type "InterruptedError"⟩ :: ⟨PySem.PyData.keyHash P "IsADirectoryError", .str "IsADirectoryError" 127, .type "IsADirectoryError"⟩ :: ⟨PySem.PyData.keyHash P "NotADirectoryError", .str "NotADirectoryError" 128, .type "NotADirectoryError"⟩ :: ⟨PySem.PyData.keyHash P "PermissionError", .str "PermissionError" 129, .type "PermissionError"⟩ :: ⟨PySem.PyData.keyHash P "ProcessLookupError", .str "ProcessLookupError" 130, .type "ProcessLookupError"⟩ :: ⟨PySem.PyData.keyHash P "TimeoutError", .str "TimeoutError" 131, .type "TimeoutError"⟩ :: ⟨PySem.PyData.keyHash P "IndentationError", .str "IndentationError" 132, .type "IndentationError"⟩ :: ⟨PySem.PyData.keyHash P "_IncompleteInputError", .str "_IncompleteInputError" 133, .type "_IncompleteInputError"⟩ :: ⟨PySem.PyData.keyHash P "IndexError", .str "IndexError" 134, .type "IndexError"⟩ :: ⟨PySem.PyData.keyHash P "KeyError", .str "KeyError" 135, .type "KeyError"⟩ :: ⟨PySem.PyData.keyHash P "ModuleNotFoundError", .str "ModuleNotFoundError" 136, .type "ModuleNotFoundError"⟩ :: ⟨PySem.PyData.keyHash P "NotImplementedError", .str "NotImplementedError" 137, .type "NotImplementedError"⟩ :: ⟨PySem.PyData.keyHash P "PythonFinalizationError", .str "PythonFinalizationError" 138, .type "PythonFinalizationError"⟩ :: ⟨PySem.PyData.keyHash P "RecursionError", .str "RecursionError" 139, .type "RecursionError"⟩ :: ⟨PySem.PyData.keyHash P "UnboundLocalError", .str "UnboundLocalError" 140, .type "UnboundLocalError"⟩ :: ⟨PySem.PyData.keyHash P "UnicodeError", .str "UnicodeError" 141, .type "UnicodeError"⟩ :: ⟨PySem.PyData.keyHash P "BrokenPipeError", .str "BrokenPipeError" 142, .type "BrokenPipeError"⟩ :: ⟨PySem.PyData.keyHash P "ConnectionAbortedError", .str "ConnectionAbortedError" 143, .type "ConnectionAbortedError"⟩ :: ⟨PySem.PyData.keyHash P "ConnectionRefusedError", .str "ConnectionRefusedError" 144, .type "ConnectionRefusedError"⟩ :: ⟨PySem.PyData.keyHash P "ConnectionResetError", .str "ConnectionResetError" 145, .type "ConnectionResetError"⟩ :: ⟨PySem.PyData.keyHash P "TabError", .str "TabError" 146, .type "TabError"⟩ :: ⟨PySem.PyData.keyHash P "UnicodeDecodeError", .str "UnicodeDecodeError" 147, .type "UnicodeDecodeError"⟩ :: ⟨PySem.PyData.keyHash P "UnicodeEncodeError", .str "UnicodeEncodeError" 148, .type "UnicodeEncodeError"⟩ :: ⟨PySem.PyData.keyHash P "UnicodeTranslateError", .str "UnicodeTranslateError" 149, .type "UnicodeTranslateError"⟩ :: ⟨PySem.PyData.keyHash P "ExceptionGroup", .str "ExceptionGroup" 150, .type "ExceptionGroup"⟩ :: ⟨PySem.PyData.keyHash P "EnvironmentError", .str "EnvironmentError" 151, .type "OSError"⟩ :: ⟨PySem.PyData.keyHash P "IOError", .str "IOError" 152, .type "OSError"⟩ :: ⟨PySem.PyData.keyHash P "open", .str "open" 153, .builtin "open"⟩ :: ⟨PySem.PyData.keyHash P "quit", .str "quit" 154, .builtin "builtins.quit#\x6fpaque"⟩ :: ⟨PySem.PyData.keyHash P "exit", .str "exit" 155, .builtin "builtins.exit#\x6fpaque"⟩ :: ⟨PySem.PyData.keyHash P "copyright", .str "copyright" 156, .builtin "builtins.copyright#\x6fpaque"⟩ :: ⟨PySem.PyData.keyHash P "credits", .str "credits" 157, .builtin "builtins.credits#\x6fpaque"⟩ :: ⟨PySem.PyData.keyHash P "license", .str "license" 158, .builtin "builtins.license#\x6fpaque"⟩ :: ⟨PySem.PyData.keyHash P "help", .str "help" 159, .builtin "builtins.help#\x6fpaque"⟩ :: [])) 159, #[]⟩ : Obj) ::
  (⟨.type "dict", .none, .dict #[⟨PySem.PyData.keyHash P "builtins", .str "builtins" 162, .ref 4⟩, ⟨PySem.PyData.keyHash P "__main__", .str "__main__" 163, .ref 5⟩, ⟨PySem.PyData.keyHash P "_sre", .str "_sre" 244, .ref 12⟩] 3, #[]⟩ : Obj) ::
  kAt P 2 ::
  kAt P 3 ::
  (⟨.type "module", .some 0, .plain, #[]⟩ : Obj) ::
  (⟨.type "module", .some 3, .plain, #[]⟩ : Obj) ::
  kAt P 6 ::
  (⟨.type "tuple", .none, .seq #[] 0, #[]⟩ : Obj) ::
  (⟨.none, .none, .fields #[], #[]⟩ : Obj) ::
  (⟨.type "code", .none, .fields #[.str "<module>" 176, .str "<module>" 177, .str "/claim/cut.py" 178, .int 1 0, .int 0 0, .int 0 0, .int 0 0, .int 0 0, .ref 7, .bool false, .int 175 0, .ref 8, .none, .none, .none, .none, .int 179 0, .int 1 0, .str "/claim/cut.py" 180], #[]⟩ : Obj) ::
  (⟨.type "frame", .none, .plain, #[.some (.ref 9), .some (.ref 3), .some (.ref 3), .none, .some (.str "__main__" 164), .none, .some (.ref 0)]⟩ : Obj) ::
  kAt P 11 ::
  kAt P 12 ::
  (⟨.type "dict", .none, .dict #[⟨PySem.PyData.keyHash P "__module__", .str "__module__" 189, .str "_frozen_\x69mportlib" 186⟩, ⟨PySem.PyData.keyHash P "__firstlineno__", .str "__firstlineno__" 190, .int 971 187⟩, ⟨PySem.PyData.keyHash P "__doc__", .str "__doc__" 191, .builtin "_frozen_\x69mportlib.BuiltinImporter.__doc__:str#\x6fpaque"⟩, ⟨PySem.PyData.keyHash P "_ORIGIN", .str "_ORIGIN" 192, .str "built-in" 188⟩, ⟨PySem.PyData.keyHash P "find_spec", .str "find_spec" 193, .builtin "_frozen_\x69mportlib.BuiltinImporter.find_spec#\x6fpaque"⟩, ⟨PySem.PyData.keyHash P "create_module", .str "create_module" 194, .builtin "_frozen_\x69mportlib.BuiltinImporter.create_module#\x6fpaque"⟩, ⟨PySem.PyData.keyHash P "exec_module", .str "exec_module" 195, .builtin "_frozen_\x69mportlib.BuiltinImporter.exec_module#\x6fpaque"⟩, ⟨PySem.PyData.keyHash P "get_code", .str "get_code" 196, .builtin "_frozen_\x69mportlib.BuiltinImporter.get_code#\x6fpaque"⟩, ⟨PySem.PyData.keyHash P "get_source", .str "get_source" 197, .builtin "_frozen_\x69mportlib.BuiltinImporter.get_source#\x6fpaque"⟩, ⟨PySem.PyData.keyHash P "is_package", .str "is_package" 198, .builtin "_frozen_\x69mportlib.BuiltinImporter.is_package#\x6fpaque"⟩, ⟨PySem.PyData.keyHash P "load_module", .str "load_module" 199, .builtin "_frozen_\x69mportlib.BuiltinImporter.load_module#\x6fpaque"⟩, ⟨PySem.PyData.keyHash P "__static_\x61ttributes__", .str "__static_\x61ttributes__" 200, .ref 15⟩, ⟨PySem.PyData.keyHash P "__dict__", .str "__dict__" 202, .ref 16⟩, ⟨PySem.PyData.keyHash P "__weakref__", .str "__weakref__" 204, .ref 17⟩] 14, #[]⟩ : Obj) ::
  (⟨.type "type", .none, .cls ⟨"BuiltinImporter", [.type "object"], [.ref 14, .type "object"], 13, "BuiltinImporter", true, [], [], false, .none, false⟩, #[]⟩ : Obj) ::
  (⟨.type "tuple", .none, .seq #[] 0, #[]⟩ : Obj) ::
  (⟨.type "getset_descriptor", .none, .fields #[.str "__dict__" 201, .ref 14, .builtin "function.__dict__", .builtin "function.__dict__#set"], #[]⟩ : Obj) ::
  (⟨.type "getset_descriptor", .none, .fields #[.str "__weakref__" 203, .ref 14, .builtin "ExceptionGroup.__weakref__", .none], #[]⟩ : Obj) ::
  (⟨.none, .none, .seq #[.int 13 0, .str "\x06½\n__module__\x06º\x11_frozen_\x69mportlib\x06¾\x0f__firstlineno__\x04»\x00ϋ\x06¿\x07__doc__\t4_frozen_\x69mportlib.BuiltinImporter.__doc__:str#\x6fpaque\x06À\x07_ORIGIN\x06¼\x08built-in\x06Á\tfind_spec\t2_frozen_\x69mportlib.BuiltinImporter.find_spec#\x6fpaque\x06Â\rcreate_module\t6_frozen_\x69mportlib.BuiltinImporter.create_module#\x6fpaque\x06Ã\x0bexec_module\t4_frozen_\x69mportlib.BuiltinImporter.exec_module#\x6fpaque\x06Ä\x08get_code\t1_frozen_\x69mportlib.BuiltinImporter.get_code#\x6fpaque\x06Å\nget_source\t3_frozen_\x69mportlib.BuiltinImporter.get_source#\x6fpaque\x06Æ\nis_package\t3_frozen_\x69mportlib.BuiltinImporter.is_package#\x6fpaque\x06Ç\x0bload_module\t4_frozen_\x69mportlib.BuiltinImporter.load_module#\x6fpaque\x06È\x15__static_\x61ttributes__\x04\x00\x00\x0f\x06Ê\x08__dict__\x04\x00\x00\x10\x06Ì\x0b__weakref__\x04\x00\x00\x11" 0, .bool true, .bool true, .str "" 205, .int 21 0, .str "\x06ã\n__module__\x06Ù\x11_frozen_\x69mportlib\x06ä\x0f__firstlineno__\x04Ú\x00Ȳ\x06å\x07__doc__\t/_frozen_\x69mportlib.ModuleSpec.__doc__:str#\x6fpaque\x06æ\x08__init__\t,_frozen_\x69mportlib.ModuleSpec.__init__#\x6fpaque\x06ç\x08__repr__\t,_frozen_\x69mportlib.ModuleSpec.__repr__#\x6fpaque\x06è\x06__eq__\t*_frozen_\x69mportlib.ModuleSpec.__eq__#\x6fpaque\x06é\x06cached\t*_frozen_\x69mportlib.ModuleSpec.cached#\x6fpaque\x06ê\x06parent\t*_frozen_\x69mportlib.ModuleSpec.parent#\x6fpaque\x06ë\x0chas_location\t0_frozen_\x69mportlib.ModuleSpec.has_location#\x6fpaque\x06ì\x15__static_\x61ttributes__\x04\x00\x00\x17\x06î\x08__dict__\x04\x00\x00\x18\x06ð\x0b__weakref__\x04\x00\x00\x19\x06ñ\x08__hash__\x00" 0, .bool true, .bool true, .str "" 242] 1, #[]⟩ : Obj) ::
  (⟨.type "list", .none, .seq #[] 0, #[]⟩ : Obj) ::
  (⟨.type "dict", .none, .dict #[⟨PySem.PyData.keyHash P "name", .str "name" 208, .str "_sre" 207⟩, ⟨PySem.PyData.keyHash P "loader", .str "loader" 209, .ref 14⟩, ⟨PySem.PyData.keyHash P "origin", .str "origin" 210, .str "built-in" 184⟩, ⟨PySem.PyData.keyHash P "loader_state", .str "loader_state" 211, .none⟩, ⟨PySem.PyData.keyHash P "submodule_search_locations", .str "submodule_search_locations" 212, .none⟩, ⟨PySem.PyData.keyHash P "_un\x69nitialized_submodules", .str "_un\x69nitialized_submodules" 213, .ref 19⟩, ⟨PySem.PyData.keyHash P "_set_fileattr", .str "_set_fileattr" 214, .bool false⟩, ⟨PySem.PyData.keyHash P "_cached", .str "_cached" 215, .none⟩, ⟨PySem.PyData.keyHash P "_\x69nitializing", .str "_\x69nitializing" 243, .bool false⟩] 9, #[]⟩ : Obj) ::
  (⟨.type "dict", .none, .dict #[⟨PySem.PyData.keyHash P "__module__", .str "__module__" 227, .str "_frozen_\x69mportlib" 217⟩, ⟨PySem.PyData.keyHash P "__firstlineno__", .str "__firstlineno__" 228, .int 562 218⟩, ⟨PySem.PyData.keyHash P "__doc__", .str "__doc__" 229, .builtin "_frozen_\x69mportlib.ModuleSpec.__doc__:str#\x6fpaque"⟩, ⟨PySem.PyData.keyHash P "__init__", .str "__init__" 230, .builtin "_frozen_\x69mportlib.ModuleSpec.__init__#\x6fpaque"⟩, ⟨PySem.PyData.keyHash P "__repr__", .str "__repr__" 231, .builtin "_frozen_\x69mportlib.ModuleSpec.__repr__#\x6fpaque"⟩, ⟨PySem.PyData.keyHash P "__eq__", .str "__eq__" 232, .builtin "_frozen_\x69mportlib.ModuleSpec.__eq__#\x6fpaque"⟩, ⟨PySem.PyData.keyHash P "cached", .str "cached" 233, .builtin "_frozen_\x69mportlib.ModuleSpec.cached#\x6fpaque"⟩, ⟨PySem.PyData.keyHash P "parent", .str "parent" 234, .builtin "_frozen_\x69mportlib.ModuleSpec.parent#\x6fpaque"⟩, ⟨PySem.PyData.keyHash P "has_location", .str "has_location" 235, .builtin "_frozen_\x69mportlib.ModuleSpec.has_location#\x6fpaque"⟩, ⟨PySem.PyData.keyHash P "__static_\x61ttributes__", .str "__static_\x61ttributes__" 236, .ref 23⟩, ⟨PySem.PyData.keyHash P "__dict__", .str "__dict__" 238, .ref 24⟩, ⟨PySem.PyData.keyHash P "__weakref__", .str "__weakref__" 240, .ref 25⟩, ⟨PySem.PyData.keyHash P "__hash__", .str "__hash__" 241, .none⟩] 13, #[]⟩ : Obj) ::
  (⟨.type "type", .none, .cls ⟨"ModuleSpec", [.type "object"], [.ref 22, .type "object"], 21, "ModuleSpec", true, [], [], false, .none, false⟩, #[]⟩ : Obj) ::
  (⟨.type "tuple", .none, .seq #[.str "_cached" 219, .str "_set_fileattr" 220, .str "_un\x69nitialized_submodules" 221, .str "loader" 222, .str "loader_state" 223, .str "name" 224, .str "origin" 225, .str "submodule_search_locations" 226] 0, #[]⟩ : Obj) ::
  (⟨.type "getset_descriptor", .none, .fields #[.str "__dict__" 237, .ref 22, .builtin "function.__dict__", .builtin "function.__dict__#set"], #[]⟩ : Obj) ::
  (⟨.type "getset_descriptor", .none, .fields #[.str "__weakref__" 239, .ref 22, .builtin "ExceptionGroup.__weakref__", .none], #[]⟩ : Obj) ::
  (⟨.ref 22, .some 20, .plain, #[]⟩ : Obj) ::
  (⟨.none, .none, .seq #[.int 11 0, .str ⟨(List.toArray (6 :: 247 :: 8 :: 95 :: 95 :: 110 :: 97 :: 109 :: 101 :: 95 :: 95 :: 6 :: 246 :: 4 :: 95 :: 115 :: 114 :: 101 :: 6 :: 248 :: 7 :: 95 :: 95 :: 100 :: 111 :: 99 :: 95 :: 95 :: 0 :: 6 :: 250 :: 11 :: 95 :: 95 :: 112 :: 97 :: 99 :: 107 :: 97 :: 103 :: 101 :: 95 :: 95 :: 6 :: 249 :: 0 :: 6 :: 251 :: 10 :: 95 :: 95 :: 108 :: 111 :: 97 :: 100 :: 101 :: 114 :: 95 :: 95 :: 4 :: 0 :: 0 :: 14 :: 6 :: 252 :: 8 :: 95 :: 95 :: 115 :: 112 :: 101 :: 99 :: 95 :: 95 :: 4 :: 0 :: 0 :: 26 :: 6 :: 253 :: 7 :: 99 :: 111 :: 109 :: 112 :: 105 :: 108 :: 101 :: 9 :: 12 :: 95 :: 115 :: 114 :: 101 :: 46 :: 99 :: 111 :: 109 :: 112 :: 105 :: 108 :: 101 :: 6 :: 254 :: 8 :: 116 :: 101 :: 109 :: 112 :: 108 :: 97 :: 116 :: 101 :: 9 :: 13 :: 95 :: 115 :: 114 :: 101 :: 46 :: 116 :: 101 :: 109 :: 112 :: 108 :: 97 :: 116 :: 101 :: 6 :: 255 :: 11 :: 103 :: 101 :: 116 :: 99 :: 111 :: 100 :: 101 :: 115 :: 105 :: 122 :: 101 :: 9 :: 16 :: 95 :: 115 :: 114 :: 101 :: 46 :: 103 :: 101 :: 116 :: 99 :: 111 :: 100 :: 101 :: 115 :: 105 :: 122 :: 101 :: 6 :: 256 :: 13 :: 97 :: 115 :: 99 :: 105 :: 105 :: 95 :: 105 :: 115 :: 99 :: 97 :: 115 :: 101 :: 100 :: 9 :: 18 :: 95 :: 115 :: 114 :: 101 :: 46 :: 97 :: 115 :: 99 :: 105 :: 105 :: 95 :: 105 :: 115 :: 99 :: 97 :: 115 :: 101 :: 100 :: 6 :: 257 :: 15 :: 117 :: 110 :: 105 :: 99 :: 111 :: 100 :: 101 :: 95 :: 105 :: 115 :: 99 :: 97 :: 115 :: 101 :: 100 :: 9 :: 20 :: 95 :: 115 :: 114 :: 101 :: 46 :: 117 :: 110 :: 105 :: 99 :: 111 :: 100 :: 101 :: 95 :: 105 :: 115 :: 99 :: 97 :: 115 :: 101 :: 100 :: 6 :: 258 :: 13 :: 97 :: 115 :: 99 :: 105 :: 105 :: 95 :: 116 :: 111 :: 108 :: 111 :: 119 :: 101 :: 114 :: 9 :: 18 :: 95 :: 115 :: 114 :: 101 :: 46 :: 97 :: 115 :: 99 :: 105 :: 105 :: 95 :: 116 :: 111 :: 108 :: 111 :: 119 :: 101 :: 114 :: 6 :: 259 :: 15 :: 117 :: 110 :: 105 :: 99 :: 111 :: 100 :: 101 :: 95 :: 116 :: 111 :: 108 :: 111 :: 119 :: 101 :: 114 :: 9 :: 20 :: 95 :: 115 :: 114 :: 101 :: 46 :: 117 :: 110 :: 105 :: 99 :: 111 :: 100 :: 101 :: 95 :: 116 :: 111 :: 108 :: 111 :: 119 :: 101 :: 114 :: 6 :: 261 :: 5 :: 77 :: 65 :: 71 :: 73 :: 67 :: 4 :: 260 :: 0 :: 20230612 :: 6 :: 263 :: 8 :: 67 :: 79 :: 68 :: 69 :: 83 :: 73 :: 90 :: 69 :: 4 :: 262 :: 0 :: 4 :: 6 :: 265 :: 9 :: 77 :: 65 :: 88 :: 82 :: 69 :: 80 :: 69 :: 65 :: 84 :: 4 :: 264 :: 0 :: 4294967295 :: 6 :: 267 :: 9 :: 77 :: 65 :: 88 :: 71 :: 82 :: 79 :: 85 :: 80 :: 83 :: 4 :: 266 :: 0 :: 1073741823 :: 6 :: 269 :: 9 :: 99 :: 111 :: 112 :: 121 :: 114 :: 105 :: 103 :: 104 :: 116 :: 6 :: 268 :: 53 :: 32 :: 83 :: 82 :: 69 :: 32 :: 50 :: 46 :: 50 :: 46 :: 50 :: 32 :: 67 :: 111 :: 112 :: 121 :: 114 :: 105 :: 103 :: 104 :: 116 :: 32 :: 40 :: 99 :: 41 :: 32 :: 49 :: 57 :: 57 :: 55 :: 45 :: 50 :: 48 :: 48 :: 50 :: 32 :: 98 :: 121 :: 32 :: 83 :: 101 :: 99 :: 114 :: 101 :: 116 :: 32 :: 76 :: 97 :: 98 :: 115 :: 32 :: 65 :: 66 :: 32 :: []))⟩ 0, .bool true, .bool false, .str "_sre" 271] 0, #[]⟩ : Obj) ::
  (⟨.type "tuple", .none, .seq #[] 0, #[]⟩ : Obj) ::
  (⟨.none, .none, .fields #[.int 4 0, .int 0 0, .ref 37, .int 20 0, .int 0 0, .ref 44, .int 31 0, .int 0 0, .ref 51, .int 58 0, .int 0 0, .ref 68, .int 111 0, .int 0 0, .ref 78, .int 114 0, .int 0 0, .ref 83, .int 118 0, .int 0 0, .ref 88, .int 130 0, .int 0 0, .ref 93, .int 134 0, .int 0 0, .ref 98, .int 139 0, .int 0 0, .ref 105, .int 146 0, .int 0 0, .ref 110, .int 170 0, .int 0 0, .ref 117, .int 174 0, .int 0 0, .ref 122, .int 177 0, .int 0 0, .ref 127], #[]⟩ : Obj) ::
  (⟨.type "code", .none, .fields #[.str "<module>" 277, .str "<module>" 278, .str "/claim/cut.py" 279, .int 1 0, .int 0 0, .int 0 0, .int 0 0, .int 0 0, .ref 28, .bool false, .int 276 0, .ref 29, .none, .none, .none, .none, .int 280 0, .int 1 0, .str "/claim/cut.py" 281], #[]⟩ : Obj) ::
  (⟨.type "frame", .none, .plain, #[.some (.ref 30), .some (.ref 3), .some (.ref 3), .none, .some (.str "__main__" 164), .none, .some (.ref 0)]⟩ : Obj) ::
  kAt P 32 ::
  (⟨.none, .none, .fields #[], #[]⟩ : Obj) ::
  kAt P 34 ::
  kAt P 35 ::
  (⟨.none, .none, .func ⟨"_div2n1n", "_div2n1n", (argsAt 3), (.stmts (bodyAt 3)), (scopeAt 3), 0, [], .none, .none, .none, .none, .none, .none, .none, 0⟩, #[]⟩ : Obj) ::
  kAt P 37 ::
  kAt P 38 ::
  kAt P 39 ::
  (⟨.none, .none, .fields #[], #[]⟩ : Obj) ::
  kAt P 41 ::
  kAt P 42 ::
  (⟨.none, .none, .func ⟨"_div3n2n", "_div3n2n", (argsAt 4), (.stmts (bodyAt 4)), (scopeAt 4), 0, [], .none, .none, .none, .none, .none, .none, .none, 0⟩, #[]⟩ : Obj) ::
  kAt P 44 ::
  kAt P 45 ::
  kAt P 46 ::
  (⟨.none, .none, .fields #[], #[]⟩ : Obj) ::
  kAt P 48 ::
  kAt P 49 ::
  (⟨.none, .none, .func ⟨"rgb_to_hls", "rgb_to_hls", (argsAt 6), (.stmts (bodyAt 6)), (scopeAt 6), 0, [], .none, .none, .none, .none, .none, .none, .none, 0⟩, #[]⟩ : Obj) ::
  kAt P 51 ::
  kAt P 52 ::
  (⟨.type "list", .none, .seq #[.int 14 343, .int 4 344, .int 0 345, .int 1 346, .int 1 347, .int 6 348, .int 1 349, .int 16 350, .int 46 351, .int 1 352] 0, #[]⟩ : Obj) ::
  (⟨.type "dict", .none, .dict #[] 0, #[]⟩ : Obj) ::
  (⟨.type "tuple", .none, .seq #[.none] 0, #[]⟩ : Obj) ::
  kAt P 56 ::
  kAt P 57 ::
  (⟨.type "list", .none, .seq #[.int 14 359, .int 9 360, .int 4 361, .int 1 362, .int 2 363, .int 16 364, .int 10 365, .int 16 366, .int 13 367, .int 0 368, .int 7 369, .int 7 370, .int 16 371, .int 13 372, .int 16 373, .int 10 374, .int 15 375, .int 18 376, .int 5 377, .int 16 378, .int 10 379, .int 15 380, .int 13 381, .int 11 382, .int 16 383, .int 13 384, .int 5 385, .int 5 386, .int 0 387, .int 16 388, .int 10 389, .int 1 390, .int 15 391, .int 2 392, .int 0 393, .int 1 394] 0, #[]⟩ : Obj) ::
  (⟨.type "dict", .none, .dict #[] 0, #[]⟩ : Obj) ::
  (⟨.type "tuple", .none, .seq #[.none] 0, #[]⟩ : Obj) ::
  kAt P 61 ::
  kAt P 62 ::
  kAt P 63 ::
  (⟨.none, .none, .fields #[], #[]⟩ : Obj) ::
  kAt P 65 ::
  kAt P 66 ::
  (⟨.none, .none, .func ⟨"quotedata", "quotedata", (argsAt 11), (.stmts (bodyAt 11)), (scopeAt 11), 0, [], .none, .none, .none, .none, .none, .none, .none, 0⟩, #[]⟩ : Obj) ::
  kAt P 68 ::
  kAt P 69 ::
  kAt P 70 ::
  (⟨.type "dict", .none, .dict #[⟨PySem.PyData.keyHash P "->", .str "->" 541, .int 51 497⟩, ⟨PySem.PyData.keyHash P ".", .str "." 543, .int 23 441⟩, ⟨PySem.PyData.keyHash P "...", .str "..." 545, .int 52 499⟩, ⟨PySem.PyData.keyHash P "/", .str "/" 547, .int 17 429⟩, ⟨PySem.PyData.keyHash P "//", .str "//" 549, .int 47 489⟩, ⟨PySem.PyData.keyHash P "//=", .str "//=" 551, .int 48 491⟩, ⟨PySem.PyData.keyHash P "/=", .str "/=" 553, .int 39 473⟩, ⟨PySem.PyData.keyHash P ":", .str ":" 555, .int 11 417⟩, ⟨PySem.PyData.keyHash P ":=", .str ":=" 557, .int 53 501⟩, ⟨PySem.PyData.keyHash P ";", .str ";" 559, .int 13 421⟩, ⟨PySem.PyData.keyHash P "<", .str "<" 561, .int 20 435⟩, ⟨PySem.PyData.keyHash P "<<", .str "<<" 563, .int 33 461⟩, ⟨PySem.PyData.keyHash P "<<=", .str "<<=" 565, .int 44 483⟩, ⟨PySem.PyData.keyHash P "<=", .str "<=" 567, .int 29 453⟩, ⟨PySem.PyData.keyHash P "=", .str "=" 569, .int 22 439⟩, ⟨PySem.PyData.keyHash P "==", .str "==" 571, .int 27 449⟩, ⟨PySem.PyData.keyHash P ">", .str ">" 573, .int 21 437⟩] 17, #[]⟩ : Obj) ::
  (⟨.type "dict", .none, .dict #[⟨PySem.PyData.keyHash P ">=", .str ">=" 575, .int 30 455⟩, ⟨PySem.PyData.keyHash P ">>", .str ">>" 576, .int 34 463⟩, ⟨PySem.PyData.keyHash P ">>=", .str ">>=" 577, .int 45 485⟩, ⟨PySem.PyData.keyHash P "@", .str "@" 578, .int 49 493⟩, ⟨PySem.PyData.keyHash P "@=", .str "@=" 579, .int 50 495⟩, ⟨PySem.PyData.keyHash P "[", .str "[" 580, .int 9 413⟩, ⟨PySem.PyData.keyHash P "]", .str "]" 581, .int 10 415⟩, ⟨PySem.PyData.keyHash P "^", .str "^" 582, .int 32 459⟩, ⟨PySem.PyData.keyHash P "^=", .str "^=" 583, .int 43 481⟩, ⟨PySem.PyData.keyHash P "{", .str "{" 584, .int 25 445⟩, ⟨PySem.PyData.keyHash P "|", .str "|" 585, .int 18 431⟩, ⟨PySem.PyData.keyHash P "|=", .str "|=" 586, .int 42 479⟩, ⟨PySem.PyData.keyHash P "}", .str "}" 587, .int 26 447⟩, ⟨PySem.PyData.keyHash P "~", .str "~" 588, .int 31 457⟩] 14, #[]⟩ : Obj) ::
  kAt P 73 ::
  (⟨.none, .none, .fields #[], #[]⟩ : Obj) ::
  kAt P 75 ::
  kAt P 76 ::
  (⟨.none, .none, .func ⟨"ISTERMINAL", "ISTERMINAL", (argsAt 63), (.stmts (bodyAt 63)), (scopeAt 63), 0, [], .none, .none, .none, .none, .none, .none, .none, 0⟩, #[]⟩ : Obj) ::
  kAt P 78 ::
  kAt P 79 ::
  kAt P 80 ::
  (⟨.none, .none, .fields #[], #[]⟩ : Obj) ::
  (⟨.none, .none, .func ⟨"_law_draws", "_law_draws", (argsAt 65), (.stmts (bodyAt 65)), (scopeAt 65), 0, [], .none, .none, .none, .none, .none, .none, .none, 0⟩, #[]⟩ : Obj) ::
  kAt P 83 ::
  kAt P 84 ::
  kAt P 85 ::
  (⟨.none, .none, .fields #[], #[]⟩ : Obj) ::
  (⟨.none, .none, .func ⟨"_law_tokens", "_law_tokens", (argsAt 66), (.stmts (bodyAt 66)), (scopeAt 66), 0, [], .none, .none, .none, .none, .none, .none, .none, 0⟩, #[]⟩ : Obj) ::
  kAt P 88 ::
  kAt P 89 ::
  kAt P 90 ::
  (⟨.none, .none, .fields #[], #[]⟩ : Obj) ::
  (⟨.none, .none, .func ⟨"_law_road", "_law_road", (argsAt 67), (.stmts (bodyAt 67)), (scopeAt 67), 0, [], .none, .none, .none, .none, .none, .none, .none, 0⟩, #[]⟩ : Obj) ::
  kAt P 93 ::
  kAt P 94 ::
  kAt P 95 ::
  (⟨.none, .none, .fields #[], #[]⟩ : Obj) ::
  (⟨.none, .none, .func ⟨"_law_cuts", "_law_cuts", (argsAt 68), (.stmts (bodyAt 68)), (scopeAt 68), 0, [], .none, .none, .none, .none, .none, .none, .none, 0⟩, #[]⟩ : Obj) ::
  kAt P 98 ::
  kAt P 99 ::
  kAt P 100 ::
  (⟨.none, .none, .fields #[], #[]⟩ : Obj) ::
  kAt P 102 ::
  kAt P 103 ::
  (⟨.none, .none, .func ⟨"_law_exits", "_law_exits", (argsAt 69), (.stmts (bodyAt 69)), (scopeAt 69), 0, [], .none, .none, .none, .none, .none, .none, .none, 0⟩, #[]⟩ : Obj) ::
  kAt P 105 ::
  kAt P 106 ::
  kAt P 107 ::
  (⟨.none, .none, .fields #[], #[]⟩ : Obj) ::
  (⟨.none, .none, .func ⟨"_law_flow", "_law_flow", (argsAt 70), (.stmts (bodyAt 70)), (scopeAt 70), 0, [], .none, .none, .none, .none, .none, .none, .none, 0⟩, #[]⟩ : Obj) ::
  kAt P 110 ::
  kAt P 111 ::
  kAt P 112 ::
  (⟨.none, .none, .fields #[], #[]⟩ : Obj) ::
  kAt P 114 ::
  kAt P 115 ::
  (⟨.none, .none, .func ⟨"_law_goods", "_law_goods", (argsAt 71), (.stmts (bodyAt 71)), (scopeAt 71), 0, [], .none, .none, .none, .none, .none, .none, .none, 0⟩, #[]⟩ : Obj) ::
  kAt P 117 ::
  kAt P 118 ::
  kAt P 119 ::
  (⟨.none, .none, .fields #[], #[]⟩ : Obj) ::
  (⟨.none, .none, .func ⟨"_law_divided", "_law_divided", (argsAt 72), (.stmts (bodyAt 72)), (scopeAt 72), 0, [], .none, .none, .none, .none, .none, .none, .none, 0⟩, #[]⟩ : Obj) ::
  kAt P 122 ::
  kAt P 123 ::
  kAt P 124 ::
  (⟨.none, .none, .fields #[], #[]⟩ : Obj) ::
  (⟨.none, .none, .func ⟨"law", "law", (argsAt 73), (.stmts (bodyAt 73)), (scopeAt 73), 0, [], .none, .none, .none, .none, .none, .none, .none, 0⟩, #[]⟩ : Obj) ::
  kAt P 127 ::
  kAt P 128 ::
  []
/-- the heap behind the opening -/
noncomputable def HAl (P : Params) : List Obj := (HZl P).take 3 ++ (⟨.type "dict", .none, .dict #[⟨PySem.PyData.keyHash P "__name__", .str "__name__" 165, .str "__main__" 164⟩, ⟨PySem.PyData.keyHash P "__doc__", .str "__doc__" 166, .none⟩, ⟨PySem.PyData.keyHash P "__package__", .str "__package__" 167, .none⟩, ⟨PySem.PyData.keyHash P "__loader__", .str "__loader__" 168, .builtin "__main__.__loader__#\x6fpaque"⟩, ⟨PySem.PyData.keyHash P "__spec__", .str "__spec__" 169, .none⟩, ⟨PySem.PyData.keyHash P "__\x61n\x6eotations__", .str "__\x61n\x6eotations__" 170, .ref 6⟩, ⟨PySem.PyData.keyHash P "__builtins__", .str "__builtins__" 171, .ref 4⟩, ⟨PySem.PyData.keyHash P "__file__", .str "__file__" 173, .str "/claim/cut.py" 172⟩, ⟨PySem.PyData.keyHash P "__cached__", .str "__cached__" 174, .none⟩, ⟨PySem.PyData.keyHash P "_sre", .str "_sre" 275, .ref 12⟩] 10, #[]⟩ : Obj) :: ((HZl P).drop 4).take 24
noncomputable def HA (P : Params) : Heap := ⟨⟨HAl P⟩, {}⟩
noncomputable def HZ (P : Params) : Heap := ⟨⟨HZl P⟩, {}⟩
noncomputable abbrev hk : Hook := kHook KK KA (fun _ => by kernel_rfl)
abbrev pp : Program := PySem.Challenge.rw_tl0015_01.row.prog
abbrev loose : List Str := [Str.ofString "_twin_re_1", Str.ofString "_twin_re_2", Str.ofString "EXACT_TOKEN_TYPES"]
set_option maxRecDepth 100000 in
set_option maxHeartbeats 0 in
theorem top_open (w : World) : (fencedOpening treeTable pp w 4224).map (fun s => (s.heap, s.gens, s.drawn, s.toks)) = some (HA w.params, #[], {}, 276) := by
  unfold fencedOpening
  rw [PySem.W.Fast.te10274390034422433532, PySem.W.Fast.te14364793385576792824, PySem.W.Fast.te14289696077712309145, PySem.W.Fast.te1435165496053646825]
  kernel_rfl
set_option maxRecDepth 100000 in
theorem top_size (w : World) : ((HA w.params).isNs mainGlobals && (#[] : Array GenState).size == 0, (HA w.params).objs.size, (HA w.params).nsMap mainGlobals (Str.ofString "__\x61n\x6eotations__")) = (true, 28, some (Value.ref 6)) := by kernel_rfl
set_option maxRecDepth 100000 in
set_option maxHeartbeats 0 in
theorem top_run0 (w : World) : (fun os : OsState => topRun treeTable pp (w.withFollow "special-get-raises" false) 28 (some (Value.ref 6)) 2068 { heap := HA w.params, toks := 276, os := os } (topStub pp)) = fun os => some { heap := HZ w.params, toks := 678, os := os } := by
  rw [PySem.W.Fast.te14082659384304107361, PySem.W.Fast.te14364793385576792824]
  kernel_rfl
set_option maxRecDepth 100000 in
set_option maxHeartbeats 0 in
theorem top_run1 (w : World) : (fun os : OsState => topRun treeTable pp (w.withFollow "special-get-raises" true) 28 (some (Value.ref 6)) 2068 { heap := HA w.params, toks := 276, os := os } (topStub pp)) = fun os => some { heap := HZ w.params, toks := 678, os := os } := by
  rw [PySem.W.Fast.te14082659384304107361, PySem.W.Fast.te14364793385576792824]
  kernel_rfl
theorem top_run (w : World) : (fun os : OsState => topRun treeTable pp w 28 (some (Value.ref 6)) 2068 { heap := HA w.params, toks := 276, os := os } (topStub pp)) = fun os => some { heap := HZ w.params, toks := 678, os := os } :=
  PySem.W.byRow2 "special-get-raises" (P := fun w => (fun os : OsState => topRun treeTable pp w 28 (some (Value.ref 6)) 2068 { heap := HA w.params, toks := 276, os := os } (topStub pp)) = fun os => some { heap := HZ w.params, toks := 678, os := os }) top_run0 top_run1 w
set_option maxRecDepth 100000 in
set_option maxHeartbeats 0 in
theorem top_looks (w : World) : (fun os => (staticsOk (importedModules pp.main.body) (HA w.params) (HZ w.params) && namesBound pp (HZ w.params) && gensDone { heap := HZ w.params, toks := 678, os := os } && laidKept (HA w.params) (HZ w.params),
   openSeen view loose (importedModules pp.main.body) (fun s => xlAt view [] s && recOk PySem.Challenge.rw_tl0015_01.row.records s) true { heap := HZ w.params, toks := 678, os := os },
   hk.obs { heap := HZ w.params, toks := 678, os := os })) = fun _ => (true, openGood view loose, hk.val w) := by
  rw [PySem.W.Fast.te4187177175401517315]
  kernel_rfl
theorem top_left : LeftO pp view loose (fun s => xlAt view [] s && recOk PySem.Challenge.rw_tl0015_01.row.records s) hk.obs hk.val 4224 :=
  LeftO.of_pieces top_open top_size (fun w os => congrFun (top_run w) os) (by decide) top_looks
set_option maxRecDepth 100000 in
set_option maxHeartbeats 0 in
theorem said : OpenLaw.wellSaid PySem.Challenge.rw_tl0015_01 = true := by
  rw [PySem.W.Fast.te9446332074065402090]
  kernel_rfl
set_option maxRecDepth 100000 in
set_option maxHeartbeats 0 in
theorem ok_chains : chainsOk view = true := by kernel_rfl
set_option maxRecDepth 100000 in
set_option maxHeartbeats 0 in
theorem ok_opens : opensWell PySem.Challenge.rw_tl0015_01.row.prog = true := by kernel_rfl
theorem ok_frees : (frees PySem.Challenge.rw_tl0015_01.row.toRowW && PySem.Challenge.rw_tl0015_01.row.within.isEmpty) = true := by kernel_rfl
theorem ok_all : (chainsOk view && opensWell PySem.Challenge.rw_tl0015_01.row.prog && (frees PySem.Challenge.rw_tl0015_01.row.toRowW && PySem.Challenge.rw_tl0015_01.row.within.isEmpty)) = true := by
  rw [ok_chains, ok_opens, ok_frees]; rfl
theorem promised : PySem.Challenge.rw_tl0015_01.row.toRowW.promised := by w_witness2
theorem bare : PySem.Challenge.rw_tl0015_01.row.prog.bare := ⟨rfl, rfl, rfl, rfl, rfl, by decide +kernel⟩
end Mine
end
section
open PySem PySem.W PyProof.Rows PySem.Spec PySem.Calls
namespace Mine

theorem sub_news {h₀ h : Heap} {L : Addr} {n₁ n₂ : List (Addr × Obj)} (N : News h₀ L h n₂) (hs : ∀ p ∈ n₁, p ∈ n₂) : News h₀ L h n₁ := fun p hp => N p (hs p hp)
theorem lt3 : ∀ k : Nat, k < 3 → k = 0 ∨ k = 1 ∨ k = 2 := by decide
theorem lt4 : ∀ k : Nat, k < 4 → k = 0 ∨ k = 1 ∨ k = 2 ∨ k = 3 := by decide
theorem lt5 : ∀ k : Nat, k < 5 → k = 0 ∨ k = 1 ∨ k = 2 ∨ k = 3 ∨ k = 4 := by decide
theorem lt8 : ∀ k : Nat, k < 8 → k = 0 ∨ k = 1 ∨ k = 2 ∨ k = 3 ∨ k = 4 ∨ k = 5 ∨ k = 6 ∨ k = 7 := by decide
theorem ne_ss {a b : Nat} (h : a ≠ b) : a + 1 ≠ b + 1 := fun e => h (Nat.succ.inj e)
theorem ne_ls {a b : Nat} (h : a ≤ b) : a ≠ b + 1 := Nat.ne_of_lt (Nat.lt_succ_of_le h)
theorem ne_rs {a b : Nat} (h : b ≤ a) : a + 1 ≠ b := Nat.ne_of_gt (Nat.lt_succ_of_le h)
theorem le_s {a b : Nat} (h : a ≤ b) : a ≤ b + 1 := Nat.le_succ_of_le h
theorem r4 {a b c d e : Prop} (h : a ∧ b ∧ c ∧ d ∧ e) : e := h.2.2.2.2
/-- what a contract hands back -/
def Ret (s : Shared) (P : Value → List (Addr × Obj) → Prop) (r : Result) (s' : Shared) : Prop :=
  ∃ v own h' tk, r = .ok (.ret v) ∧ s' = { s with heap := h', toks := tk } ∧ (∀ b o, s.heap.get? b = some o → h'.get? b = some o) ∧
    (∀ p ∈ own, h'.get? p.1 = some p.2 ∧ s.heap.get? p.1 = none) ∧ P v own

theorem Ret.intro {s : Shared} {P : Value → List (Addr × Obj) → Prop} {L : Addr} {h₁ : Heap} {m : Str → Option Value} {news : List (Addr × Obj)} {v : Value} {tk : Nat} (own : List (Addr × Obj))
    (F : Fr s.heap L h₁ m) (N : News s.heap L h₁ news) (hs : ∀ p ∈ own, p ∈ news) (hp : P v own) : Ret s P (.ok (.ret v)) { s with heap := h₁, toks := tk } :=
  ⟨v, own, h₁, tk, rfl, rfl, F.keep, fun p hp => ⟨(N p (hs p hp)).1, (N p (hs p hp)).2.2⟩, hp⟩

section
variable {prog : Program} {w : World} {A : Around} {E : Value → Shared → Prop} {s : Shared} {K : Frag} {p : Program} {loose : List Str} {mean : ExcName → Option Value} {mg mb : Str → Option Value}

theorem enter {R : Result → Shared → Prop} {name qual : Str} {params : Arguments} {body : List Stmt} {scope : Scope} {dV kV doc pm cdv ct oc : Value} {an od : Option Addr} {osl : Array (Option Value)} {f : Addr} {args : Args} {binds : List (Str × Value)}
    (X : K.In s.heap) (T : Top p loose mean mg mb s.heap) (hroom : A.depth < recursionLimit)
    (ho : K.lookup f = some ⟨oc, od, .func (fnOf name qual params body scope dV kV doc pm an cdv ct), osl⟩) (hcd : codeIn K cdv qual = true)
    (hbind : BindsTo s (fnOf name qual params body scope dV kV doc pm an cdv ct) args binds) (hloc : ∀ y ∈ binds, scope.names.lookup y.1 = some .local)
    (h : ∀ L h₁, Fr s.heap L h₁ (fun y => binds.reverse.lookup y) → News s.heap L h₁ [] →
      wpAny (model prog w) (A.deeper (envOf qual scope L f cdv)) (execs body (envOf qual scope L f cdv))
        (fun fl s' => R (.ok (.ret (match fl with | .ret v => v | _ => .none))) s') (fun _ _ => False)
        { s with heap := h₁, toks := s.toks + binds.length })
    (hco : scope.isCoroutine = false) (hgen : scope.isGenerator = false) (hk : scope.kind = .function)
    (hcell : ∀ x ∈ scope.names, x.2 ≠ .cell) : codeAny (model prog w) A (.call (.ref f) args) R s := by
  refine codeAny_call_def (fd := fnX name qual params body scope [] dV kV doc pm an cdv ct) (body := body) (binds := binds) hroom (X _ _ ho) rfl T.nolimit (codeRec_of X hcd) rfl hbind hcell hloc (fun h₁ hns hk₁ => ?_) hco hgen hk
  exact wpAny_mono (h s.heap.objs.size h₁ ⟨hns, hk₁, Nat.le_refl _⟩ News.nil) (fun fl s' hl => hl) fun _ _ y => y.elim

theorem call_by {f : Addr} {args : List Value} {P : Value → List (Addr × Obj) → Prop} {Q : Value → Shared → Prop} {h₀ : Heap} {L : Addr} {m : Str → Option Value} {news : List (Addr × Obj)}
    (F : Fr h₀ L s.heap m) (N : News h₀ L s.heap news) (hc : codeAny (model prog w) A (.call (.ref f) ⟨args, []⟩) (Ret s P) s)
    (h : ∀ v own h' tk, P v own → Fr h₀ L h' m → News h₀ L h' (own ++ news) → (∀ b o, s.heap.get? b = some o → h'.get? b = some o) → (∀ p ∈ own, s.heap.get? p.1 = none) →
      Q v { s with heap := h', toks := tk }) : wpAny (model prog w) A (call (.ref f) args) Q E s := by
  refine wpAny_call (codeAny_mono hc fun r s' hr => ?_)
  obtain ⟨v, own, h', tk, rfl, rfl, hk, hn, hp⟩ := hr
  refine h v own h' tk hp (F.keeps hk) (fun q hq => ?_) hk fun q hq => (hn q hq).2
  rcases List.mem_append.mp hq with hq | hq
  · refine ⟨(hn q hq).1, ?_, ?_⟩
    · intro e
      obtain ⟨oL, _, _, hL, _⟩ := F.ns
      have := (hn q hq).2
      rw [e, hL] at this; cases this
    · cases e : h₀.get? q.1 with
      | none => rfl
      | some o => have := F.keep _ _ e; rw [(hn q hq).2] at this; cases this
  · exact ⟨hk _ _ (N q hq).1, (N q hq).2⟩
end
end Mine
namespace Mine
section
variable {prog : Program} {w : World} {A : Around} {E : Value → Shared → Prop} {s : Shared} {K : Frag} {p : Program} {loose : List Str} {mean : ExcName → Option Value} {mg mb : Str → Option Value}

theorem enterC {R : Result → Shared → Prop} {name qual : Str} {params : Arguments} {body : List Stmt} {scope : Scope} {dV kV doc pm cdv ct oc : Value} {an od : Option Addr} {osl : Array (Option Value)} {f : Addr} {args : Args} {binds : List (Str × Value)}
    (X : K.In s.heap) (T : Top p loose mean mg mb s.heap) (hroom : A.depth < recursionLimit)
    (ho : K.lookup f = some ⟨oc, od, .func (fnOf name qual params body scope dV kV doc pm an cdv ct), osl⟩) (hcd : codeIn K cdv qual = true)
    (hbind : BindsTo s (fnOf name qual params body scope dV kV doc pm an cdv ct) args binds) (hkind : (binds.all fun y => scope.names.lookup y.1 == some .local || scope.names.lookup y.1 == some .cell) = true)
    (hnd : ((cellsFrom 0 scope.names []).map (·.1)).Nodup)
    (h : ∀ L h₁ tk cells, Fr s.heap L h₁ (bindL (envOfC qual scope L f cdv).kindOf binds fun _ => none) → News s.heap L h₁ cells →
      CellsAre (bindC (envOfC qual scope L f cdv).kindOf binds fun _ => none) (cellsFrom (L + 1) scope.names []) cells →
      wpAny (model prog w) (A.deeper (envOfC qual scope L f cdv)) (execs body (envOfC qual scope L f cdv))
        (fun fl s' => R (.ok (.ret (match fl with | .ret v => v | _ => .none))) s') (fun _ _ => False)
        { s with heap := h₁, toks := tk })
    (hco : scope.isCoroutine = false) (hgen : scope.isGenerator = false) (hk : scope.kind = .function) : codeAny (model prog w) A (.call (.ref f) args) R s := by
  refine codeAny_call_function (fd := fnX name qual params body scope [] dV kV doc pm an cdv ct) hroom (X _ _ ho) rfl hco hgen rfl (codeRec_of X hcd) (hbind _ _ _ _ ?_)
  refine wpAny_newFunctionEnv_cells hk (kindsX hkind _) fun env' he s' x => ?_
  subst he
  refine ⟨T.nolimit.keeps x.toInCall.keep, codeAny_func ?_⟩
  obtain ⟨h₁, tk, rfl, _⟩ := x.done
  obtain ⟨cells, NC, Y⟩ := Cl.news (h₀ := s.heap) (Nat.le_refl _) fun n c hm => ⟨x.cell n c (lookup_of_mem_nodup (cellsFrom_names scope.names 0 (s.heap.objs.size + 1) [] [] rfl ▸ hnd) hm), x.above n c hm⟩
  exact wpAny_mono (h s.heap.objs.size h₁ tk cells ⟨x.toInCall.ns, x.toInCall.keep, Nat.le_refl _⟩ NC Y) (fun fl s' hl => hl) fun _ _ y => y.elim
end
end Mine
namespace Mine
section
variable {prog : Program} {w : World} {A : Around} {h₀ : Heap} {L : Addr} {m : Str → Option Value} {env : Env} {elt : Expr} {x : Str} {scope : Scope} {cl : List (Str × Addr)} {s : Shared} {S : List (Addr × Obj) → Prop} {P : Nat → Value → Prop} {Fin : List Value → List (Addr × Obj) → Prop} {news : List (Addr × Obj)}

/-- a comprehension's turns by an invariant over the turn's number, the list made so far and the ledger -/
theorem comp_inv {n : Nat} (Inv : Nat → List Value → List (Addr × Obj) → Prop) (start : Inv 0 [] news)
    (turn : ∀ i ys nw v I oI C oC D m₂ h tk (E' : Value → Shared → Prop), i < n → Inv i ys nw → P i v → LCg.NsObj oC m₂ → m₂ x = some v → Fr h₀ L h m → News h₀ L h ((I, oI) :: (C, oC) :: (D, LCg.lst ys) :: nw) → LCg.Off3 I C D nw → ((@Ne Nat I C) ∧ (@Ne Nat I D) ∧ (@Ne Nat C D)) →
      wpAny (model prog w) A (eval elt (compEnvC scope cl C env)) (LCg.CompEnd h₀ L m { s with heap := h, toks := tk } I oI C oC D (LCg.lst ys) S (fun y nw' => Inv (i + 1) (ys ++ [y]) nw')) E' { s with heap := h, toks := tk })
    (fin : ∀ ys nw, Inv n ys nw → Fin ys nw) : LCg.CompRest prog w A h₀ L m env elt x scope cl s S P Fin n 0 [] news := by
  have key : ∀ (j i : Nat) (ys : List Value) (nw : List (Addr × Obj)), i + j = n → Inv i ys nw → LCg.CompRest prog w A h₀ L m env elt x scope cl s S P Fin j i ys nw := by
    intro j
    induction j with
    | zero =>
      intro i ys nw hi hv
      have e : i = n := by omega
      subst e
      exact LCg.CompRest.zero (fin ys nw hv)
    | succ j ih =>
      intro i ys nw hi hv
      refine LCg.CompRest.succ ?_
      intro v I oI C oC D m₂ h tk E' hp hC hx F N off ne
      refine wpAny_mono (turn i ys nw v I oI C oC D m₂ h tk E' (by omega) hv hp hC hx F N off ne) (fun y s₂ hq => ?_) fun _ _ e => e
      obtain ⟨h', tk', nw', e, F', N', off', hS, hi'⟩ := hq
      exact ⟨h', tk', nw', e, F', N', off', hS, ih (i + 1) _ _ (by omega) hi'⟩
  exact key n 0 [] news (by omega) start
end
end Mine
namespace Mine
/-- k frames deep below the caller -/
abbrev Ac (k : Nat) (fr : Option (List Env)) (gd : Option (List Code)) : Around := { handled := none, depth := 301 + k, frames := fr, guards := gd, units := 4 + 3 * k }
end Mine
namespace Mine
def Stop (P : Prop) : Prop := P
theorem Stop.out {P : Prop} (h : Stop P) : P := h
theorem Stop.mk {P : Prop} (h : P) : Stop P := h
section
variable {prog : Program} {w : World} {A : Around} {h₀ : Heap} {L : Addr} {m : Str → Option Value} {env : Env} {elt : Expr} {x : Str} {scope : Scope} {cl : List (Str × Addr)} {s : Shared} {S : List (Addr × Obj) → Prop} {P : Nat → Value → Prop} {Fin : List Value → List (Addr × Obj) → Prop} {news : List (Addr × Obj)}

/-- over a range, the ledger as it stood -/
theorem comp_range {n : Nat} {a : Int} (J : Nat → List Value → Prop) (start : J 0 [])
    (turn : ∀ i ys t I oI C oC D m₂ h tk (E' : Value → Shared → Prop), i < n → J i ys → LCg.NsObj oC m₂ → m₂ x = some (.int (a + (i : Int)) t) → Fr h₀ L h m → News h₀ L h ((I, oI) :: (C, oC) :: (D, LCg.lst ys) :: news) → LCg.Off3 I C D news → ((@Ne Nat I C) ∧ (@Ne Nat I D) ∧ (@Ne Nat C D)) →
      wpAny (model prog w) A (eval elt (compEnvC scope cl C env)) (LCg.CompEnd h₀ L m { s with heap := h, toks := tk } I oI C oC D (LCg.lst ys) S (fun y nw' => nw' = news ∧ J (i + 1) (ys ++ [y]))) E' { s with heap := h, toks := tk })
    (fin : ∀ ys, J n ys → Fin ys news) : LCg.CompRest prog w A h₀ L m env elt x scope cl s S (fun i v => ∃ t, v = .int (a + (i : Int)) t) Fin n 0 [] news :=
  comp_inv (fun i ys nw => nw = news ∧ J i ys) ⟨rfl, start⟩
    (fun i ys nw v I oI C oC D m₂ h tk E' hi hv hp hC hx F N off ne => by
      obtain ⟨rfl, hj⟩ := hv
      obtain ⟨t, rfl⟩ := hp
      exact turn i ys t I oI C oC D m₂ h tk E' hi hj hC hx F N off ne)
    (fun ys nw hv => by obtain ⟨rfl, hj⟩ := hv; exact fin ys hj)
end
section
variable {prog : Program} {w : World} {A : Around} {E : Value → Shared → Prop} {s : Shared} {h₀ : Heap} {L : Addr} {m : Str → Option Value} {news : List (Addr × Obj)}
theorem sub_ints {value slice : Expr} {l : Addr} {vs : List Value} {n : Nat} {ns : List Int} {k : Int} {u : Tok} {Q : Value → Shared → Prop} (N : News h₀ L s.heap news) (hm : (l, listOf vs.toArray n) ∈ news)
    (hi : IntsAre vs ns) (h0 : 0 ≤ k) (h1 : k < ns.length) (hb : ns.length < 2 ^ 62) (h : ∀ t, Q (.int (ns.getD k.toNat 0) t) s)
    (hs : subscripted slice false (.ref l) (.int k u) = operate [.ref l, .int k u] (getItem (.ref l) (.int k u)) := by with_unfolding_all rfl) :
    wpAny (model prog w) A (subscriptTail value slice (.ref l) (.int k u)) Q E s := by
  have hl : s.heap.IsList l vs.toArray := ⟨_, (N _ hm).1, rfl, n, rfl⟩
  have hk : k.toNat < ns.length := by omega
  obtain ⟨t, hx⟩ := hi.get k.toNat ns[k.toNat] (by simp [hk])
  have e : ns.getD k.toNat 0 = ns[k.toNat] := by simp [hk]
  exact tail_any hl.typeIs slot_list_getitem.lookup (wpAny_getItem_list hl h0 (by omega) (by simpa using hx) (e ▸ h t)) hs
theorem sub_base {value slice : Expr} {l : Addr} {vs : List Value} {ns : List Int} {k : Int} {u : Tok} {Q : Value → Shared → Prop} (F : Fr h₀ L s.heap m) (hl0 : h₀.IsList l vs.toArray)
    (hi : IntsAre vs ns) (h0 : 0 ≤ k) (h1 : k < ns.length) (hb : ns.length < 2 ^ 62) (h : ∀ t, Q (.int (ns.getD k.toNat 0) t) s)
    (hs : subscripted slice false (.ref l) (.int k u) = operate [.ref l, .int k u] (getItem (.ref l) (.int k u)) := by with_unfolding_all rfl) :
    wpAny (model prog w) A (subscriptTail value slice (.ref l) (.int k u)) Q E s := by
  have hl : s.heap.IsList l vs.toArray := hl0.at fun o e => F.keep l o e
  have hk : k.toNat < ns.length := by omega
  obtain ⟨t, hx⟩ := hi.get k.toNat ns[k.toNat] (by simp [hk])
  have e : ns.getD k.toNat 0 = ns[k.toNat] := by simp [hk]
  exact tail_any hl.typeIs slot_list_getitem.lookup (wpAny_getItem_list hl h0 (by omega) (by simpa using hx) (e ▸ h t)) hs
end
end Mine
namespace Mine
theorem base_list {h₀ h : Heap} {L l : Addr} {m : Str → Option Value} {items : Array Value} (F : Fr h₀ L h m) (hl : h₀.IsList l items) : h.IsList l items := hl.at fun o e => F.keep l o e
theorem base_tup {h₀ h : Heap} {L l : Addr} {m : Str → Option Value} {items : Array Value} (F : Fr h₀ L h m) (hl : IsTup h₀ l items) : IsTup h l items := IsTup.keeps hl F.keep
end Mine
namespace Mine
def PA (k : Nat) : Int := ([0, 2, 1, 3, 0, 1, 2, 3] : List Int).getD k 0
def PB (k : Nat) : Int := ([2, 1, 3, 0, 4, 4, 4, 4] : List Int).getD k 0
theorem PA_lo : ∀ k, k < 8 → 0 ≤ PA k ∧ PA k < 5 := by decide
theorem PB_lo : ∀ k, k < 8 → 0 ≤ PB k ∧ PB k < 5 := by decide
def PairsAt (h : Heap) (l : Addr) : Prop := ∃ vs : List Value, h.IsList l vs.toArray ∧ vs.length = 8 ∧ ∀ k, k < 8 → ∃ q t1 t2, vs[k]? = some (.ref q) ∧ h.IsList q [.int (PA k) t1, .int (PB k) t2].toArray
section
variable {prog : Program} {w : World} {A : Around} {E : Value → Shared → Prop} {s : Shared} {h₀ : Heap} {L : Addr} {m : Str → Option Value} {news : List (Addr × Obj)}
theorem sub_at {value slice : Expr} {l : Addr} {vs : List Value} {k : Int} {u : Tok} {v : Value} {Q : Value → Shared → Prop} (hl : s.heap.IsList l vs.toArray) (h0 : 0 ≤ k) (hb : k < 2 ^ 63) (hv : vs[k.toNat]? = some v) (h : Q v s)
    (hs : subscripted slice false (.ref l) (.int k u) = operate [.ref l, .int k u] (getItem (.ref l) (.int k u)) := by with_unfolding_all rfl) :
    wpAny (model prog w) A (subscriptTail value slice (.ref l) (.int k u)) Q E s :=
  tail_any hl.typeIs slot_list_getitem.lookup (wpAny_getItem_list hl h0 hb (by simpa using hv) h) hs
theorem sub_pairs {value slice : Expr} {l : Addr} {k : Nat} {u : Tok} {Q : Value → Shared → Prop} (F : Fr h₀ L s.heap m) (hp : PairsAt h₀ l) (h1 : k < 8)
    (h : ∀ q t1 t2, h₀.IsList q [.int (PA k) t1, .int (PB k) t2].toArray → Q (.ref q) s)
    (hs : subscripted slice false (.ref l) (.int (k : Int) u) = operate [.ref l, .int (k : Int) u] (getItem (.ref l) (.int (k : Int) u)) := by with_unfolding_all rfl) :
    wpAny (model prog w) A (subscriptTail value slice (.ref l) (.int (k : Int) u)) Q E s := by
  obtain ⟨vs, hl, hn, hx⟩ := hp
  obtain ⟨q, t1, t2, e, hq⟩ := hx k h1
  exact sub_at (base_list F hl) (by omega) (by omega) (by simpa using e) (h q t1 t2 hq) hs
theorem sub_intsN {value slice : Expr} {l : Addr} {vs : List Value} {n : Nat} {ns : List Int} {k : Nat} {u : Tok} {Q : Value → Shared → Prop} (N : News h₀ L s.heap news) (hm : (l, listOf vs.toArray n) ∈ news)
    (hi : IntsAre vs ns) (h1 : k < ns.length) (hb : ns.length < 2 ^ 62) (h : ∀ t, Q (.int (ns.getD k 0) t) s)
    (hs : subscripted slice false (.ref l) (.int (k : Int) u) = operate [.ref l, .int (k : Int) u] (getItem (.ref l) (.int (k : Int) u)) := by with_unfolding_all rfl) :
    wpAny (model prog w) A (subscriptTail value slice (.ref l) (.int (k : Int) u)) Q E s := sub_ints N hm hi (by omega) (by omega) hb (by simpa using h) hs
theorem sub_baseN {value slice : Expr} {l : Addr} {vs : List Value} {ns : List Int} {k : Nat} {u : Tok} {Q : Value → Shared → Prop} (F : Fr h₀ L s.heap m) (hl0 : h₀.IsList l vs.toArray)
    (hi : IntsAre vs ns) (h1 : k < ns.length) (hb : ns.length < 2 ^ 62) (h : ∀ t, Q (.int (ns.getD k 0) t) s)
    (hs : subscripted slice false (.ref l) (.int (k : Int) u) = operate [.ref l, .int (k : Int) u] (getItem (.ref l) (.int (k : Int) u)) := by with_unfolding_all rfl) :
    wpAny (model prog w) A (subscriptTail value slice (.ref l) (.int (k : Int) u)) Q E s := sub_base F hl0 hi (by omega) (by omega) hb (by simpa using h) hs
end
end Mine
namespace Mine
section
variable {prog : Program} {w : World} {A : Around} {h₀ : Heap} {L : Addr} {m : Str → Option Value} {env : Env} {elt : Expr} {x : Str} {scope : Scope} {cl : List (Str × Addr)} {s : Shared} {S : List (Addr × Obj) → Prop} {P : Nat → Value → Prop} {Fin : List Value → List (Addr × Obj) → Prop} {news : List (Addr × Obj)}
theorem comp_range0 {n : Nat} (J : Nat → List Value → Prop) (start : J 0 [])
    (turn : ∀ (i : Nat) ys t I oI C oC D m₂ h tk (E' : Value → Shared → Prop), i < n → J i ys → LCg.NsObj oC m₂ → m₂ x = some (.int (i : Int) t) → Fr h₀ L h m → News h₀ L h ((I, oI) :: (C, oC) :: (D, LCg.lst ys) :: news) → LCg.Off3 I C D news → ((@Ne Nat I C) ∧ (@Ne Nat I D) ∧ (@Ne Nat C D)) →
      wpAny (model prog w) A (eval elt (compEnvC scope cl C env)) (LCg.CompEnd h₀ L m { s with heap := h, toks := tk } I oI C oC D (LCg.lst ys) S (fun y nw' => nw' = news ∧ J (i + 1) (ys ++ [y]))) E' { s with heap := h, toks := tk })
    (fin : ∀ ys, J n ys → Fin ys news) : LCg.CompRest prog w A h₀ L m env elt x scope cl s S (fun i v => ∃ t, v = .int (0 + (i : Int)) t) Fin n 0 [] news :=
  comp_range J start (fun i ys t I oI C oC D m₂ h tk E' hi hj hC hx F N off ne => turn i ys t I oI C oC D m₂ h tk E' hi hj hC (by rw [hx, Int.zero_add]) F N off ne) fin
end
end Mine
end
section
open PySem PySem.W PyProof.Rows PySem.Spec PySem.Calls
namespace Mine
theorem fr_name {h₀ h : Heap} {L : Addr} {m : Str → Option Value} {x : Str} {v : Value} (F : Fr h₀ L h m) (hx : m x = some v) : Fr h₀ L h (fun y => if y = x then some v else m y) := by
  have e : (fun y => if y = x then some v else m y) = m := by
    funext y
    by_cases q : y = x
    · rw [if_pos q, q, hx]
    · rw [if_neg q]
  rw [e]; exact F

section
variable {prog : Program} {w : World} {A : Around} {E : Value → Shared → Prop} {s : Shared} {env : Env} {h₀ : Heap} {L : Addr}

/-- how a turn ends -/
def TurnEnd {σ : Type} (h₀ : Heap) (L : Addr) (M : σ → (Str → Option Value) → Str → Option Value) (Led : σ → List (Addr × Obj)) (P : σ → Prop) (own : List (Addr × Obj)) (s : Shared) (Q : Flow → Shared → Prop) (f : Flow) (s' : Shared) : Prop :=
  match f with
  | .ret v => Q (.ret v) s'
  | .brk => Q .next s'
  | _ => ∃ c m₀ h tk nw, s' = { s with heap := h, toks := tk } ∧ Fr h₀ L h (M c m₀) ∧ News h₀ L h nw ∧ (∀ p ∈ Led c, p ∈ nw) ∧ (∀ p ∈ own, p ∈ nw) ∧ P c

theorem TurnEnd.intro {σ : Type} {M : σ → (Str → Option Value) → Str → Option Value} {Led : σ → List (Addr × Obj)} {P : σ → Prop} {own nw : List (Addr × Obj)} {s : Shared} {Q : Flow → Shared → Prop} {h : Heap} {tk : Nat} (c : σ) (m₀ : Str → Option Value)
    (F : Fr h₀ L h (M c m₀)) (N : News h₀ L h nw) (hl : ∀ p ∈ Led c, p ∈ nw) (ho : ∀ p ∈ own, p ∈ nw) (hp : P c) : TurnEnd h₀ L M Led P own s Q .next { s with heap := h, toks := tk } :=
  ⟨c, m₀, h, tk, nw, rfl, F, N, hl, ho, hp⟩

theorem while_fr {σ : Type} {test : Expr} {body : List Stmt} {pos : Pos} {Q : Flow → Shared → Prop} (M : σ → (Str → Option Value) → Str → Option Value) (Led : σ → List (Addr × Obj)) (P : σ → Prop) (μ : σ → Nat) (c₀ : σ) (m₀ : Str → Option Value) {news : List (Addr × Obj)}
    (F : Fr h₀ L s.heap (M c₀ m₀)) (N : News h₀ L s.heap news) (hsub : ∀ p ∈ Led c₀, p ∈ news) (hp : P c₀)
    (turn : ∀ c m₁ h tk (E' : Value → Shared → Prop), P c → Fr h₀ L h (M c m₁) → News h₀ L h (Led c) →
      wpAny (model prog w) A (isTrue test env (eval test env)) (fun b s₂ => if b = true then wpAny (model prog w) A (execs body env) (TurnEnd h₀ L M Led (fun c' => P c' ∧ μ c' < μ c) [] { s with heap := h, toks := tk } Q) E' s₂ else Q .next s₂) E' { s with heap := h, toks := tk }) :
    wpAny (model prog w) A (exec (.While test body [] pos) env) Q E s := by
  refine wpAny_While (codeAny_whileLoop (fun n s' => ∃ c m₁ h tk, s' = { s with heap := h, toks := tk } ∧ n = μ c ∧ P c ∧ Fr h₀ L h (M c m₁) ∧ News h₀ L h (Led c)) ?_ (μ c₀) ⟨c₀, m₀, s.heap, s.toks, rfl, rfl, hp, F, fun p hp => N p (hsub p hp)⟩)
  rintro n s' ⟨c, m₁, h, tk, rfl, rfl, hP, F', N'⟩
  refine wpAny_mono (turn c m₁ h tk _ hP F' N') (fun b s₂ hb => ?_) fun _ _ e => e
  cases b with
  | false =>
    simp only [Bool.false_eq_true, if_false] at hb ⊢
    exact wpAny_execs_nil hb
  | true =>
    simp only [if_true] at hb ⊢
    refine wpAny_mono hb (fun f s₃ hf => ?_) fun _ _ e => e
    have fin : (∃ c' m₀' h' tk' nw, s₃ = { ({ s with heap := h, toks := tk } : Shared) with heap := h', toks := tk' } ∧ Fr h₀ L h' (M c' m₀') ∧ News h₀ L h' nw ∧ (∀ p ∈ Led c', p ∈ nw) ∧ (∀ p ∈ ([] : List (Addr × Obj)), p ∈ nw) ∧ (P c' ∧ μ c' < μ c)) →
        ∃ k, k < μ c ∧ ∃ c m₁ h tk, s₃ = { s with heap := h, toks := tk } ∧ k = μ c ∧ P c ∧ Fr h₀ L h (M c m₁) ∧ News h₀ L h (Led c) := by
      rintro ⟨c', m', h', tk', nw, rfl, F'', N'', hl, _, hp', hlt⟩
      exact ⟨μ c', hlt, c', m', h', tk', rfl, rfl, hp', F'', fun p hp => N'' p (hl p hp)⟩
    cases f with
    | ret v => exact hf
    | brk => exact hf
    | next => exact fin hf
    | cont => exact fin hf

/-- how a for's turn ends -/
def ForEnd {σ : Type} (h₀ : Heap) (L : Addr) (M : σ → (Str → Option Value) → Str → Option Value) (Led : σ → List (Addr × Obj)) (P : σ → Prop) (own : List (Addr × Obj)) (I : Addr) (s : Shared) (f : Flow) (s' : Shared) : Prop :=
  f = .next ∧ ∃ c m₀ h tk nw, s' = { s with heap := h, toks := tk } ∧ Fr h₀ L h (M c m₀) ∧ News h₀ L h nw ∧ (∀ p ∈ Led c, p ∈ nw) ∧ (∀ p ∈ own, p ∈ nw) ∧ (∀ p ∈ Led c, p.1 ≠ I) ∧ P c
theorem ForEnd.intro {σ : Type} {M : σ → (Str → Option Value) → Str → Option Value} {Led : σ → List (Addr × Obj)} {P : σ → Prop} {own nw : List (Addr × Obj)} {I : Addr} {s : Shared} {h : Heap} {tk : Nat} (c : σ) (m₀ : Str → Option Value)
    (F : Fr h₀ L h (M c m₀)) (N : News h₀ L h nw) (hl : ∀ p ∈ Led c, p ∈ nw) (ho : ∀ p ∈ own, p ∈ nw) (hi : ∀ p ∈ Led c, p.1 ≠ I) (hp : P c) : ForEnd h₀ L M Led P own I s .next { s with heap := h, toks := tk } :=
  ⟨rfl, c, m₀, h, tk, nw, rfl, F, N, hl, ho, hi, hp⟩

/-- a for over what walks; the iterator's own objects stand in own -/
theorem for_walks {σ : Type} {R : Result → Shared → Prop} {target : Expr} {body : List Stmt} {I : Addr} {fp : List Addr} {n : Nat} {Pv : Nat → Value → Prop} {St : Nat → Heap → Prop} (W : Walks prog w A I fp [I] n Pv St)
    (M : σ → (Str → Option Value) → Str → Option Value) (Led : σ → List (Addr × Obj)) (P : Nat → σ → Prop) (c₀ : σ) (m₀ : Str → Option Value)
    (hLf : env.locals ∉ fp) (hI : h₀.get? I = none) (hst : St 0 s.heap) (F : Fr h₀ env.locals s.heap (M c₀ m₀)) (N : News h₀ env.locals s.heap (Led c₀)) (hnI : ∀ p ∈ Led c₀, p.1 ≠ I) (hp : P 0 c₀)
    (hgo : ∀ i (s' : Shared) v (Q' : Unit → Shared → Prop) (E' : Value → Shared → Prop), St i s'.heap → Q' () s' → wpAny (model prog w) A (letOwnedTupleGo target (.ref I) v) Q' E' s')
    (turn : ∀ i v c m₁ (s₁ : Shared) own (E' : Value → Shared → Prop), i < n → Pv i v → P i c → (∀ p ∈ own, p.1 ∈ fp) → (∀ p ∈ Led c, p.1 ≠ I) → Fr h₀ env.locals s₁.heap (M c m₁) → News h₀ env.locals s₁.heap (Led c ++ own) →
      wpAny (model prog w) A (assign target env v) (fun _ s₃ => wpAny (model prog w) A (execs body env) (ForEnd h₀ env.locals M Led (P (i + 1)) own I s₁) E' s₃) E' s₁)
    (done : ∀ c m₁ h tk, P n c → Fr h₀ env.locals h (M c m₁) → News h₀ env.locals h (Led c) → R (.ok .next) { s with heap := h, toks := tk }) :
    codeAny (model prog w) A (.forLoop target (.ref I) body [] env) R s := by
  refine codeAny_forLoop_anyU W hLf (fun b hb => by rw [List.mem_singleton.mp hb]; exact hI) (fun p hp hq => hnI p hp (List.mem_singleton.mp hq)) hst F N (fun i s' v Q' a b => hgo i s' v Q' _ a b)
    (fun i m nw => ∃ c m₁, m = M c m₁ ∧ nw = Led c ∧ P i c) ⟨c₀, m₀, rfl, rfl, hp⟩ ?_ ?_
  · rintro i v m₁ news₁ s₁ own hi hv ⟨c, m', rfl, rfl, hP⟩ hoff hown hog hall hst₁ F₁ N₁
    refine wpAny_mono (turn i v c m' s₁ own _ hi hv hP hown (fun p hp q => hoff p hp (List.mem_singleton.mpr q)) F₁ fun p hp => N₁ p ((List.mem_append.mp hp).elim (fun h => List.mem_append.mpr (.inr h)) fun h => List.mem_append.mpr (.inl h)))
      (fun _ s₂ h₂ => wpAny_mono h₂ (fun f s₃ h₃ => ?_) fun _ _ e => e) fun _ _ e => e
    obtain ⟨rfl, c', m₀', h', tk', nw, rfl, F', N', hl, ho, hi', hp'⟩ := h₃
    exact ⟨rfl, h', tk', _, Led c', rfl, F', fun p hp => N' p ((List.mem_append.mp hp).elim (ho p) (hl p)), fun p hp hq => hi' p hp (List.mem_singleton.mp hq), c', m₀', rfl, rfl, hp'⟩
  · rintro h' tk m' news' F' N' _ ⟨c, m₁, rfl, rfl, hP⟩
    exact done c m₁ h' tk hP F' N'

theorem for_list {σ : Type} {R : Result → Shared → Prop} {target : Expr} {body : List Stmt} {l : Addr} {items : Array Value}
    (M : σ → (Str → Option Value) → Str → Option Value) (Led : σ → List (Addr × Obj)) (P : Nat → σ → Prop) (c₀ : σ) (m₀ : Str → Option Value) {news : List (Addr × Obj)}
    (hh : A.handled = none) (hl : s.heap.IsList l items) (hlL : l ≠ env.locals) (F : Fr h₀ env.locals s.heap (M c₀ m₀)) (N : News h₀ env.locals s.heap news) (hsub : ∀ p ∈ Led c₀, p ∈ news) (hp : P 0 c₀)
    (turn : ∀ i v c m₁ (s₁ : Shared) own I (E' : Value → Shared → Prop), i < items.size → items[i]? = some v → P i c → (∀ p ∈ own, p.1 = I ∨ p.1 = l) → (∀ p ∈ Led c, p.1 ≠ I) → Fr h₀ env.locals s₁.heap (M c m₁) → News h₀ env.locals s₁.heap (Led c ++ own) →
      wpAny (model prog w) A (assign target env v) (fun _ s₃ => wpAny (model prog w) A (execs body env) (ForEnd h₀ env.locals M Led (P (i + 1)) own I s₁) E' s₃) E' s₁)
    (done : ∀ c m₁ h tk, P items.size c → Fr h₀ env.locals h (M c m₁) → News h₀ env.locals h (Led c) → R (.ok .next) { s with heap := h, toks := tk }) :
    wpAny (model prog w) A (pyIter (.ref l)) (fun it s₂ => codeAny (model prog w) A (.forLoop target it body [] env) R s₂) E s := by
  obtain ⟨ol, hol, _⟩ := id hl
  have hne : l ≠ s.heap.objs.size := Nat.ne_of_lt (Heap.lt_size hol)
  refine wpAny_pyIter_list hl ?_
  refine for_walks (Walks.list (prog := prog) (w := w) hh s.heap.objs.size l hne items) M Led P c₀ m₀ ?_ (next_is_new F) ⟨⟨_, Heap.get?_push_size _ rfl, rfl, rfl⟩, hl.push _⟩ (F.push _) (fun p hp => ⟨Heap.get?_push_of_some _ (N p (hsub p hp)).1, (N p (hsub p hp)).2⟩)
    (fun p hp => Nat.ne_of_lt (Heap.lt_size (N p (hsub p hp)).1)) hp (fun i s' v Q' E' st hQ' => letGo_listiter st.1 hQ') (fun i v c m₁ s₁ own E' hi hv hP ho hI F₁ N₁ => turn i v c m₁ s₁ own _ E' hi hv hP (fun p hp => ?_) hI F₁ N₁) (fun c m₁ h tk hP F₁ N₁ => done c m₁ h tk hP F₁ N₁)
  · intro hm
    rcases List.mem_cons.mp hm with e | hm
    · exact absurd F.ns.lt (e ▸ Nat.lt_irrefl _)
    · exact hlL (List.mem_singleton.mp hm).symm
  · rcases List.mem_cons.mp (ho p hp) with e | e
    · exact .inl e
    · exact .inr (List.mem_singleton.mp e)

theorem for_range {σ : Type} {R : Result → Shared → Prop} {target : Expr} {body : List Stmt} {r : Addr} {b : Int} {t u v : Tok} {n : Nat}
    (M : σ → (Str → Option Value) → Str → Option Value) (Led : σ → List (Addr × Obj)) (P : Nat → σ → Prop) (c₀ : σ) (m₀ : Str → Option Value) {news : List (Addr × Obj)}
    (hh : A.handled = none) (hr : IsRange s.heap r 0 b 1 t u v) (hsm : Builtin.Range.small 0 b 1 = true) (hn : Builtin.Range.rangeSize 0 b 1 = ((n : Nat) : Int)) (F : Fr h₀ env.locals s.heap (M c₀ m₀)) (N : News h₀ env.locals s.heap news) (hsub : ∀ p ∈ Led c₀, p ∈ news) (hp : P 0 c₀)
    (turn : ∀ (i : Nat) t c m₁ (s₁ : Shared) own I (E' : Value → Shared → Prop), i < n → P i c → (∀ p ∈ own, p.1 = I) → (∀ p ∈ Led c, p.1 ≠ I) → Fr h₀ env.locals s₁.heap (M c m₁) → News h₀ env.locals s₁.heap (Led c ++ own) →
      wpAny (model prog w) A (assign target env (.int (i : Int) t)) (fun _ s₃ => wpAny (model prog w) A (execs body env) (ForEnd h₀ env.locals M Led (P (i + 1)) own I s₁) E' s₃) E' s₁)
    (done : ∀ c m₁ h tk, P n c → Fr h₀ env.locals h (M c m₁) → News h₀ env.locals h (Led c) → R (.ok .next) { s with heap := h, toks := tk }) :
    wpAny (model prog w) A (pyIter (.ref r)) (fun it s₂ => codeAny (model prog w) A (.forLoop target it body [] env) R s₂) E s := by
  refine wpAny_pyIter_range hr hsm ?_
  refine for_walks (LCg.range_walks (prog := prog) (w := w) hh 0 n) M Led P c₀ m₀ ?_ (next_is_new F) (by show IsRangeIter _ _ _ _ _; rw [hn]; simpa using Heap.get?_push_size _ rfl) (F.push _) (fun p hp => ⟨Heap.get?_push_of_some _ (N p (hsub p hp)).1, (N p (hsub p hp)).2⟩)
    (fun p hp => Nat.ne_of_lt (Heap.lt_size (N p (hsub p hp)).1)) hp (fun i s' v Q' E' st hQ' => ?_) (fun i v c m₁ s₁ own E' hi hv hP ho hI F₁ N₁ => ?_) (fun c m₁ h tk hP F₁ N₁ => done c m₁ h tk hP F₁ N₁)
  · intro hm
    exact absurd F.ns.lt ((List.mem_singleton.mp hm) ▸ Nat.lt_irrefl _)
  · have st' : s'.heap.get? _ = some _ := st
    unfold letOwnedTupleGo
    cases target <;> first
      | exact wpAny_pure hQ'
      | (cases v <;> first
          | exact wpAny_pure hQ'
          | (refine wpAny_bind (wpAny_load st' ?_); exact wpAny_pure hQ'))
  · obtain ⟨t, rfl⟩ := hv
    rw [Int.zero_add]
    exact turn i t c m₁ s₁ own _ E' hi hP (fun p hp => List.mem_singleton.mp (ho p hp)) hI F₁ N₁
end
end Mine
namespace Mine
section
variable {prog : Program} {w : World} {A : Around} {E : Value → Shared → Prop} {s : Shared}
theorem rsh6 {a : Int} {t u : Tok} {Q : Value → Shared → Prop} (h : Q (.int (a / 64) s.toks) { s with toks := s.toks + 1 }) : wpAny (model prog w) A (binaryOp .RShift (.int a t) (.int 6 u)) Q E s := by
  refine rshift_int (by decide) ?_
  rw [show (2 : Int) ^ Int.toNat 6 = 64 from rfl, Int.fdiv_eq_ediv_of_nonneg _ (by decide)]
  exact h
theorem lsh6 {a : Int} {t u : Tok} {Q : Value → Shared → Prop} (ha : a.natAbs < 2 ^ 64) (h : Q (.int (a * 64) s.toks) { s with toks := s.toks + 1 }) : wpAny (model prog w) A (binaryOp .LShift (.int a t) (.int 6 u)) Q E s :=
  lshift_int_small (by decide) (by decide) ha h
theorem and_low (a b : Nat) (hb : b < 64) : (a * 64) &&& b = 0 := by
  apply Nat.eq_of_testBit_eq
  intro i
  rw [Nat.testBit_and, Nat.zero_testBit]
  have e : a * 64 = a * 2 ^ 6 := rfl
  by_cases h : i < 6
  · rw [e, Nat.testBit_mul_two_pow]
    simp; omega
  · have : b.testBit i = false := Nat.testBit_lt_two_pow (Nat.lt_of_lt_of_le hb (by
      have : (64 : Nat) = 2 ^ 6 := rfl
      rw [this]; exact Nat.pow_le_pow_right (by decide) (by omega)))
    rw [this, Bool.and_false]
theorem bitOr_low {a b : Int} (ha : 0 ≤ a) (hb0 : 0 ≤ b) (hb : b < 64) : Builtin.bitOr (a * 64) b = a * 64 + b := by
  rw [bitOr_and, bitAnd_pp (by omega) hb0]
  have e : (a * 64).toNat = a.toNat * 64 := by omega
  rw [e, and_low _ _ (by omega)]
  simp
theorem sixty_fdiv (x : Int) : x.fdiv 63 = x / 63 := Int.fdiv_eq_ediv_of_nonneg _ (by decide)
theorem sixty_fmod (x : Int) : x.fmod 63 = x % 63 := Int.fmod_eq_emod_of_nonneg _ (by decide)
end
end Mine
end
section
open PySem PySem.W PyProof.Rows PySem.Spec PySem.Calls PyProof.Rows.LCg
namespace Mine
section
variable {prog : Program} {w : World} {A : Around} {E : Value → Shared → Prop} {s : Shared} {h₀ : Heap} {L : Addr} {m : Str → Option Value} {env : Env}

/-- the ledger within a turn: the iterator, the block's names, the list made so far -/
abbrev inLed (I : Addr) (oI : Obj) (C : Addr) (oC : Obj) (D : Addr) (ys : List Value) (news : List (Addr × Obj)) : List (Addr × Obj) := (I, oI) :: (C, oC) :: (D, LCg.lst ys) :: news

/-- a turn of a comprehension with one test -/
def IfTurn (prog : Program) (w : World) (A : Around) (h₀ : Heap) (L : Addr) (m : Str → Option Value) (elt test : Expr) (cenv : Env) (I : Addr) (oI : Obj) (C : Addr) (oC : Obj) (D : Addr) (ys : List Value) (news : List (Addr × Obj)) (E' : Value → Shared → Prop) (s : Shared) (J : List Value → Prop) (b : Bool) (s₂ : Shared) : Prop :=
  ∃ h' tk', s₂ = { s with heap := h', toks := tk' } ∧ Fr h₀ L h' m ∧ News h₀ L h' (inLed I oI C oC D ys news) ∧
    (if b = true then wpAny (model prog w) A (eval elt cenv) (fun y s₃ => ∃ h'' tk'', s₃ = { s with heap := h'', toks := tk'' } ∧ Fr h₀ L h'' m ∧ News h₀ L h'' (inLed I oI C oC D ys news) ∧ J (ys ++ [y])) E' s₂ else J ys)

theorem block_if {elt iter test : Expr} {x : Str} {px : Pos} {scope : Scope} {cl : List (Str × Addr)} {pos : Pos} {I : Addr} {fp : List Addr} {n : Nat} {P : Nat → Value → Prop} {St : Nat → Heap → Prop} {news : List (Addr × Obj)} {RR : Value → Addr → Result → Shared → Prop}
    (W : Walks prog w A I fp [I] n P St) (hsz : n ≤ sizeLine) (hIo : ∀ i h, St i h → ∃ o, h.get? I = some o)
    (hSt : ∀ i h h' o, St i h → h.get? I = some o → h'.get? I = some o → (∀ b o, h₀.get? b = some o → h'.get? b = some o) → News h₀ L h' news → St i h')
    (hcell : ∀ y ∈ scope.names, y.2 ≠ .cell) (hkind : scope.kind = .function) (hx : scope.names.lookup x = some .local) (hst : St 0 s.heap) (hfp : ∀ b ∈ fp, b < s.heap.objs.size)
    (F : Fr h₀ L s.heap m) (N : News h₀ L s.heap news) (hIL : L ≠ I) (hI₀ : h₀.get? I = none) (off : ∀ p ∈ news, p.1 ≠ I)
    (J : Nat → List Value → Prop) (hJ : J 0 [])
    (turn : ∀ i v I' oI C oC D m₂ ys (s₁ : Shared) (E' : Value → Shared → Prop), i < n → P i v → J i ys → LCg.NsObj oC m₂ → m₂ x = some v → Fr h₀ L s₁.heap m → News h₀ L s₁.heap (inLed I' oI C oC D ys news) → LCg.Off3 I' C D news → ((@Ne Nat I' C) ∧ (@Ne Nat I' D) ∧ (@Ne Nat C D)) →
      wpAny (model prog w) A (isTrue test (compEnvC scope cl C env) (eval test (compEnvC scope cl C env))) (IfTurn prog w A h₀ L m elt test (compEnvC scope cl C env) I' oI C oC D ys news E' s₁ (J (i + 1))) E' s₁)
    (hRR : ∀ D C h tk m' ys, Fr h₀ L h m → News h₀ L h ((D, lst ys) :: news) → h.Ns C m' → h₀.get? C = none → C ≠ L → C ≠ D → (∀ p ∈ news, p.1 ≠ C) → (∀ p ∈ news, p.1 ≠ D) → J n ys → RR (.ref D) C (.ok .next) { s with heap := h, toks := tk }) :
    wpAny (model prog w) A (newList []) (fun acc s₃ => wpAny (model prog w) A (newFunctionEnv scope env.globals cl [] env.qual none .none (some env)) (fun cenv s₄ =>
      codeAny (model prog w) A (.compStart (.ListComp elt [⟨.Name x px, iter, [test], 0⟩] scope pos) 0 (.ref I) acc { cenv with scope := relabel scope env }) (RR acc cenv.locals) s₄) E s₃) E s := by
  refine wpAny_newObj_type (wpAny_newFunctionEnv hcell (by intro y hy; simp at hy) (fun h₁ hns₁ hsb₁ => ?_) hkind)
  dsimp only at hns₁ hsb₁ ⊢
  generalize hH2 : s.heap.push { cls := .type "list", dict := none, data := .seq ([] : List Value).toArray } = H2 at hns₁ hsb₁ ⊢
  generalize hD : s.heap.objs.size = D
  generalize hCe : H2.objs.size = C at hns₁ hsb₁ ⊢
  have hCD : C = D + 1 := by rw [← hCe, ← hH2, Heap.size_push, hD]
  have lt0 : ∀ (b : Nat) (o : Obj), s.heap.get? b = some o → @LT.lt Nat _ b D := fun b o e => hD ▸ Heap.lt_size e
  have hfpD : ∀ b ∈ fp, @LT.lt Nat _ b D := fun b hb => hD ▸ hfp b hb
  have hDC : D ≠ C := by omega
  have hIf : I ∈ fp := W.sub I (List.mem_singleton.mpr rfl)
  have hID : @LT.lt Nat _ I D := hfpD I hIf
  have old : ∀ b o, s.heap.get? b = some o → h₁.get? b = some o := fun b o e => by
    have := lt0 b o e
    exact hsb₁.extBut b o (show @Ne Nat b C by omega) (Heap.get?_push_of_some _ (hH2 ▸ Heap.get?_push_of_some _ e))
  have hacc : h₁.get? D = some (lst []) := hsb₁.extBut _ _ hDC (Heap.get?_push_of_some _ (by rw [← hH2, ← hD]; exact Heap.get?_push_size _ rfl))
  have hst₁ : St 0 h₁ := W.frame _ _ _ hst fun b _ o e => old b o e
  have none0 : ∀ (a : Nat), @LE.le Nat _ D a → h₀.get? a = none := fun a ha => by
    cases e : h₀.get? a with
    | none => rfl
    | some o => have := lt0 a o (F.keep a o e); omega
  have hD₀ : h₀.get? D = none := none0 D (Nat.le_refl _)
  have hC₀ : h₀.get? C = none := none0 C (by omega)
  have hLlt : @LT.lt Nat _ L D := hD ▸ F.ns.lt
  have newsLt : ∀ p ∈ news, @LT.lt Nat _ p.1 D := fun p hp => lt0 _ _ (N p hp).1
  have hCf : C ∉ fp := fun hm => by have := hfpD C hm; omega
  have hDf : D ∉ fp := fun hm => by have := hfpD D hm; omega
  have off3 : LCg.Off3 I C D news := LCg.Off3.of fun p hp => by have := newsLt p hp; exact ⟨off p hp, (by show @Ne Nat p.1 C; omega), (by show @Ne Nat p.1 D; omega)⟩
  have loop : ∀ s₃ : Shared, s₃ = { s with heap := h₁, toks := s.toks + ([] : List (Str × Value)).length } →
      codeAny (model prog w) A (.compLoop (.ListComp elt [⟨.Name x px, iter, [test], 0⟩] scope pos) 0 (.ref I) (.ref D) (compEnvC scope cl C env)) (RR (.ref D) C) s₃ := by
    rintro s₃ rfl
    refine codeAny_compLoop_tests
      (fun k s' => ∃ h' tk i ys m', s' = { s with heap := h', toks := tk } ∧ i ≤ n ∧ k = n + 1 - i ∧ ys.length ≤ i ∧ St i h' ∧ Fr h₀ L h' m ∧ h'.Ns C m' ∧ News h₀ L h' ((D, lst ys) :: news) ∧ J i ys) ?_ (n + 1)
      ⟨h₁, _, 0, [], _, rfl, Nat.zero_le _, rfl, Nat.le_refl _, hst₁, F.keeps old, hns₁, fun p hp => ?_, hJ⟩
    · rintro k s' ⟨h', tk, i, ys, m', rfl, hi, rfl, hyl, hst', F', hn', N', hJ'⟩
      by_cases hlt : i < n
      · refine W.item i _ _ _ hlt hst' fun v h₂ tk₂ hPv hst₂ hk₂ => ?_
        refine wpAny_assign_Name (wpAny_storeName_local (lookup_relabel_local hx) (hn'.at' fun o e => hk₂ _ o (by simp; show ¬ @Eq Nat C I; omega) e) (fun h₃ hn₃ hs₃ => ?_) (by simp [compEnvC, relabel, hkind]))
        have hst₃ : St (i + 1) h₃ := W.frame _ _ _ hst₂ fun b hb o e => hs₃.extBut b o (fun (q : b = C) => hCf (q ▸ hb)) e
        obtain ⟨oI, heI⟩ := hIo _ _ hst₃
        obtain ⟨oC, heC, hoC⟩ := LCg.ns_obj hn₃
        have F₂ : Fr h₀ L h₂ m := LCg.fr_but F' hk₂ hIL hI₀
        have F₃ : Fr h₀ L h₃ m := F₂.change hs₃ (show @Ne Nat C L by omega) hC₀
        have N₂ : News h₀ L h₂ ((D, lst ys) :: news) := LCg.news_but N' hk₂ fun p hp => by
          rcases List.mem_cons.mp hp with rfl | hp
          · show @Ne Nat D I; omega
          · exact off p hp
        have N₃ : News h₀ L h₃ (inLed I oI C oC D ys news) := fun p hp => by
          rcases List.mem_cons.mp hp with rfl | hp
          · exact ⟨heI, Ne.symm hIL, hI₀⟩
          rcases List.mem_cons.mp hp with rfl | hp
          · exact ⟨heC, (by show @Ne Nat C L; omega), hC₀⟩
          have z := N₂ p hp
          refine ⟨hs₃.extBut _ _ ?_ z.1, z.2⟩
          rcases List.mem_cons.mp hp with rfl | hp
          · exact hDC
          · have := newsLt p hp; show @Ne Nat p.1 C; omega
        refine wpAny_tests_one ?_
        refine wpAny_mono (turn i v I oI C oC D _ ys { s with heap := h₃, toks := tk₂ + 1 } _ hlt hPv hJ' hoC (by simp) F₃ N₃ off3 ⟨show @Ne Nat I C by omega, show @Ne Nat I D by omega, show @Ne Nat C D by omega⟩) (fun b s₄ h₄ => ?_) fun _ _ e => e
        obtain ⟨h₄, tk₄, rfl, F₄, N₄, hb⟩ := h₄
        have back : ∀ hh, News h₀ L hh (inLed I oI C oC D ys news) → Fr h₀ L hh m → St (i + 1) hh := fun hh NN FF =>
          hSt _ _ _ _ hst₃ heI (NN (I, oI) List.mem_cons_self).1 FF.keep fun p hp => NN p (List.mem_cons_of_mem _ (List.mem_cons_of_mem _ (List.mem_cons_of_mem _ hp)))
        cases b with
        | false =>
          simp only [Bool.false_eq_true, if_false] at hb ⊢
          exact ⟨n + 1 - (i + 1), by omega, h₄, tk₄, i + 1, ys, _, rfl, hlt, rfl, by omega, back _ N₄ F₄, F₄, hoC.ns (N₄ (C, oC) (List.mem_cons_of_mem _ List.mem_cons_self)).1, fun p hp => N₄ p (List.mem_cons_of_mem _ (List.mem_cons_of_mem _ hp)), hb⟩
        | true =>
          simp only [if_true] at hb ⊢
          refine wpAny_mono hb (fun y s₅ h₅ => ?_) fun _ _ e => e
          obtain ⟨h₅, tk₅, rfl, F₅, N₅, hJ₅⟩ := h₅
          have zD := (N₅ (D, lst ys) (List.mem_cons_of_mem _ (List.mem_cons_of_mem _ List.mem_cons_self))).1
          refine append_at (hsz := by show ys.toArray.size ≤ sizeLine; rw [List.size_toArray]; omega) zD fun h₆ hs₆ hD₆ => ?_
          refine ⟨n + 1 - (i + 1), by omega, h₆, tk₅, i + 1, ys ++ [y], _, rfl, hlt, rfl, by rw [List.length_append, List.length_singleton]; omega, W.frame _ _ _ (back _ N₅ F₅) fun b hb o e => hs₆.extBut b o (fun q => hDf (q ▸ hb)) e,
            F₅.change hs₆ (show @Ne Nat D L by omega) hD₀, (hoC.ns (N₅ (C, oC) (List.mem_cons_of_mem _ List.mem_cons_self)).1).sameBut hs₆ (Ne.symm hDC), fun p hp => ?_, hJ₅⟩
          rcases List.mem_cons.mp hp with rfl | hp
          · exact ⟨hD₆.trans (congrArg some (LCg.lst_snoc ys y)), (by show @Ne Nat D L; omega), hD₀⟩
          · have z := N₅ p (List.mem_cons_of_mem _ (List.mem_cons_of_mem _ (List.mem_cons_of_mem _ hp)))
            exact ⟨hs₆.extBut _ _ (by have := newsLt p hp; show @Ne Nat p.1 D; omega) z.1, z.2⟩
      · obtain rfl : i = n := Nat.le_antisymm hi (Nat.not_lt.mp hlt)
        refine W.done _ _ _ hst' fun h₂ tk₂ hk₂ => ?_
        exact hRR D C h₂ tk₂ _ ys (LCg.fr_but F' hk₂ hIL hI₀) (LCg.news_but N' hk₂ fun p hp => by
          rcases List.mem_cons.mp hp with rfl | hp
          · show @Ne Nat D I; omega
          · exact off p hp) (hn'.at' fun o e => hk₂ _ o (by simp; show ¬ @Eq Nat C I; omega) e) hC₀ (by show @Ne Nat C L; omega) (Ne.symm hDC) (fun p hp => by have := newsLt p hp; show @Ne Nat p.1 C; omega) (fun p hp => by have := newsLt p hp; show @Ne Nat p.1 D; omega) hJ'
    · rcases List.mem_cons.mp hp with rfl | hp
      · exact ⟨hacc, (by show @Ne Nat D L; omega), hD₀⟩
      · exact ⟨old _ _ (N p hp).1, (N p hp).2⟩
  exact codeAny_compStart_list (loop _ rfl) (W.self 0 _ _ _ hst₁ (loop _ rfl))
end
end Mine
namespace Mine
section
variable {prog : Program} {w : World} {A : Around} {E : Value → Shared → Prop} {s : Shared} {h₀ : Heap} {L : Addr} {m : Str → Option Value} {env : Env}

def IfGo (prog : Program) (w : World) (A : Around) (env : Env) (elt test iter : Expr) (x : Str) (px : Pos) (scope : Scope) (cl : List (Str × Addr)) (pos : Pos) (RR : Value → Addr → Result → Shared → Prop) (E : Value → Shared → Prop) (xv : Value) (s₁ : Shared) : Prop :=
  wpAny (model prog w) A (pyIter xv) (fun it s₂ => wpAny (model prog w) A (newList []) (fun acc s₃ => wpAny (model prog w) A (newFunctionEnv scope env.globals cl [] env.qual none .none (some env)) (fun cenv s₄ =>
      codeAny (model prog w) A (.compStart (.ListComp elt [⟨.Name x px, iter, [test], 0⟩] scope pos) 0 it acc { cenv with scope := relabel scope env }) (RR acc cenv.locals) s₄) E s₃) E s₂) E s₁

theorem ListComp_if {elt iter test : Expr} {x : Str} {px : Pos} {scope : Scope} {cl : List (Str × Addr)} {pos : Pos} {Q : Value → Shared → Prop}
    (hclos : closureFor scope env = pure cl) (hkind : scope.kind = .function) (hnames : ∀ y ∈ scope.names, y.2 = .local → scope.names.lookup y.1 = some .local)
    (h : wpAny (model prog w) A (eval iter env) (IfGo prog w A env elt test iter x px scope cl pos (fun acc C => compPost (model prog w) A E none Q acc C) E) E s)
    (hs : ∀ x, foldedSetIterable iter env x = pure x := by intro _; rfl) :
    wpAny (model prog w) A (eval (.ListComp elt [⟨.Name x px, iter, [test], 0⟩] scope pos) env) Q E s := by
  rw [eval_ListComp]
  exact wpAny_comprehension_free (use := none) rfl hs hclos hkind hnames h

theorem Assign_if {elt iter test : Expr} {x y : Str} {px py : Pos} {scope : Scope} {cl : List (Str × Addr)} {pos spos : Pos} {Q : Flow → Shared → Prop}
    (hsw : swapsWith (.ListComp elt [⟨.Name x px, iter, [test], 0⟩] scope pos) (some (.Name y py)) spos.line env = pure true)
    (hclos : closureFor scope env = pure cl) (hkind : scope.kind = .function) (hnames : ∀ z ∈ scope.names, z.2 = .local → scope.names.lookup z.1 = some .local)
    (h : wpAny (model prog w) A (eval iter env) (IfGo prog w A env elt test iter x px scope cl pos (fun acc C => compPost (model prog w) A E (some (assign (.Name y py) env)) (fun _ s' => Q .next s') acc C) E) E s)
    (hs : ∀ x, foldedSetIterable iter env x = pure x := by intro _; rfl) :
    wpAny (model prog w) A (exec (.Assign [.Name y py] (.ListComp elt [⟨.Name x px, iter, [test], 0⟩] scope pos) spos) env) Q E s := by
  rw [exec_Assign_Name_used _ _ _ _ hsw]
  refine wpAny_bind (wpAny_standAt (wpAny_bind ?_))
  show wpAny _ A (do let _ ← comprehension (.ListComp elt [⟨.Name x px, iter, [test], 0⟩] scope pos) scope env _ (newList []) false (eval iter env) (some (assign (.Name y py) env))) _ _ s
  exact wpAny_bind (wpAny_mono (wpAny_comprehension_free (use := some (assign (.Name y py) env)) (Q := fun _ s' => Q .next s') rfl hs hclos hkind hnames h) (fun _ s' hq => wpAny_pure (wpAny_pure hq)) fun _ _ e => e)

/-- what stands behind a block: RR, from what the list made says -/
def RREnd (h₀ : Heap) (L : Addr) (m : Str → Option Value) (news : List (Addr × Obj)) (J : List Value → Prop) (RR : Value → Addr → Result → Shared → Prop) (s : Shared) : Prop :=
  ∀ D C h tk m' ys, Fr h₀ L h m → News h₀ L h ((D, lst ys) :: news) → h.Ns C m' → h₀.get? C = none → C ≠ L → C ≠ D → (∀ p ∈ news, p.1 ≠ C) → (∀ p ∈ news, p.1 ≠ D) → J ys → RR (.ref D) C (.ok .next) { s with heap := h, toks := tk }

theorem rr_none {news : List (Addr × Obj)} {J : List Value → Prop} {Q : Value → Shared → Prop}
    (fin : ∀ D h tk ys, Fr h₀ L h m → News h₀ L h ((D, lst ys) :: news) → (∀ p ∈ news, @Ne Nat p.1 D) → J ys → Q (.ref D) { s with heap := h, toks := tk }) :
    RREnd h₀ L m news J (fun acc C => compPost (model prog w) A E none Q acc C) s := by
  intro D C h tk m' ys F N hn hC₀ hCL hCD offC offD hJ
  refine ⟨m', hn, fun h'' hs'' => fin D h'' tk ys (F.change hs'' hCL hC₀) (fun p hp => ?_) offD hJ⟩
  refine ⟨hs''.extBut _ _ ?_ (N p hp).1, (N p hp).2⟩
  rcases List.mem_cons.mp hp with rfl | hp
  · exact Ne.symm hCD
  · exact offC p hp

theorem rr_some {news : List (Addr × Obj)} {J : List Value → Prop} {y : Str} {py : Pos} {Q : Shared → Prop} (hL : env.locals = L) (hy : env.kindOf y = some .local) (hp : (env.scope.kind == .class || (env.scope.kind == .module && env.locals != env.globals)) = false)
    (fin : ∀ D h tk ys, Fr h₀ L h (fun z => if z = y then some (.ref D) else m z) → News h₀ L h ((D, lst ys) :: news) → (∀ p ∈ news, @Ne Nat p.1 D) → J ys → Q { s with heap := h, toks := tk }) :
    RREnd h₀ L m news J (fun acc C => compPost (model prog w) A E (some (assign (.Name y py) env)) (fun _ s' => Q s') acc C) s := by
  intro D C h tk m' ys F N hn hC₀ hCL hCD offC offD hJ
  subst hL
  show wpAny _ A (assign (.Name y py) env (.ref D)) _ _ _
  refine wpAny_assign_Name (wpAny_storeName_local hy F.ns (fun h₂ hn₂ hs₂ => ?_) hp)
  have F₂ : Fr h₀ env.locals h₂ (fun z => if z = y then some (.ref D) else m z) := F.set hn₂ hs₂
  refine ⟨m', hn.sameBut hs₂ hCL, fun h'' hs'' => fin D h'' _ ys (F₂.change hs'' hCL hC₀) (fun p hp => ?_) offD hJ⟩
  have z : h₂.get? p.1 = some p.2 := hs₂.extBut _ _ (N p hp).2.1 (N p hp).1
  refine ⟨hs''.extBut _ _ ?_ z, (N p hp).2⟩
  rcases List.mem_cons.mp hp with rfl | hp
  · exact Ne.symm hCD
  · exact offC p hp

theorem IfGo.range {elt iter test : Expr} {x : Str} {px : Pos} {scope : Scope} {cl : List (Str × Addr)} {pos : Pos} {news : List (Addr × Obj)} {RR : Value → Addr → Result → Shared → Prop} {r : Addr} {b : Int} {t u v : Tok} {n : Nat}
    (hh : A.handled = none) (hr : IsRange s.heap r 0 b 1 t u v) (hsm : Builtin.Range.small 0 b 1 = true) (hn : Builtin.Range.rangeSize 0 b 1 = ((n : Nat) : Int)) (hsz : n ≤ sizeLine)
    (hcell : ∀ y ∈ scope.names, y.2 ≠ .cell) (hkind : scope.kind = .function) (hx : scope.names.lookup x = some .local)
    (F : Fr h₀ L s.heap m) (N : News h₀ L s.heap news) (J : Nat → List Value → Prop) (hJ : J 0 [])
    (turn : ∀ (i : Nat) t I' oI C oC D m₂ ys (s₁ : Shared) (E' : Value → Shared → Prop), i < n → J i ys → LCg.NsObj oC m₂ → m₂ x = some (.int (i : Int) t) → Fr h₀ L s₁.heap m → News h₀ L s₁.heap (inLed I' oI C oC D ys news) → LCg.Off3 I' C D news → ((@Ne Nat I' C) ∧ (@Ne Nat I' D) ∧ (@Ne Nat C D)) →
      wpAny (model prog w) A (isTrue test (compEnvC scope cl C env) (eval test (compEnvC scope cl C env))) (IfTurn prog w A h₀ L m elt test (compEnvC scope cl C env) I' oI C oC D ys news E' s₁ (J (i + 1))) E' s₁)
    (hRR : ∀ g, RREnd h₀ L m news (J n) RR { s with heap := g }) : IfGo prog w A env elt test iter x px scope cl pos RR E (.ref r) s := by
  refine wpAny_pyIter_range hr hsm ?_
  refine block_if (LCg.range_walks (prog := prog) (w := w) hh 0 n) hsz (fun i h st => ⟨_, st⟩) (fun i h h' o st e e' _ _ => ?_) hcell hkind hx (by show IsRangeIter _ _ _ _ _; rw [hn]; simpa using Heap.get?_push_size _ rfl) (fun b hb => ?_)
    (F.push _) (fun p hp => ⟨Heap.get?_push_of_some _ (N p hp).1, (N p hp).2⟩) (Nat.ne_of_lt F.ns.lt) (next_is_new F) (fun p hp => Nat.ne_of_lt (Heap.lt_size (N p hp).1)) J hJ ?_ (hRR _)
  · have st' : h.get? _ = some _ := st
    show h'.get? _ = some _
    rw [e', ← e]; exact st'
  · rw [List.mem_singleton.mp hb]
    show s.heap.objs.size < (s.heap.push _).objs.size
    rw [Heap.size_push]; exact Nat.lt_succ_self _
  · intro i v I' oI C oC D m₂ ys s₁ E' hi hv hj hC hx' F₁ N₁ o ne
    obtain ⟨t, rfl⟩ := hv
    exact turn i t I' oI C oC D m₂ ys s₁ E' hi hj hC (by rw [hx', Int.zero_add]) F₁ N₁ o ne

theorem IfGo.list {elt iter test : Expr} {x : Str} {px : Pos} {scope : Scope} {cl : List (Str × Addr)} {pos : Pos} {news : List (Addr × Obj)} {RR : Value → Addr → Result → Shared → Prop} {l : Addr} {items : Array Value}
    (hh : A.handled = none) (hl : h₀.IsList l items ∨ ∃ n, (l, listOf items n) ∈ news) (hsz : items.size ≤ sizeLine)
    (hcell : ∀ y ∈ scope.names, y.2 ≠ .cell) (hkind : scope.kind = .function) (hx : scope.names.lookup x = some .local)
    (F : Fr h₀ L s.heap m) (N : News h₀ L s.heap news) (J : Nat → List Value → Prop) (hJ : J 0 [])
    (turn : ∀ (i : Nat) v I' oI C oC D m₂ ys (s₁ : Shared) (E' : Value → Shared → Prop), i < items.size → items[i]? = some v → J i ys → LCg.NsObj oC m₂ → m₂ x = some v → Fr h₀ L s₁.heap m → News h₀ L s₁.heap (inLed I' oI C oC D ys news) → LCg.Off3 I' C D news → ((@Ne Nat I' C) ∧ (@Ne Nat I' D) ∧ (@Ne Nat C D)) →
      wpAny (model prog w) A (isTrue test (compEnvC scope cl C env) (eval test (compEnvC scope cl C env))) (IfTurn prog w A h₀ L m elt test (compEnvC scope cl C env) I' oI C oC D ys news E' s₁ (J (i + 1))) E' s₁)
    (hRR : ∀ g, RREnd h₀ L m news (J items.size) RR { s with heap := g }) : IfGo prog w A env elt test iter x px scope cl pos RR E (.ref l) s := by
  have lists : ∀ h : Heap, (∀ b o, h₀.get? b = some o → h.get? b = some o) → News h₀ L h news → h.IsList l items := fun h k NN => by
    rcases hl with ⟨o, e, r⟩ | ⟨n, hm⟩
    · exact ⟨o, k _ _ e, r⟩
    · exact ⟨_, (NN _ hm).1, rfl, n, rfl⟩
  have hls := lists s.heap F.keep N
  have hlt : l < s.heap.objs.size := by obtain ⟨_, e, _⟩ := hls; exact Heap.lt_size e
  refine wpAny_pyIter_list hls ?_
  refine block_if (Walks.list (prog := prog) (w := w) hh s.heap.objs.size l (Nat.ne_of_lt hlt) items) hsz (fun i h st => by obtain ⟨o, e, _⟩ := st.1; exact ⟨o, e⟩) (fun i h h' o st e e' k NN => ?_) hcell hkind hx ⟨⟨_, Heap.get?_push_size _ rfl, rfl, rfl⟩, hls.push _⟩ (fun b hb => ?_)
    (F.push _) (fun p hp => ⟨Heap.get?_push_of_some _ (N p hp).1, (N p hp).2⟩) (Nat.ne_of_lt F.ns.lt) (next_is_new F) (fun p hp => Nat.ne_of_lt (Heap.lt_size (N p hp).1)) J hJ turn (hRR _)
  · refine ⟨?_, lists h' k NN⟩
    obtain ⟨o', q, r⟩ := st.1
    rw [e] at q; cases q
    exact ⟨o, e', r⟩
  · show b < (s.heap.push _).objs.size
    rw [Heap.size_push]
    rcases List.mem_cons.mp hb with rfl | hb
    · exact Nat.lt_succ_self _
    · rw [List.mem_singleton.mp hb]; exact Nat.lt_succ_of_lt hlt
end
end Mine
end
section
open PySem PySem.W PyProof.Rows PySem.Spec PySem.Calls PyProof.Rows.LCg
namespace Mine
section
variable {prog : Program} {w : World} {A : Around} {E : Value → Shared → Prop} {s : Shared} {env : Env} {h₀ : Heap} {L : Addr}

/-- how a for's turn ends, the iterator's object kept -/
def ForEnd2 {σ : Type} (h₀ : Heap) (L : Addr) (M : σ → (Str → Option Value) → Str → Option Value) (Led : σ → List (Addr × Obj)) (P : σ → Prop) (I : Addr) (oI : Obj) (s : Shared) (f : Flow) (s' : Shared) : Prop :=
  f = .next ∧ ∃ c m₀ h tk nw, s' = { s with heap := h, toks := tk } ∧ Fr h₀ L h (M c m₀) ∧ News h₀ L h nw ∧ (∀ p ∈ Led c, p ∈ nw) ∧ (I, oI) ∈ nw ∧ (∀ p ∈ Led c, @Ne Nat p.1 I) ∧ P c
theorem ForEnd2.intro {σ : Type} {M : σ → (Str → Option Value) → Str → Option Value} {Led : σ → List (Addr × Obj)} {P : σ → Prop} {nw : List (Addr × Obj)} {I : Addr} {oI : Obj} {s : Shared} {h : Heap} {tk : Nat} (c : σ) (m₀ : Str → Option Value)
    (F : Fr h₀ L h (M c m₀)) (N : News h₀ L h nw) (hl : ∀ p ∈ Led c, p ∈ nw) (ho : (I, oI) ∈ nw) (hi : ∀ p ∈ Led c, @Ne Nat p.1 I) (hp : P c) : ForEnd2 h₀ L M Led P I oI s .next { s with heap := h, toks := tk } :=
  ⟨rfl, c, m₀, h, tk, nw, rfl, F, N, hl, ho, hi, hp⟩

theorem for_walks2 {σ : Type} {R : Result → Shared → Prop} {target : Expr} {body : List Stmt} {I : Addr} {fp : List Addr} {n : Nat} {Pv : Nat → Value → Prop} {St : Nat → Heap → Prop} (W : Walks prog w A I fp [I] n Pv St)
    (hL : env.locals = L)
    (M : σ → (Str → Option Value) → Str → Option Value) (Led : σ → List (Addr × Obj)) (P : Nat → σ → Prop) (c₀ : σ) (m₀ : Str → Option Value) (hIo : ∀ i h, St i h → ∃ o, h.get? I = some o)
    (hLf : L ∉ fp) (hI : h₀.get? I = none) (hst : St 0 s.heap) (F : Fr h₀ L s.heap (M c₀ m₀)) (N : News h₀ L s.heap (Led c₀)) (hnI : ∀ p ∈ Led c₀, p.1 ≠ I) (hp : P 0 c₀)
    (hgo : ∀ i (s' : Shared) v (Q' : Unit → Shared → Prop) (E' : Value → Shared → Prop), St i s'.heap → Q' () s' → wpAny (model prog w) A (letOwnedTupleGo target (.ref I) v) Q' E' s')
    (hown : ∀ b ∈ fp, b = I ∨ (∃ o, h₀.get? b = some o) ∨ ∃ o, ∀ c, (b, o) ∈ Led c)
    (turn : ∀ i v c m₁ (s₁ : Shared) oI (E' : Value → Shared → Prop), i < n → Pv i v → P i c → (∀ p ∈ Led c, @Ne Nat p.1 I) → Fr h₀ L s₁.heap (M c m₁) → News h₀ L s₁.heap ((I, oI) :: Led c) →
      wpAny (model prog w) A (assign target env v) (fun _ s₃ => wpAny (model prog w) A (execs body env) (ForEnd2 h₀ L M Led (P (i + 1)) I oI s₁) E' s₃) E' s₁)
    (done : ∀ c m₁ h tk, P n c → Fr h₀ L h (M c m₁) → News h₀ L h (Led c) → R (.ok .next) { s with heap := h, toks := tk }) :
    codeAny (model prog w) A (.forLoop target (.ref I) body [] env) R s := by
  subst hL
  refine codeAny_forLoop_anyU W hLf (fun b hb => by rw [List.mem_singleton.mp hb]; exact hI) (fun p hp hq => hnI p hp (List.mem_singleton.mp hq)) hst F N (fun i s' v Q' a b => hgo i s' v Q' _ a b)
    (fun i m nw => ∃ c m₁, m = M c m₁ ∧ nw = Led c ∧ P i c) ⟨c₀, m₀, rfl, rfl, hp⟩ ?_ ?_
  · rintro i v m₁ news₁ s₁ own hi hv ⟨c, m', rfl, rfl, hP⟩ hoff hownf hog hall hst₁ F₁ N₁
    obtain ⟨oI, heI⟩ := hIo _ _ hst₁
    have hIn : (I, oI) ∈ own := hall I (W.sub I (List.mem_singleton.mpr rfl)) hI oI heI
    refine wpAny_mono (turn i v c m' s₁ oI _ hi hv hP (fun p hp q => hoff p hp (List.mem_singleton.mpr q)) F₁ fun p hp => ?_)
      (fun _ s₂ h₂ => wpAny_mono h₂ (fun f s₃ h₃ => ?_) fun _ _ e => e) fun _ _ e => e
    · rcases List.mem_cons.mp hp with rfl | hp
      · exact N₁ _ (List.mem_append.mpr (.inl hIn))
      · exact N₁ _ (List.mem_append.mpr (.inr hp))
    · obtain ⟨rfl, c', m₀', h', tk', nw, rfl, F', N', hl, ho, hi', hp'⟩ := h₃
      refine ⟨rfl, h', tk', _, Led c', rfl, F', fun p hp => ?_, fun p hp hq => hi' p hp (List.mem_singleton.mp hq), c', m₀', rfl, rfl, hp'⟩
      rcases List.mem_append.mp hp with hp | hp
      · have n1 := N₁ p (List.mem_append.mpr (.inl hp))
        rcases hown _ (hownf p hp) with e | ⟨o, e⟩ | ⟨o, e⟩
        · have : p = (I, oI) := by
            obtain ⟨a, b⟩ := p
            dsimp only at e n1
            subst e
            rw [heI] at n1
            cases n1.1; rfl
          rw [this]; exact N' _ ho
        · rw [n1.2.2] at e; cases e
        · have : p = (p.1, o) := by
            obtain ⟨a, b⟩ := p
            have := (N₁ _ (List.mem_append.mpr (.inr (e c)))).1
            dsimp only at this n1
            rw [this] at n1
            cases n1.1; rfl
          rw [this]; exact N' _ (hl _ (e c'))
      · exact N' p (hl p hp)
  · rintro h' tk m' news' F' N' _ ⟨c, m₁, rfl, rfl, hP⟩
    exact done c m₁ h' tk hP F' N'

theorem for_range2 {σ : Type} {R : Result → Shared → Prop} {target : Expr} {body : List Stmt} {r : Addr} {b : Int} {t u v : Tok} {n : Nat}
    (M : σ → (Str → Option Value) → Str → Option Value) (Led : σ → List (Addr × Obj)) (P : Nat → σ → Prop) (c₀ : σ) (m₀ : Str → Option Value) {news : List (Addr × Obj)}
    (hh : A.handled = none) (hL : env.locals = L) (hr : IsRange s.heap r 0 b 1 t u v) (hsm : Builtin.Range.small 0 b 1 = true) (hn : Builtin.Range.rangeSize 0 b 1 = ((n : Nat) : Int)) (F : Fr h₀ L s.heap (M c₀ m₀)) (N : News h₀ L s.heap news) (hsub : ∀ p ∈ Led c₀, p ∈ news) (hp : P 0 c₀)
    (turn : ∀ (i : Nat) t c m₁ (s₁ : Shared) I oI (E' : Value → Shared → Prop), i < n → P i c → (∀ p ∈ Led c, @Ne Nat p.1 I) → Fr h₀ L s₁.heap (M c m₁) → News h₀ L s₁.heap ((I, oI) :: Led c) →
      wpAny (model prog w) A (assign target env (.int (i : Int) t)) (fun _ s₃ => wpAny (model prog w) A (execs body env) (ForEnd2 h₀ L M Led (P (i + 1)) I oI s₁) E' s₃) E' s₁)
    (done : ∀ c m₁ h tk, P n c → Fr h₀ L h (M c m₁) → News h₀ L h (Led c) → R (.ok .next) { s with heap := h, toks := tk }) :
    wpAny (model prog w) A (pyIter (.ref r)) (fun it s₂ => codeAny (model prog w) A (.forLoop target it body [] env) R s₂) E s := by
  refine wpAny_pyIter_range hr hsm ?_
  refine for_walks2 (LCg.range_walks (prog := prog) (w := w) hh 0 n) hL M Led P c₀ m₀ (fun i h st => ⟨_, st⟩) ?_ (next_is_new F) (by show IsRangeIter _ _ _ _ _; rw [hn]; simpa using Heap.get?_push_size _ rfl) (F.push _) (fun p hp => ⟨Heap.get?_push_of_some _ (N p (hsub p hp)).1, (N p (hsub p hp)).2⟩)
    (fun p hp => Nat.ne_of_lt (Heap.lt_size (N p (hsub p hp)).1)) hp (fun i s' v Q' E' st hQ' => ?_) (fun b hb => .inl (List.mem_singleton.mp hb)) (fun i v c m₁ s₁ oI E' hi hv hP hI F₁ N₁ => ?_) (fun c m₁ h tk hP F₁ N₁ => done c m₁ h tk hP F₁ N₁)
  · intro hm
    exact absurd F.ns.lt ((List.mem_singleton.mp hm) ▸ Nat.lt_irrefl _)
  · have st' : s'.heap.get? _ = some _ := st
    unfold letOwnedTupleGo
    cases target <;> first
      | exact wpAny_pure hQ'
      | (cases v <;> first
          | exact wpAny_pure hQ'
          | (refine wpAny_bind (wpAny_load st' ?_); exact wpAny_pure hQ'))
  · obtain ⟨t, rfl⟩ := hv
    rw [Int.zero_add]
    exact turn i t c m₁ s₁ _ oI E' hi hP hI F₁ N₁

theorem for_list2 {σ : Type} {R : Result → Shared → Prop} {target : Expr} {body : List Stmt} {l : Addr} {items : Array Value}
    (M : σ → (Str → Option Value) → Str → Option Value) (Led : σ → List (Addr × Obj)) (P : Nat → σ → Prop) (c₀ : σ) (m₀ : Str → Option Value) {news : List (Addr × Obj)}
    (hh : A.handled = none) (hL : env.locals = L) (hl : h₀.IsList l items ∨ ∃ n, ∀ c, (l, listOf items n) ∈ Led c) (F : Fr h₀ L s.heap (M c₀ m₀)) (N : News h₀ L s.heap news) (hsub : ∀ p ∈ Led c₀, p ∈ news) (hp : P 0 c₀)
    (turn : ∀ i v c m₁ (s₁ : Shared) I oI (E' : Value → Shared → Prop), i < items.size → items[i]? = some v → P i c → (∀ p ∈ Led c, @Ne Nat p.1 I) → Fr h₀ L s₁.heap (M c m₁) → News h₀ L s₁.heap ((I, oI) :: Led c) →
      wpAny (model prog w) A (assign target env v) (fun _ s₃ => wpAny (model prog w) A (execs body env) (ForEnd2 h₀ L M Led (P (i + 1)) I oI s₁) E' s₃) E' s₁)
    (done : ∀ c m₁ h tk, P items.size c → Fr h₀ L h (M c m₁) → News h₀ L h (Led c) → R (.ok .next) { s with heap := h, toks := tk }) :
    wpAny (model prog w) A (pyIter (.ref l)) (fun it s₂ => codeAny (model prog w) A (.forLoop target it body [] env) R s₂) E s := by
  have hls : s.heap.IsList l items := by
    rcases hl with ⟨o, e, r⟩ | ⟨n, hm⟩
    · exact ⟨o, F.keep _ _ e, r⟩
    · exact ⟨_, (N _ (hsub _ (hm c₀))).1, rfl, n, rfl⟩
  have hlL : L ≠ l := by
    rcases hl with ⟨o, e, r⟩ | ⟨n, hm⟩
    · intro q
      have := F.above
      exact absurd (Nat.lt_of_lt_of_le (Heap.lt_size e) this) (q ▸ Nat.lt_irrefl _)
    · exact fun q => (N _ (hsub _ (hm c₀))).2.1 q.symm
  obtain ⟨ol, hol, _⟩ := id hls
  have hne : l ≠ s.heap.objs.size := Nat.ne_of_lt (Heap.lt_size hol)
  refine wpAny_pyIter_list hls ?_
  refine for_walks2 (Walks.list (prog := prog) (w := w) hh s.heap.objs.size l hne items) hL M Led P c₀ m₀ (fun i h st => by obtain ⟨o, e, _⟩ := st.1; exact ⟨o, e⟩) ?_ (next_is_new F) ⟨⟨_, Heap.get?_push_size _ rfl, rfl, rfl⟩, hls.push _⟩ (F.push _) (fun p hp => ⟨Heap.get?_push_of_some _ (N p (hsub p hp)).1, (N p (hsub p hp)).2⟩)
    (fun p hp => Nat.ne_of_lt (Heap.lt_size (N p (hsub p hp)).1)) hp (fun i s' v Q' E' st hQ' => letGo_listiter st.1 hQ') (fun b hb => ?_) (fun i v c m₁ s₁ oI E' hi hv hP hI F₁ N₁ => turn i v c m₁ s₁ _ oI E' hi hv hP hI F₁ N₁) (fun c m₁ h tk hP F₁ N₁ => done c m₁ h tk hP F₁ N₁)
  · intro hm
    rcases List.mem_cons.mp hm with e | hm
    · exact absurd F.ns.lt (e ▸ Nat.lt_irrefl _)
    · exact hlL (List.mem_singleton.mp hm)
  · rcases List.mem_cons.mp hb with e | e
    · exact .inl e
    · rcases hl with ⟨o, q, r⟩ | ⟨n, hm⟩
      · exact .inr (.inl ⟨o, (List.mem_singleton.mp e) ▸ q⟩)
      · exact .inr (.inr ⟨_, fun c => (List.mem_singleton.mp e) ▸ hm c⟩)
end
end Mine
namespace Mine
section
variable {prog : Program} {w : World} {A : Around} {E : Value → Shared → Prop} {s : Shared} {h₀ : Heap} {L : Addr} {m : Str → Option Value} {env : Env}
/-- how a kept turn ends -/
def IfDone (h₀ : Heap) (L : Addr) (m : Str → Option Value) (s : Shared) (led : List (Addr × Obj)) (J : Value → Prop) (y : Value) (s₃ : Shared) : Prop :=
  ∃ h'' tk'', s₃ = { s with heap := h'', toks := tk'' } ∧ Fr h₀ L h'' m ∧ News h₀ L h'' led ∧ J y
theorem IfTurn.intro {elt test : Expr} {cenv : Env} {I C D : Addr} {oI oC : Obj} {ys : List Value} {news : List (Addr × Obj)} {J : List Value → Prop} {b : Bool} {h : Heap} {tk : Nat}
    (F : Fr h₀ L h m) (N : News h₀ L h (inLed I oI C oC D ys news))
    (ht : b = true → wpAny (model prog w) A (eval elt cenv) (IfDone h₀ L m s (inLed I oI C oC D ys news) fun y => J (ys ++ [y])) E { s with heap := h, toks := tk })
    (hf : b = false → J ys) : IfTurn prog w A h₀ L m elt test cenv I oI C oC D ys news E s J b { s with heap := h, toks := tk } := by
  refine ⟨h, tk, rfl, F, N, ?_⟩
  cases b with
  | true => exact ht rfl
  | false => exact hf rfl
end
end Mine
namespace Mine
theorem ne_dec {ns : List Int} (h : decide (ns = []) = false) : 0 < ns.length := by
  have := of_decide_eq_false h
  cases ns with
  | nil => exact absurd rfl this
  | cons a l => exact Nat.succ_pos _
end Mine
namespace Mine
section
variable {prog : Program} {w : World} {A : Around} {h₀ : Heap} {L : Addr} {m : Str → Option Value} {env : Env} {elt : Expr} {x : Str} {scope : Scope} {cl : List (Str × Addr)} {s : Shared} {S : List (Addr × Obj) → Prop} {Fin : List Value → List (Addr × Obj) → Prop} {news : List (Addr × Obj)}
/-- over a list of ints, the ledger as it stood -/
theorem comp_ints {n : Nat} {its : Array Value} {ms : List Int} (hi : IntsAre its.toList ms) (J : Nat → List Value → Prop) (start : J 0 [])
    (turn : ∀ i ys t I oI C oC D m₂ h tk (E' : Value → Shared → Prop), i < n → J i ys → LCg.NsObj oC m₂ → m₂ x = some (.int (ms.getD i 0) t) → Fr h₀ L h m → News h₀ L h ((I, oI) :: (C, oC) :: (D, LCg.lst ys) :: news) → LCg.Off3 I C D news → ((@Ne Nat I C) ∧ (@Ne Nat I D) ∧ (@Ne Nat C D)) →
      wpAny (model prog w) A (eval elt (compEnvC scope cl C env)) (LCg.CompEnd h₀ L m { s with heap := h, toks := tk } I oI C oC D (LCg.lst ys) S (fun y nw' => nw' = news ∧ J (i + 1) (ys ++ [y]))) E' { s with heap := h, toks := tk })
    (fin : ∀ ys, J n ys → Fin ys news) : LCg.CompRest prog w A h₀ L m env elt x scope cl s S (fun i v => its[i]? = some v) Fin n 0 [] news :=
  comp_inv (fun i ys nw => nw = news ∧ J i ys) ⟨rfl, start⟩
    (fun i ys nw v I oI C oC D m₂ h tk E' hin hv hp hC hx F N off ne => by
      obtain ⟨rfl, hj⟩ := hv
      have hlen : i < its.size := by
        rcases Nat.lt_or_ge i its.size with h | h
        · exact h
        · rw [Array.getElem?_eq_none h] at hp; cases hp
      have hl2 : i < ms.length := by rw [← hi.length]; simpa using hlen
      obtain ⟨t, hx'⟩ := hi.get i ms[i] (by simp [hl2])
      have : v = .int (ms.getD i 0) t := by
        rw [Array.getElem?_toList] at hx'
        rw [hx'] at hp
        have e : ms.getD i 0 = ms[i] := by simp [hl2]
        rw [e]; exact (Option.some.inj hp).symm
      exact turn i ys t I oI C oC D m₂ h tk E' hin hj hC (this ▸ hx) F N off ne)
    (fun ys nw hv => by obtain ⟨rfl, hj⟩ := hv; exact fin ys hj)
end
end Mine
end
section
open PySem PySem.W PyProof.Rows PySem.Spec PySem.Calls PyProof.Rows.LCg PyProof.Rows.LCp
namespace Mine
section
variable {prog : Program} {w : World} {A : Around} {h₀ : Heap} {L : Addr} {m : Str → Option Value} {env : Env} {elt : Expr} {x x₂ : Str} {scope : Scope} {cl : List (Str × Addr)} {s : Shared} {S : List (Addr × Obj) → Prop} {P : Nat → Value → Prop} {Fin : List Value → List (Addr × Obj) → Prop} {news : List (Addr × Obj)}
/-- a comprehension over pairs, the ledger as it stood -/
theorem compP_inv {n : Nat} (J : Nat → List Value → Prop) (start : J 0 [])
    (turn : ∀ i ys v, i < n → J i ys → P i v → ∃ (t : Addr) (ot : Obj) (v₁ v₂ : Value) (nt : Nat), v = .ref t ∧ (t, ot) ∈ news ∧ ot.cls = .type "tuple" ∧ ot.data = .seq #[v₁, v₂] nt ∧
      ∀ I oI C oC D m₂ h tk (E' : Value → Shared → Prop), LCg.NsObj oC m₂ → m₂ x = some v₁ → m₂ x₂ = some v₂ → Fr h₀ L h m → News h₀ L h ((I, oI) :: (C, oC) :: (D, LCg.lst ys) :: news) → LCg.Off3 I C D news → ((@Ne Nat I C) ∧ (@Ne Nat I D) ∧ (@Ne Nat C D)) →
      wpAny (model prog w) A (eval elt (compEnvC scope cl C env)) (LCg.CompEnd h₀ L m { s with heap := h, toks := tk } I oI C oC D (LCg.lst ys) S (fun y nw' => nw' = news ∧ J (i + 1) (ys ++ [y]))) E' { s with heap := h, toks := tk })
    (fin : ∀ ys, J n ys → Fin ys news) : LCp.CompRestP prog w A h₀ L m env elt x x₂ scope cl s S P Fin n 0 [] news := by
  have key : ∀ (j i : Nat) (ys : List Value), i + j = n → J i ys → LCp.CompRestP prog w A h₀ L m env elt x x₂ scope cl s S P Fin j i ys news := by
    intro j
    induction j with
    | zero =>
      intro i ys hi hv
      have e : i = n := by omega
      subst e
      exact LCp.CompRestP.zero (fin ys hv)
    | succ j ih =>
      intro i ys hi hv
      refine LCp.CompRestP.succ fun v hp => ?_
      obtain ⟨t, ot, v₁, v₂, nt, e1, e2, e3, e4, go⟩ := turn i ys v (by omega) hv hp
      refine ⟨t, ot, v₁, v₂, nt, e1, e2, e3, e4, fun I oI C oC D m₂ h tk E' hC hx hx2 F N off ne => ?_⟩
      refine wpAny_mono (go I oI C oC D m₂ h tk E' hC hx hx2 F N off ne) (fun y s₂ hq => ?_) fun _ _ e => e
      obtain ⟨h', tk', nw', e, F', N', off', hS, rfl, hi'⟩ := hq
      exact ⟨h', tk', nw', e, F', N', off', hS, ih (i + 1) _ (by omega) hi'⟩
  exact key n 0 [] (by omega) start
end
end Mine
end
namespace Mine
open PySem PySem.W PyProof.Rows PySem.Spec PySem.Calls
local macro_rules | `(tactic| k_lt $h:ident) => `(tactic| (replace $h:ident := allLt_of $h; dsimp only [AllLt] at $h:ident))
local macro_rules | `(tactic| k_ne) => `(tactic| (refine neN ?_; (try dsimp only); first | (with_reducible assumption) | (with_reducible (refine Ne.symm ?_; assumption)) | k_extra "m off" | (refine Nat.ne_of_lt ?_; k_extra "m cj") | (refine Nat.ne_of_gt ?_; k_extra "m cj") | k_extra "m cj" | (refine Ne.symm ?_; k_extra "m cj") | omega))
theorem words_on : True := by
  k_with_none
  (k_with "m cj" => with_reducible first | assumption | exact And.left (by assumption) | exact And.left (And.right (by assumption)) | exact And.right (by assumption) | exact And.left (And.right (And.right (by assumption))) | exact And.right (And.right (by assumption)) | exact And.left (And.right (And.right (And.right (by assumption)))) | exact And.right (And.right (And.right (by assumption))) | exact And.left (r4 (by assumption)) | exact r4 (by assumption) | exact And.left (r4 (And.right (by assumption))) | exact r4 (And.right (by assumption)) | exact And.left (r4 (And.right (And.right (by assumption)))) | exact r4 (And.right (And.right (by assumption))) | exact And.left (r4 (And.right (And.right (And.right (by assumption))))) | exact r4 (And.right (And.right (And.right (by assumption)))) | exact And.left (r4 (r4 (by assumption))) | exact r4 (r4 (by assumption)) | exact And.left (r4 (r4 (And.right (by assumption)))) | exact r4 (r4 (And.right (by assumption))) | exact And.left (r4 (r4 (And.right (And.right (by assumption))))) | exact r4 (r4 (And.right (And.right (by assumption)))) | exact And.left (r4 (r4 (And.right (And.right (And.right (by assumption)))))) | exact r4 (r4 (And.right (And.right (And.right (by assumption))))) | exact And.left (r4 (r4 (r4 (by assumption)))) | exact r4 (r4 (r4 (by assumption))) | exact And.left (r4 (r4 (r4 (And.right (by assumption))))) | exact r4 (r4 (r4 (And.right (by assumption)))) | exact And.left (r4 (r4 (r4 (And.right (And.right (by assumption)))))) | exact r4 (r4 (r4 (And.right (And.right (by assumption))))) | exact And.left (r4 (r4 (r4 (And.right (And.right (And.right (by assumption))))))) | exact r4 (r4 (r4 (And.right (And.right (And.right (by assumption)))))))
  (k_with "m le" => first | exact Nat.le_refl _ | (with_reducible refine le_s ?_; k_extra "m le") | (refine Nat.le_of_lt ?_; k_extra "m cj"))
  (k_with "m off" => first | (with_reducible refine ne_ss ?_; k_extra "m off") | (with_reducible refine ne_ls ?_; k_extra "m le") | (with_reducible refine ne_rs ?_; k_extra "m le"))
  (k_with "m enter" => (k_dflt (refine' enter (by assumption) (by assumption) (by exact Nat.le_of_ble_eq_true rfl) (by k_is) (by k_is) (by exact BindsTo.of_eq rfl) (by exact locs rfl) ?_ (by exact rfl) (by exact rfl) (by exact rfl) (by decide); k_whole; intro _ _ _ _; (try dsimp only); (try k_fold))))
  (k_with "m enterC" => (k_dflt (refine' enterC (by assumption) (by assumption) (by exact Nat.le_of_ble_eq_true rfl) (by k_is) (by k_is) (by exact BindsTo.of_eq rfl) (by exact rfl) (by decide +kernel) ?_ (by exact rfl) (by exact rfl) (by exact rfl); k_whole; intro _ _ _ _ _ _ Y'; k_cells Y'; (try dsimp only); (try k_fold))))
  (k_with "m ints" => first | assumption | (repeat' (first | exact IntsAre.nil | refine IntsAre.cons _ _ ?_)))
  (k_with "m len" => first | omega | (simp only [List.length_cons, List.length_nil, List.length_append, List.length_replicate, List.length_take, List.length_map, List.length_flatten, List.map_replicate, List.sum_replicate_nat, Int.toNat]; omega) | (simp; omega))
  (k_with "CompSrc" => refine Stop.out ?_)
  (k_with "CompEnd" => refine Stop.out ?_)
  (k_with "m range" => (refine Stop.mk ?_; k_dflt (refine LCg.CompSrc.range (by rfl) (by k_asm) (by k_asm) (by assumption) (by decide) (by rfl) (by size_fits) ?_); intro _))
  (k_with "m end" => (refine Stop.mk ?_; refine LCg.CompEnd.intro (by assumption) (by assumption) _ (by kcf_all) (by first | assumption | (simp only [LCg.Off3, and_true]; done) | (simp only [LCg.Off3, and_true]; assumption)) (by first | lcg_src | assumption) ⟨rfl, ?_⟩))
  (k_with "m base" => first | exact base_list (by k_asm) (by assumption) | exact News.isList (by k_asm) (by k_mem))
  (k_with "assign Tuple" => (k_here; (with_reducible show wpAny _ _ (assign (Expr.Tuple _ _ _) _ (Value.ref _)) _ _ _); k_dflt (refine' kun_list (by k_asm) (by k_asm) (by k_extra "m base") (by exact rfl) (by exact rfl) (by exact rfl) ?_; k_whole); intro _ _ _; (try k_sweep)))
  (k_with "subscriptTail Name Name ref int" => k_extra "m sub")
  (k_with "subscriptTail Name Subscript ref int" => k_extra "m sub")
  (k_with "subscriptTail Name Call ref int" => k_extra "m sub")
  (k_with "subscriptTail Attribute Name ref int" => k_extra "m sub")
  (k_with "m sub" => (k_here; (with_reducible show wpAny _ _ (subscriptTail _ _ (Value.ref _) (Value.int _ _)) _ _ _); first | ((with_reducible show wpAny _ _ (subscriptTail _ _ (Value.ref _) (Value.int (Nat.cast _) _)) _ _ _); first | (k_dflt (refine' sub_pairs (by k_asm) (by with_reducible assumption) (by omega) ?_; k_whole); intro _ _ _ _) | (k_dflt (refine' sub_intsN (by k_asm) (by k_mem) (by k_extra "m ints") (by k_extra "m len") (by k_extra "m len") ?_; k_whole); intro _) | (k_dflt (refine' sub_baseN (by k_asm) (by with_reducible assumption) (by k_extra "m ints") (by k_extra "m len") (by k_extra "m len") ?_; k_whole); intro _)) | (k_dflt (refine' sub_ints (by k_asm) (by k_mem) (by k_extra "m ints") (by omega) (by k_extra "m len") (by k_extra "m len") ?_; k_whole); intro _) | (k_dflt (refine' sub_base (by k_asm) (by with_reducible assumption) (by k_extra "m ints") (by omega) (by k_extra "m len") (by k_extra "m len") ?_; k_whole); intro _)))
  (k_with "call ref" => refine Stop.out ?_)
  (k_with "exec While Compare cons nil" => refine Stop.out ?_)
  (k_with "pyIter ref" => refine Stop.out ?_)
  (k_with "exec For Name Call cons nil" => (k_dflt (refine wpAny_For ?_); (try k_unmd); (try k_fold)))
  (k_with "exec For Tuple Subscript cons nil" => (k_dflt (refine wpAny_For ?_); (try k_unmd); (try k_fold)))
  (k_with "exec For Tuple Name cons nil" => (k_dflt (refine wpAny_For ?_); (try k_unmd); (try k_fold)))
  (k_with "binaryOp RShift int int" => (with_reducible refine rsh6 ?_))
  (k_with "binaryOp LShift int int" => (with_reducible refine lsh6 (by k_dflt omega) ?_))
  (k_with "m ret" => ((try k_unmd); (try k_unfold); refine' Ret.intro [_] (by k_asm) (by k_asm) (fun p hp => by rw [List.mem_singleton.mp hp]; exact List.mem_cons_self) ?_))
  (k_with "binaryOp Mult int int" => ((with_reducible refine mul_int ?_ (by k_dflt (first | exact IntMulOk.of_left (intBits_le_64 (by omega) (by omega)) | exact IntMulOk.of_right (intBits_le_64 (by omega) (by omega)))))))
  (k_with "call builtin:max" => ((with_reducible show wpAny _ _ (call (Value.builtin _) [Value.float _ _, Value.float _ _, Value.float _ _]) _ _ _); k_dflt (refine' float_max3 (by exact rfl) (by k_asm) (by k_asm) ?_; k_whole); intro _ _ _ _ _))
  (k_with "call builtin:min" => ((with_reducible show wpAny _ _ (call (Value.builtin _) [Value.float _ _, Value.float _ _, Value.float _ _]) _ _ _); k_dflt (refine' float_min3 (by exact rfl) (by k_asm) (by k_asm) ?_; k_whole); intro _ _ _ _ _))
  (k_with "call builtin:min" => ((with_reducible show wpAny _ _ (call (Value.builtin _) [Value.float _ _, Value.float _ _]) _ _ _); k_dflt (refine' float_min2 (by exact rfl) (by k_asm) (by k_asm) ?_; k_whole); intro _ _ _ _ _))
  (k_with "binaryOp Div float float" => ((with_reducible refine AutoFloatOps.truediv_1 (by k_dflt (first | assumption | decide | exact Nz.out (by assumption) (by assumption))) ?_); (try dsimp only [Made.post])))
  (k_with "binaryOp Mod float float" => ((with_reducible refine AutoFloatOps.mod_1 (by k_dflt (first | assumption | decide | exact Nz.out (by assumption) (by assumption))) ?_); (try dsimp only [Made.post])))
  (k_with "ite" => first | refine ite_t (by assumption) ?_ | refine ite_f (by assumption) ?_ | refine ite_t (Ng.out (by assumption) (by assumption)) ?_)
  (k_with "eval ListComp" => ((with_reducible refine' ListComp_if (by with_unfolding_all rfl) (by with_unfolding_all rfl) (by k_dflt decide) ?_ (by (intro _; with_unfolding_all rfl))); (try k_unmd); (try k_fold)))
  (k_with "exec Assign cons ListComp" => ((with_reducible refine' Assign_if (by with_unfolding_all rfl) (by with_unfolding_all rfl) (by with_unfolding_all rfl) (by k_dflt decide) ?_ (by (intro _; with_unfolding_all rfl))); (try k_unmd); (try k_fold)))
  (k_with "IfGo" => refine Stop.out ?_)
  (k_with "IfTurn" => refine Stop.out ?_)
  (k_with "IfDone" => refine Stop.out ?_)
  (k_with "ForEnd2" => refine Stop.out ?_)
  (k_with "call builtin:max" => ((with_reducible show wpAny _ _ (call (Value.builtin _) [Value.ref _]) _ _ _); k_dflt (refine' max_list_N (by exact rfl) (by k_asm) (by k_asm) (by k_extra "m base") (by k_extra "m ints") (by (first | assumption | omega | exact ne_dec (by assumption))) ?_; k_whole); intro _ _ _ _ _ _ _ _))
  (k_with "m ledger" => (refine Stop.mk ?_; k_dflt (refine LCg.CompSrc.ledger (by rfl) (by k_asm) (by k_asm) (by k_mem) (by size_fits) ?_); intro _))
  (k_with "getMethod ref" => ((with_reducible show wpAny _ _ (getMethod (Value.ref _) (Str.ofString "sub") _) _ _ _); refine Stop.out ?_))
  (k_with "m tl" => first | assumption | (refine' List.Mem.tail _ ?_; k_extra "m tl") | exact (by assumption : ∀ q : Addr × Obj, q ∈ (_ : List (Addr × Obj)) → q ∈ (_ : List (Addr × Obj))) _ (by assumption))
  (k_with "m inc" => first | exact List.forall_mem_nil _ | (refine' List.forall_mem_cons.mpr ⟨(by k_mem), (by k_extra "m inc")⟩) | (intro _ _; k_extra "m tl"))
  trivial
local macro_rules | `(tactic| walk_at $s:str) => `(tactic| k_extra $s)
theorem lines_on : True := by
  w_top off
  trivial
section
open PySem PySem.W PyProof.Rows PySem.Spec PySem.Calls
section
local macro_rules | `(tactic| walk_at "m pad0") => `(tactic| skip)
set_option maxRecDepth 100000 in
set_option maxHeartbeats 4000000 in
theorem draws_c {w : World} {p : Program} {loose : List Str} {mean : ExcName → Option Value} {mg mb : Str → Option Value} {fr : Option (List Env)} {gd : Option (List Code)} {s : Shared}
  (l : Addr) (vs : List Value) (ns : List Int)
  (X : (Mine.KK w.params).In s.heap) (T : Top p loose mean mg mb s.heap)
  (hl : s.heap.IsList l vs.toArray) (hi : IntsAre vs ns) (hlen : ns.length ≤ 63) :

  codeAny (model PySem.Challenge.rw_tl0015_01.row.prog w) (Ac 1 fr gd) (.call (.ref 84) ⟨[.ref l], []⟩) (Ret s fun v own => ∃ r n vals ds, v = .ref r ∧ own = [(r, listOf (vals : List Value).toArray n)] ∧ IntsAre vals ds ∧ ds.length = 9 ∧ ∀ d ∈ ds, 0 ≤ d ∧ d < 60) s := by
  revert X; k_fill; intro X
  k_extra "m enterC"
  k_steps
  k_extra "m range"
  refine comp_range0 (n := 9) (fun i ys => ∃ ds, IntsAre ys ds ∧ ds.length = i ∧ ∀ d ∈ ds, 0 ≤ d ∧ d < 60) ⟨[], .nil, rfl, by simp⟩ ?_ ?_
  · intro i ys t I oI C oC D m₂ h tk E' hi hj hC hx F N off ne
    dsimp only [LCg.Off3] at off
    (try k_unmd); (try k_fold)
    k_steps
    k_extra "m end"
    obtain ⟨ds, h1, h2, h3⟩ := hj
    refine ⟨ds ++ [_], h1.append (.cons _ _ .nil), by simp [h2], ?_⟩
    intro d hd
    rcases List.mem_append.mp hd with hd | hd
    · exact h3 d hd
    · rw [List.mem_singleton.mp hd]
      exact ⟨Int.fmod_nonneg_of_pos _ (by decide), Int.fmod_lt_of_pos _ (by decide)⟩
  · intro ys hj
    unfold LCg.FinE
    intro D h tk F N o1
    obtain ⟨ds, h1, h2, h3⟩ := hj
    exact Ret.intro [_] F N (by intro p hp; rw [List.mem_singleton.mp hp]; exact List.mem_cons_self) ⟨_, _, _, ds, rfl, rfl, h1, h2, h3⟩
end
end
section
open PySem PySem.W PyProof.Rows PySem.Spec PySem.Calls
section
def tokTab : List (Str × Int) := [(⟨#[33]⟩, 54), (⟨#[33, 61]⟩, 28), (⟨#[37]⟩, 24), (⟨#[37, 61]⟩, 40), (⟨#[38]⟩, 19), (⟨#[38, 61]⟩, 41), (⟨#[40]⟩, 7), (⟨#[41]⟩, 8), (⟨#[42]⟩, 16), (⟨#[42, 42]⟩, 35), (⟨#[42, 42, 61]⟩, 46), (⟨#[42, 61]⟩, 38), (⟨#[43]⟩, 14), (⟨#[43, 61]⟩, 36), (⟨#[44]⟩, 12), (⟨#[45]⟩, 15), (⟨#[45, 61]⟩, 37), (⟨#[45, 62]⟩, 51), (⟨#[46]⟩, 23), (⟨#[46, 46, 46]⟩, 52), (⟨#[47]⟩, 17), (⟨#[47, 47]⟩, 47), (⟨#[47, 47, 61]⟩, 48), (⟨#[47, 61]⟩, 39), (⟨#[58]⟩, 11), (⟨#[58, 61]⟩, 53), (⟨#[59]⟩, 13), (⟨#[60]⟩, 20), (⟨#[60, 60]⟩, 33), (⟨#[60, 60, 61]⟩, 44), (⟨#[60, 61]⟩, 29), (⟨#[61]⟩, 22), (⟨#[61, 61]⟩, 27), (⟨#[62]⟩, 21), (⟨#[62, 61]⟩, 30), (⟨#[62, 62]⟩, 34), (⟨#[62, 62, 61]⟩, 45), (⟨#[64]⟩, 49), (⟨#[64, 61]⟩, 50), (⟨#[91]⟩, 9), (⟨#[93]⟩, 10), (⟨#[94]⟩, 32), (⟨#[94, 61]⟩, 43), (⟨#[123]⟩, 25), (⟨#[124]⟩, 18), (⟨#[124, 61]⟩, 42), (⟨#[125]⟩, 26), (⟨#[126]⟩, 31)]
set_option maxRecDepth 100000 in
set_option maxHeartbeats 4000000 in
theorem tok_tab {w : World} {h : Heap} (X : (Mine.KK w.params).In h) : StrTab PySem.Challenge.rw_tl0015_01.row.prog w h 70 (kdpD tokTab) := by
  refine kt_tab_in (D := tokTab.map fun p => (p.1, PyData.int p.2)) _ w X ?_ ?_ ?_
  · exact rfl
  · decide +kernel
  · exact rfl
end
end
section
open PySem PySem.W PyProof.Rows PySem.Spec PySem.Calls
section
theorem words_on_T1 : True := by
  k_with_none
  (k_with "m cj" => with_reducible first | assumption | exact And.left (by assumption) | exact And.left (And.right (by assumption)) | exact And.right (by assumption) | exact And.left (And.right (And.right (by assumption))) | exact And.right (And.right (by assumption)) | exact And.left (And.right (And.right (And.right (by assumption)))) | exact And.right (And.right (And.right (by assumption))) | exact And.left (r4 (by assumption)) | exact r4 (by assumption) | exact And.left (r4 (And.right (by assumption))) | exact r4 (And.right (by assumption)) | exact And.left (r4 (And.right (And.right (by assumption)))) | exact r4 (And.right (And.right (by assumption))) | exact And.left (r4 (And.right (And.right (And.right (by assumption))))) | exact r4 (And.right (And.right (And.right (by assumption)))) | exact And.left (r4 (r4 (by assumption))) | exact r4 (r4 (by assumption)) | exact And.left (r4 (r4 (And.right (by assumption)))) | exact r4 (r4 (And.right (by assumption))) | exact And.left (r4 (r4 (And.right (And.right (by assumption))))) | exact r4 (r4 (And.right (And.right (by assumption)))) | exact And.left (r4 (r4 (And.right (And.right (And.right (by assumption)))))) | exact r4 (r4 (And.right (And.right (And.right (by assumption))))) | exact And.left (r4 (r4 (r4 (by assumption)))) | exact r4 (r4 (r4 (by assumption))) | exact And.left (r4 (r4 (r4 (And.right (by assumption))))) | exact r4 (r4 (r4 (And.right (by assumption)))) | exact And.left (r4 (r4 (r4 (And.right (And.right (by assumption)))))) | exact r4 (r4 (r4 (And.right (And.right (by assumption))))) | exact And.left (r4 (r4 (r4 (And.right (And.right (And.right (by assumption))))))) | exact r4 (r4 (r4 (And.right (And.right (And.right (by assumption)))))))
  (k_with "m le" => first | exact Nat.le_refl _ | (with_reducible refine le_s ?_; k_extra "m le") | (refine Nat.le_of_lt ?_; k_extra "m cj"))
  (k_with "m off" => first | (with_reducible refine ne_ss ?_; k_extra "m off") | (with_reducible refine ne_ls ?_; k_extra "m le") | (with_reducible refine ne_rs ?_; k_extra "m le"))
  (k_with "m enter" => (k_dflt (refine' enter (by assumption) (by assumption) (by exact Nat.le_of_ble_eq_true rfl) (by k_is) (by k_is) (by exact BindsTo.of_eq rfl) (by exact locs rfl) ?_ (by exact rfl) (by exact rfl) (by exact rfl) (by decide); k_whole; intro _ _ _ _; (try dsimp only); (try k_fold))))
  (k_with "m enterC" => (k_dflt (refine' enterC (by assumption) (by assumption) (by exact Nat.le_of_ble_eq_true rfl) (by k_is) (by k_is) (by exact BindsTo.of_eq rfl) (by exact rfl) (by decide +kernel) ?_ (by exact rfl) (by exact rfl) (by exact rfl); k_whole; intro _ _ _ _ _ _ Y'; k_cells Y'; (try dsimp only); (try k_fold))))
  (k_with "m ints" => first | assumption | (repeat' (first | exact IntsAre.nil | refine IntsAre.cons _ _ ?_)))
  (k_with "m len" => first | omega | (simp only [List.length_cons, List.length_nil, List.length_append, List.length_replicate, List.length_take, List.length_map, List.length_flatten, List.map_replicate, List.sum_replicate_nat, Int.toNat]; omega) | (simp; omega))
  (k_with "CompSrc" => refine Stop.out ?_)
  (k_with "CompEnd" => refine Stop.out ?_)
  (k_with "m range" => (refine Stop.mk ?_; k_dflt (refine LCg.CompSrc.range (by rfl) (by k_asm) (by k_asm) (by assumption) (by decide) (by rfl) (by size_fits) ?_); intro _))
  (k_with "m end" => (refine Stop.mk ?_; refine LCg.CompEnd.intro (by assumption) (by assumption) _ (by kcf_all) (by first | assumption | (simp only [LCg.Off3, and_true]; done) | (simp only [LCg.Off3, and_true]; assumption)) (by first | lcg_src | assumption) ⟨rfl, ?_⟩))
  (k_with "m base" => first | exact base_list (by k_asm) (by assumption) | exact News.isList (by k_asm) (by k_mem))
  (k_with "assign Tuple" => (k_here; (with_reducible show wpAny _ _ (assign (Expr.Tuple _ _ _) _ (Value.ref _)) _ _ _); k_dflt (refine' kun_list (by k_asm) (by k_asm) (by k_extra "m base") (by exact rfl) (by exact rfl) (by exact rfl) ?_; k_whole); intro _ _ _; (try k_sweep)))
  (k_with "subscriptTail Name Name ref int" => k_extra "m sub")
  (k_with "subscriptTail Name Subscript ref int" => k_extra "m sub")
  (k_with "subscriptTail Name Call ref int" => k_extra "m sub")
  (k_with "subscriptTail Attribute Name ref int" => k_extra "m sub")
  (k_with "m sub" => (k_here; (with_reducible show wpAny _ _ (subscriptTail _ _ (Value.ref _) (Value.int _ _)) _ _ _); first | ((with_reducible show wpAny _ _ (subscriptTail _ _ (Value.ref _) (Value.int (Nat.cast _) _)) _ _ _); first | (k_dflt (refine' sub_pairs (by k_asm) (by with_reducible assumption) (by omega) ?_; k_whole); intro _ _ _ _) | (k_dflt (refine' sub_intsN (by k_asm) (by k_mem) (by k_extra "m ints") (by k_extra "m len") (by k_extra "m len") ?_; k_whole); intro _) | (k_dflt (refine' sub_baseN (by k_asm) (by with_reducible assumption) (by k_extra "m ints") (by k_extra "m len") (by k_extra "m len") ?_; k_whole); intro _)) | (k_dflt (refine' sub_ints (by k_asm) (by k_mem) (by k_extra "m ints") (by omega) (by k_extra "m len") (by k_extra "m len") ?_; k_whole); intro _) | (k_dflt (refine' sub_base (by k_asm) (by with_reducible assumption) (by k_extra "m ints") (by omega) (by k_extra "m len") (by k_extra "m len") ?_; k_whole); intro _)))
  (k_with "call ref" => refine Stop.out ?_)
  (k_with "exec While Compare cons nil" => refine Stop.out ?_)
  (k_with "pyIter ref" => refine Stop.out ?_)
  (k_with "exec For Name Call cons nil" => (k_dflt (refine wpAny_For ?_); (try k_unmd); (try k_fold)))
  (k_with "exec For Tuple Subscript cons nil" => (k_dflt (refine wpAny_For ?_); (try k_unmd); (try k_fold)))
  (k_with "exec For Tuple Name cons nil" => (k_dflt (refine wpAny_For ?_); (try k_unmd); (try k_fold)))
  (k_with "binaryOp RShift int int" => (with_reducible refine rsh6 ?_))
  (k_with "binaryOp LShift int int" => (with_reducible refine lsh6 (by k_dflt omega) ?_))
  (k_with "m ret" => ((try k_unmd); (try k_unfold); refine' Ret.intro [_] (by k_asm) (by k_asm) (fun p hp => by rw [List.mem_singleton.mp hp]; exact List.mem_cons_self) ?_))
  (k_with "binaryOp Mult int int" => ((with_reducible refine mul_int ?_ (by k_dflt (first | exact IntMulOk.of_left (intBits_le_64 (by omega) (by omega)) | exact IntMulOk.of_right (intBits_le_64 (by omega) (by omega)))))))
  (k_with "call builtin:max" => ((with_reducible show wpAny _ _ (call (Value.builtin _) [Value.float _ _, Value.float _ _, Value.float _ _]) _ _ _); k_dflt (refine' float_max3 (by exact rfl) (by k_asm) (by k_asm) ?_; k_whole); intro _ _ _ _ _))
  (k_with "call builtin:min" => ((with_reducible show wpAny _ _ (call (Value.builtin _) [Value.float _ _, Value.float _ _, Value.float _ _]) _ _ _); k_dflt (refine' float_min3 (by exact rfl) (by k_asm) (by k_asm) ?_; k_whole); intro _ _ _ _ _))
  (k_with "call builtin:min" => ((with_reducible show wpAny _ _ (call (Value.builtin _) [Value.float _ _, Value.float _ _]) _ _ _); k_dflt (refine' float_min2 (by exact rfl) (by k_asm) (by k_asm) ?_; k_whole); intro _ _ _ _ _))
  (k_with "binaryOp Div float float" => ((with_reducible refine AutoFloatOps.truediv_1 (by k_dflt (first | assumption | decide | exact Nz.out (by assumption) (by assumption))) ?_); (try dsimp only [Made.post])))
  (k_with "binaryOp Mod float float" => ((with_reducible refine AutoFloatOps.mod_1 (by k_dflt (first | assumption | decide | exact Nz.out (by assumption) (by assumption))) ?_); (try dsimp only [Made.post])))
  (k_with "ite" => first | refine ite_t (by assumption) ?_ | refine ite_f (by assumption) ?_ | refine ite_t (Ng.out (by assumption) (by assumption)) ?_)
  (k_with "eval ListComp" => ((with_reducible refine' ListComp_if (by with_unfolding_all rfl) (by with_unfolding_all rfl) (by k_dflt decide) ?_ (by (intro _; with_unfolding_all rfl))); (try k_unmd); (try k_fold)))
  (k_with "exec Assign cons ListComp" => ((with_reducible refine' Assign_if (by with_unfolding_all rfl) (by with_unfolding_all rfl) (by with_unfolding_all rfl) (by k_dflt decide) ?_ (by (intro _; with_unfolding_all rfl))); (try k_unmd); (try k_fold)))
  (k_with "IfGo" => refine Stop.out ?_)
  (k_with "IfTurn" => refine Stop.out ?_)
  (k_with "IfDone" => refine Stop.out ?_)
  (k_with "ForEnd2" => refine Stop.out ?_)
  (k_with "call builtin:max" => ((with_reducible show wpAny _ _ (call (Value.builtin _) [Value.ref _]) _ _ _); k_dflt (refine' max_list_N (by exact rfl) (by k_asm) (by k_asm) (by k_extra "m base") (by k_extra "m ints") (by (first | assumption | omega | exact ne_dec (by assumption))) ?_; k_whole); intro _ _ _ _ _ _ _ _))
  (k_with "m ledger" => (refine Stop.mk ?_; k_dflt (refine LCg.CompSrc.ledger (by rfl) (by k_asm) (by k_asm) (by k_mem) (by size_fits) ?_); intro _))
  (k_with "getMethod ref" => ((with_reducible show wpAny _ _ (getMethod (Value.ref _) (Str.ofString "sub") _) _ _ _); refine Stop.out ?_))
  (k_with "m tl" => first | assumption | (refine' List.Mem.tail _ ?_; k_extra "m tl") | exact (by assumption : ∀ q : Addr × Obj, q ∈ (_ : List (Addr × Obj)) → q ∈ (_ : List (Addr × Obj))) _ (by assumption))
  (k_with "m inc" => first | exact List.forall_mem_nil _ | (refine' List.forall_mem_cons.mpr ⟨(by k_mem), (by k_extra "m inc")⟩) | (intro _ _; k_extra "m tl"))
  (k_with "compareOp In str ref" => (k_dflt (refine' kdp_in (c := tokTab) (by exact TabAt.ofFr (by assumption) (by k_asm)) ?_; k_whole)))
  (k_with "subscriptTail Name Subscript ref str" => (k_dflt (refine' kdp_item (c := tokTab) (by exact TabAt.ofFr (by assumption) (by k_asm)) (by exact sz_has (by assumption)) ?_; k_whole); intro _))
  trivial
def szAt (x : Str) (i j : Nat) : List Int := ((List.range j).map fun (k : Nat) => (k : Int) + 1).filter fun n => kdpHas tokTab (Txt.slice x (some (i : Int)) (some ((i : Int) + n)))
theorem filter_one_t {p : Int → Bool} {a : Int} (h : p a = true) : [a].filter p = [a] := by simp [h]
theorem filter_one_f {p : Int → Bool} {a : Int} (h : p a = false) : [a].filter p = [] := by simp [h]
theorem szAt_succ_t {x : Str} {i j : Nat} (h : kdpHas tokTab (Txt.slice x (some (i : Int)) (some ((i : Int) + ((j : Int) + 1)))) = true) : szAt x i (j + 1) = szAt x i j ++ [(j : Int) + 1] := by
  unfold szAt
  rw [List.range_succ, List.map_append, List.filter_append, List.map_singleton, filter_one_t (p := fun n => kdpHas tokTab (Txt.slice x (some (i : Int)) (some ((i : Int) + n)))) h]
theorem szAt_succ_f {x : Str} {i j : Nat} (h : kdpHas tokTab (Txt.slice x (some (i : Int)) (some ((i : Int) + ((j : Int) + 1)))) = false) : szAt x i (j + 1) = szAt x i j := by
  unfold szAt
  rw [List.range_succ, List.map_append, List.filter_append, List.map_singleton, filter_one_f (p := fun n => kdpHas tokTab (Txt.slice x (some (i : Int)) (some ((i : Int) + n)))) h, List.append_nil]
def mxAt (x : Str) (i : Nat) : Int := (szAt x i 3).foldl max 0
theorem szAt_pos {x : Str} {i j : Nat} {M : Int} (h : M ∈ szAt x i j) : 1 ≤ M ∧ M ≤ j := by
  obtain ⟨k, hk, rfl⟩ := List.mem_map.mp (List.mem_filter.mp h).1
  have := List.mem_range.mp hk
  omega
theorem foldl_max_ge : ∀ (l : List Int) (a : Int), a ≤ l.foldl max a ∧ ∀ x ∈ l, x ≤ l.foldl max a
  | [], a => ⟨Int.le_refl _, fun _ h => nomatch h⟩
  | b :: l, a => by
    have h := foldl_max_ge l (max a b)
    refine ⟨Int.le_trans (Int.le_max_left a b) h.1, fun x hx => ?_⟩
    rcases List.mem_cons.mp hx with rfl | hx
    · exact Int.le_trans (Int.le_max_right a x) h.1
    · exact h.2 x hx
theorem foldl_max_le : ∀ (l : List Int) (a M : Int), a ≤ M → (∀ x ∈ l, x ≤ M) → l.foldl max a ≤ M
  | [], _, _, h, _ => h
  | b :: l, a, M, h, hl => foldl_max_le l (max a b) M (Int.max_le.mpr ⟨h, hl b (.head _)⟩) fun x hx => hl x (.tail _ hx)
theorem mxAt_eq {x : Str} {i : Nat} {M : Int} (h : M ∈ szAt x i 3) (hle : ∀ a, a ∈ szAt x i 3 → a ≤ M) : mxAt x i = M :=
  Int.le_antisymm (foldl_max_le _ _ _ (by have := szAt_pos h; omega) hle) ((foldl_max_ge _ _).2 M h)
def tokF : Nat → Str → Nat → List Int
  | 0, _, _ => []
  | k + 1, x, i => if i < x.length then (if szAt x i 3 = [] then 256 :: tokF k x (i + 1) else kdpLook tokTab (Txt.slice x (some (i : Int)) (some ((i : Int) + mxAt x i))) 0 :: tokF k x (i + (mxAt x i).toNat)) else []
theorem tokF_nil {x : Str} {i : Nat} (h : ¬ i < x.length) : ∀ k, tokF k x i = []
  | 0 => rfl
  | k + 1 => by unfold tokF; rw [if_neg h]
theorem tokF_len : ∀ (k : Nat) (x : Str) (i : Nat), (tokF k x i).length ≤ k
  | 0, _, _ => Nat.le_refl _
  | k + 1, x, i => by
    unfold tokF
    split
    · split
      · exact Nat.succ_le_succ (tokF_len k x _)
      · exact Nat.succ_le_succ (tokF_len k x _)
    · exact Nat.zero_le _
def tokP (x : Str) (c : List Value × Nat × Obj × Nat × Tok) : Prop :=
  c.2.2.1.data = .cell (some (.int (c.2.2.2.1 : Int) c.2.2.2.2)) ∧ c.1.length ≤ c.2.2.2.1 ∧ ∃ ms k, IntsAre c.1 ms ∧ x.length - c.2.2.2.1 ≤ k ∧ ms ++ tokF k x c.2.2.2.1 = tokF x.length x 0
theorem tokP_none {x : Str} {vs : List Value} {n n' i : Nat} {q q' : Obj} {tq tv t' : Tok} (hp : tokP x (vs, n, q, i, tq)) (hlt : (i : Int) < (x.length : Int)) (hs : decide (szAt x i 3 = []) = true) (hd : q'.data = .cell (some (.int ((i : Int) + 1) t'))) :
    tokP x (vs ++ [.int 256 tv], n', q', ((i : Int) + 1).toNat, t') ∧ x.length - ((i : Int) + 1).toNat < x.length - i := by
  obtain ⟨_, hl, ms, k, hi, hk, he⟩ := hp
  have e : ((i : Int) + 1).toNat = i + 1 := by omega
  dsimp only at hl hi hk he
  refine ⟨⟨?_, ?_, ms ++ [256], k - 1, hi.append (.cons _ _ .nil), ?_, ?_⟩, by omega⟩
  · show q'.data = _
    rw [hd, e]; rfl
  · show (vs ++ [_]).length ≤ _
    rw [e, List.length_append]; simp; omega
  · show x.length - ((i : Int) + 1).toNat ≤ _
    omega
  · show _ ++ tokF (k - 1) x (((i : Int) + 1).toNat) = _
    rw [e, ← he]
    obtain ⟨k, rfl⟩ : ∃ z, k = z + 1 := ⟨k - 1, by omega⟩
    rw [tokF, if_pos (by omega), if_pos (of_decide_eq_true hs), List.append_assoc]
    rfl
theorem tokP_some {x : Str} {vs : List Value} {n n' i : Nat} {q q' : Obj} {tq tv t' : Tok} {M N : Int} (hp : tokP x (vs, n, q, i, tq)) (hlt : (i : Int) < (x.length : Int)) (hs : decide (szAt x i 3 = []) = false)
    (hM : M ∈ szAt x i 3) (hMl : ∀ a, a ∈ szAt x i 3 → a ≤ M) (hN : N ∈ szAt x i 3) (hNl : ∀ a, a ∈ szAt x i 3 → a ≤ N) (hd : q'.data = .cell (some (.int ((i : Int) + N) t'))) :
    tokP x (vs ++ [.int (kdpLook tokTab (Txt.slice x (some (i : Int)) (some ((i : Int) + M))) 0) tv], n', q', ((i : Int) + N).toNat, t') ∧ x.length - ((i : Int) + N).toNat < x.length - i := by
  obtain ⟨_, hl, ms, k, hi, hk, he⟩ := hp
  have eM := mxAt_eq hM hMl
  have eN := mxAt_eq hN hNl
  rw [← eM]
  rw [← eN] at hd ⊢
  have hpos := szAt_pos hM
  rw [← eM] at hpos
  have e : ((i : Int) + mxAt x i).toNat = i + (mxAt x i).toNat := by omega
  dsimp only at hl hi hk he
  refine ⟨⟨?_, ?_, ms ++ [_], k - 1, hi.append (.cons _ _ .nil), ?_, ?_⟩, by omega⟩
  · show q'.data = .cell (some (.int ((((i : Int) + mxAt x i).toNat : Nat) : Int) t'))
    rw [hd, Int.toNat_of_nonneg (by omega)]
  · show (vs ++ [_]).length ≤ _
    rw [e, List.length_append]; simp; omega
  · show x.length - ((i : Int) + mxAt x i).toNat ≤ _
    omega
  · show _ ++ tokF (k - 1) x (((i : Int) + mxAt x i).toNat) = _
    rw [e, ← he]
    obtain ⟨k, rfl⟩ : ∃ z, k = z + 1 := ⟨k - 1, by omega⟩
    rw [tokF, if_pos (by omega), if_neg (of_decide_eq_false hs), List.append_assoc]
    rfl
theorem tok_end {h₀ h : Heap} {L l cs cr : Addr} {vs : List Value} {n tk : Nat} {q o2 : Obj} {z : Int} {t : Tok} {nw : List (Addr × Obj)} {m₀ : Str → Option Value} {s : Shared} {P : List Value × Nat × Obj × Nat × Tok → Prop} {Q : Flow → Shared → Prop}
    (F : Fr h₀ L h (fun y => if y = Str.ofString "numbers" then some (.ref l) else m₀ y)) (N : News h₀ L h nw) (h1 : (l, W.listOf vs.toArray n) ∈ nw) (h2 : (cs, q) ∈ nw) (h3 : (cr, o2) ∈ nw) (hd : q.data = .cell (some (.int z t)))
    (hp : P (vs, n, q, z.toNat, t)) : TurnEnd h₀ L (fun (_ : List Value × Nat × Obj × Nat × Tok) m₀ y => if y = Str.ofString "numbers" then some (.ref l) else m₀ y) (fun c => [(l, W.listOf c.1.toArray c.2.1), (cs, c.2.2.1), (cr, o2)]) P [] s Q .next { s with heap := h, toks := tk } := by
  refine TurnEnd.intro (vs, n, q, z.toNat, t) m₀ F N ?_ (fun _ h => nomatch h) hp
  intro p hp
  simp only [List.mem_cons, List.not_mem_nil, or_false] at hp
  rcases hp with rfl | rfl | rfl
  · exact h1
  · exact h2
  · exact h3
theorem sz_has {x : Str} {i j : Nat} {M : Int} (h : M ∈ szAt x i j) : kdpHas tokTab (Txt.slice x (some (i : Int)) (some ((i : Int) + M))) = true := (List.mem_filter.mp h).2
set_option maxRecDepth 100000 in
set_option maxHeartbeats 4000000 in
theorem tok_c {w : World} {p : Program} {loose : List Str} {mean : ExcName → Option Value} {mg mb : Str → Option Value} {fr : Option (List Env)} {gd : Option (List Code)} {s : Shared}
  (X : (Mine.KK w.params).In s.heap) (T : Top p loose mean mg mb s.heap)
  (x : Str) (t : Tok) (hx : x.length ≤ 20) :
  codeAny (model PySem.Challenge.rw_tl0015_01.row.prog w) (Ac 2 fr gd) (.call (.ref 89) ⟨[.str x t], []⟩) (Ret s fun v own => ∃ r n vals, v = .ref r ∧ own = [(r, W.listOf (vals : List Value).toArray n)] ∧ IntsAre vals (tokF x.length x 0)) s := by
  have TT := tok_tab X
  revert X; k_fill; intro X
  k_extra "m enterC"
  k_steps
  rename_i L' h1 tk1 o1 o2 d1 d2 l h2 ll h3 h4 oc F9 N9 dc
  refine Stop.mk (while_fr (L := L') (σ := List Value × Nat × Obj × Nat × Tok) (fun c m₀ y => if y = Str.ofString "numbers" then some (.ref l) else m₀ y) (fun c => [(l, W.listOf c.1.toArray c.2.1), (L' + 1 + 1, c.2.2.1), (L' + 1, o2)])
    (tokP x) (fun c => x.length - c.2.2.2.1) ([], 0, oc, 0, _) _ (fr_name F9 rfl) N9 (fun _ h => h) ⟨dc, Nat.zero_le _, [], x.length, .nil, Nat.le_refl _, rfl⟩ ?_)
  rintro ⟨vs, n, q, i, tq⟩ m₁ h tk E' hP F N
  have hP' := hP.1
  have hvl := hP.2.1
  dsimp only at hP' hvl F N
  have hxi : (x.length : Int) ≤ 20 := by omega
  (try k_unmd); (try k_fold)
  k_steps
  · rename_i hlt _ _ l3 h3 F3 N3 ll3
    refine Stop.mk ?_
    k_unmd; (try k_unfold)
    refine IfGo.list (items := #[_, _, _]) rfl (.inr ⟨_, by k_mem⟩) (by show 3 ≤ sizeLine; decide) (by decide) rfl rfl F3 N3 (fun j ys => IntsAre ys (szAt x i j)) .nil ?_ ?_
    · intro j v I' oI' C oC D m₂ ys s₂ E2 hj hv hJ hC hx' F2 N2 off ne
      dsimp only [LCg.Off3] at off
      have hv' : ∃ u, v = .int ((j : Int) + 1) u := by
        have hj3 : j < 3 := hj
        have : j = 0 ∨ j = 1 ∨ j = 2 := lt3 _ (by omega)
        rcases this with rfl | rfl | rfl
        · exact ⟨_, (Option.some.inj hv).symm⟩
        · exact ⟨_, (Option.some.inj hv).symm⟩
        · exact ⟨_, (Option.some.inj hv).symm⟩
      obtain ⟨u, rfl⟩ := hv'
      have hj3 : j < 3 := hj
      (try k_unmd); (try k_fold)
      k_steps
      refine Stop.mk (IfTurn.intro (by k_asm) (by k_asm) ?_ ?_)
      · intro hb
        (try k_unmd); (try k_fold)
        k_steps
        refine Stop.mk ⟨_, _, rfl, by k_asm, by k_asm, ?_⟩
        have hb' : kdpHas tokTab (Txt.slice x (some (i : Int)) (some ((i : Int) + ((j : Int) + 1)))) = true := hb
        rw [szAt_succ_t hb']
        exact hJ.append (.cons _ _ .nil)
      · intro hb
        have hb' : kdpHas tokTab (Txt.slice x (some (i : Int)) (some ((i : Int) + ((j : Int) + 1)))) = false := hb
        rw [szAt_succ_f hb']
        exact hJ
    · intro g
      refine' rr_some ?ha ?hb ?hc ?_
      case ha => exact rfl
      case hb => exact rfl
      case hc => exact rfl
      intro D h tk ys F N off hJ
      change IntsAre ys (szAt x i 3) at hJ
      simp only [List.forall_mem_cons, List.not_mem_nil, false_imp_iff, implies_true, and_true] at off
      (try k_unmd); (try k_fold)
      k_steps
      · rename Fr _ _ _ _ => F8
        simp only [List.push_toArray] at *
        refine' tok_end (fr_name F8 rfl) ?hN ?h1 ?h2 ?h3 ?hd ?hp
        case hN => k_asm
        case h1 => k_mem
        case h2 => k_mem
        case h3 => k_mem
        case hd => assumption
        case hp => exact tokP_none hP (by assumption) (by assumption) (by assumption)
      · rename Fr _ _ _ _ => F8
        simp only [List.push_toArray] at *
        refine' tok_end (fr_name F8 rfl) ?hN ?h1 ?h2 ?h3 ?hd ?hp
        case hN => k_asm
        case h1 => k_mem
        case h2 => k_mem
        case h3 => k_mem
        case hd => assumption
        case hp => exact tokP_some hP (by assumption) (by assumption) (by assumption) (by assumption) (by assumption) (by assumption) (by assumption)
  · k_unmd
    (try k_unfold)
    obtain ⟨_, _, ms, k, hi, hk, he⟩ := hP
    rename ¬ _ => hge
    have hge' : ¬ i < x.length := by omega
    rw [show tokF k x (vs, n, q, i, tq).2.2.2.1 = [] from tokF_nil hge' k, List.append_nil] at he
    exact Ret.intro [_] (by k_asm) (by k_asm) (by intro p hp; rw [List.mem_singleton.mp hp]; exact List.mem_cons_self) ⟨_, _, _, rfl, rfl, he ▸ hi⟩
end
end
section
open PySem PySem.W PyProof.Rows PySem.Spec PySem.Calls
section
local macro_rules | `(tactic| walk_at "m pad0") => `(tactic| skip)
theorem words_on_R1 : True := by
  k_with_none
  (k_with "m cj" => with_reducible first | assumption | exact And.left (by assumption) | exact And.left (And.right (by assumption)) | exact And.right (by assumption) | exact And.left (And.right (And.right (by assumption))) | exact And.right (And.right (by assumption)) | exact And.left (And.right (And.right (And.right (by assumption)))) | exact And.right (And.right (And.right (by assumption))) | exact And.left (r4 (by assumption)) | exact r4 (by assumption) | exact And.left (r4 (And.right (by assumption))) | exact r4 (And.right (by assumption)) | exact And.left (r4 (And.right (And.right (by assumption)))) | exact r4 (And.right (And.right (by assumption))) | exact And.left (r4 (And.right (And.right (And.right (by assumption))))) | exact r4 (And.right (And.right (And.right (by assumption)))) | exact And.left (r4 (r4 (by assumption))) | exact r4 (r4 (by assumption)) | exact And.left (r4 (r4 (And.right (by assumption)))) | exact r4 (r4 (And.right (by assumption))) | exact And.left (r4 (r4 (And.right (And.right (by assumption))))) | exact r4 (r4 (And.right (And.right (by assumption)))) | exact And.left (r4 (r4 (And.right (And.right (And.right (by assumption)))))) | exact r4 (r4 (And.right (And.right (And.right (by assumption))))) | exact And.left (r4 (r4 (r4 (by assumption)))) | exact r4 (r4 (r4 (by assumption))) | exact And.left (r4 (r4 (r4 (And.right (by assumption))))) | exact r4 (r4 (r4 (And.right (by assumption)))) | exact And.left (r4 (r4 (r4 (And.right (And.right (by assumption)))))) | exact r4 (r4 (r4 (And.right (And.right (by assumption))))) | exact And.left (r4 (r4 (r4 (And.right (And.right (And.right (by assumption))))))) | exact r4 (r4 (r4 (And.right (And.right (And.right (by assumption)))))))
  (k_with "m le" => first | exact Nat.le_refl _ | (with_reducible refine le_s ?_; k_extra "m le") | (refine Nat.le_of_lt ?_; k_extra "m cj"))
  (k_with "m off" => first | (with_reducible refine ne_ss ?_; k_extra "m off") | (with_reducible refine ne_ls ?_; k_extra "m le") | (with_reducible refine ne_rs ?_; k_extra "m le"))
  (k_with "m enter" => (k_dflt (refine' enter (by assumption) (by assumption) (by exact Nat.le_of_ble_eq_true rfl) (by k_is) (by k_is) (by exact BindsTo.of_eq rfl) (by exact locs rfl) ?_ (by exact rfl) (by exact rfl) (by exact rfl) (by decide); k_whole; intro _ _ _ _; (try dsimp only); (try k_fold))))
  (k_with "m enterC" => (k_dflt (refine' enterC (by assumption) (by assumption) (by exact Nat.le_of_ble_eq_true rfl) (by k_is) (by k_is) (by exact BindsTo.of_eq rfl) (by exact rfl) (by decide +kernel) ?_ (by exact rfl) (by exact rfl) (by exact rfl); k_whole; intro _ _ _ _ _ _ Y'; k_cells Y'; (try dsimp only); (try k_fold))))
  (k_with "m ints" => first | assumption | (repeat' (first | exact IntsAre.nil | refine IntsAre.cons _ _ ?_)))
  (k_with "m len" => first | omega | (simp only [List.length_cons, List.length_nil, List.length_append, List.length_replicate, List.length_take, List.length_map, List.length_flatten, List.map_replicate, List.sum_replicate_nat, Int.toNat]; omega) | (simp; omega))
  (k_with "CompSrc" => refine Stop.out ?_)
  (k_with "CompEnd" => refine Stop.out ?_)
  (k_with "m range" => (refine Stop.mk ?_; k_dflt (refine LCg.CompSrc.range (by rfl) (by k_asm) (by k_asm) (by assumption) (by decide) (by rfl) (by size_fits) ?_); intro _))
  (k_with "m end" => (refine Stop.mk ?_; refine LCg.CompEnd.intro (by assumption) (by assumption) _ (by kcf_all) (by first | assumption | (simp only [LCg.Off3, and_true]; done) | (simp only [LCg.Off3, and_true]; assumption)) (by first | lcg_src | assumption) ⟨rfl, ?_⟩))
  (k_with "m base" => first | exact base_list (by k_asm) (by assumption) | exact News.isList (by k_asm) (by k_mem))
  (k_with "assign Tuple" => (k_here; (with_reducible show wpAny _ _ (assign (Expr.Tuple _ _ _) _ (Value.ref _)) _ _ _); k_dflt (refine' kun_list (by k_asm) (by k_asm) (by k_extra "m base") (by exact rfl) (by exact rfl) (by exact rfl) ?_; k_whole); intro _ _ _; (try k_sweep)))
  (k_with "subscriptTail Name Name ref int" => k_extra "m sub")
  (k_with "subscriptTail Name Subscript ref int" => k_extra "m sub")
  (k_with "subscriptTail Name Call ref int" => k_extra "m sub")
  (k_with "subscriptTail Attribute Name ref int" => k_extra "m sub")
  (k_with "m sub" => (k_here; (with_reducible show wpAny _ _ (subscriptTail _ _ (Value.ref _) (Value.int _ _)) _ _ _); first | ((with_reducible show wpAny _ _ (subscriptTail _ _ (Value.ref _) (Value.int (Nat.cast _) _)) _ _ _); first | (k_dflt (refine' sub_pairs (by k_asm) (by with_reducible assumption) (by omega) ?_; k_whole); intro _ _ _ _) | (k_dflt (refine' sub_intsN (by k_asm) (by k_mem) (by k_extra "m ints") (by k_extra "m len") (by k_extra "m len") ?_; k_whole); intro _) | (k_dflt (refine' sub_baseN (by k_asm) (by with_reducible assumption) (by k_extra "m ints") (by k_extra "m len") (by k_extra "m len") ?_; k_whole); intro _)) | (k_dflt (refine' sub_ints (by k_asm) (by k_mem) (by k_extra "m ints") (by omega) (by k_extra "m len") (by k_extra "m len") ?_; k_whole); intro _) | (k_dflt (refine' sub_base (by k_asm) (by with_reducible assumption) (by k_extra "m ints") (by omega) (by k_extra "m len") (by k_extra "m len") ?_; k_whole); intro _)))
  (k_with "call ref" => refine Stop.out ?_)
  (k_with "exec While Compare cons nil" => refine Stop.out ?_)
  (k_with "pyIter ref" => refine Stop.out ?_)
  (k_with "exec For Name Call cons nil" => (k_dflt (refine wpAny_For ?_); (try k_unmd); (try k_fold)))
  (k_with "exec For Tuple Subscript cons nil" => (k_dflt (refine wpAny_For ?_); (try k_unmd); (try k_fold)))
  (k_with "exec For Tuple Name cons nil" => (k_dflt (refine wpAny_For ?_); (try k_unmd); (try k_fold)))
  (k_with "binaryOp RShift int int" => (with_reducible refine rsh6 ?_))
  (k_with "binaryOp LShift int int" => (with_reducible refine lsh6 (by k_dflt omega) ?_))
  (k_with "m ret" => ((try k_unmd); (try k_unfold); refine' Ret.intro [_] (by k_asm) (by k_asm) (fun p hp => by rw [List.mem_singleton.mp hp]; exact List.mem_cons_self) ?_))
  (k_with "binaryOp Mult int int" => ((with_reducible refine mul_int ?_ (by k_dflt (first | exact IntMulOk.of_left (intBits_le_64 (by omega) (by omega)) | exact IntMulOk.of_right (intBits_le_64 (by omega) (by omega)))))))
  (k_with "call builtin:max" => ((with_reducible show wpAny _ _ (call (Value.builtin _) [Value.float _ _, Value.float _ _, Value.float _ _]) _ _ _); k_dflt (refine' float_max3 (by exact rfl) (by k_asm) (by k_asm) ?_; k_whole); intro _ _ _ _ _))
  (k_with "call builtin:min" => ((with_reducible show wpAny _ _ (call (Value.builtin _) [Value.float _ _, Value.float _ _, Value.float _ _]) _ _ _); k_dflt (refine' float_min3 (by exact rfl) (by k_asm) (by k_asm) ?_; k_whole); intro _ _ _ _ _))
  (k_with "call builtin:min" => ((with_reducible show wpAny _ _ (call (Value.builtin _) [Value.float _ _, Value.float _ _]) _ _ _); k_dflt (refine' float_min2 (by exact rfl) (by k_asm) (by k_asm) ?_; k_whole); intro _ _ _ _ _))
  (k_with "binaryOp Div float float" => ((with_reducible refine AutoFloatOps.truediv_1 (by k_dflt (first | assumption | decide | exact Nz.out (by assumption) (by assumption))) ?_); (try dsimp only [Made.post])))
  (k_with "binaryOp Mod float float" => ((with_reducible refine AutoFloatOps.mod_1 (by k_dflt (first | assumption | decide | exact Nz.out (by assumption) (by assumption))) ?_); (try dsimp only [Made.post])))
  (k_with "ite" => first | refine ite_t (by assumption) ?_ | refine ite_f (by assumption) ?_ | refine ite_t (Ng.out (by assumption) (by assumption)) ?_)
  (k_with "eval ListComp" => ((with_reducible refine' ListComp_if (by with_unfolding_all rfl) (by with_unfolding_all rfl) (by k_dflt decide) ?_ (by (intro _; with_unfolding_all rfl))); (try k_unmd); (try k_fold)))
  (k_with "exec Assign cons ListComp" => ((with_reducible refine' Assign_if (by with_unfolding_all rfl) (by with_unfolding_all rfl) (by with_unfolding_all rfl) (by k_dflt decide) ?_ (by (intro _; with_unfolding_all rfl))); (try k_unmd); (try k_fold)))
  (k_with "IfGo" => refine Stop.out ?_)
  (k_with "IfTurn" => refine Stop.out ?_)
  (k_with "IfDone" => refine Stop.out ?_)
  (k_with "ForEnd2" => refine Stop.out ?_)
  (k_with "call builtin:max" => ((with_reducible show wpAny _ _ (call (Value.builtin _) [Value.ref _]) _ _ _); k_dflt (refine' max_list_N (by exact rfl) (by k_asm) (by k_asm) (by k_extra "m base") (by k_extra "m ints") (by (first | assumption | omega | exact ne_dec (by assumption))) ?_; k_whole); intro _ _ _ _ _ _ _ _))
  (k_with "m ledger" => (refine Stop.mk ?_; k_dflt (refine LCg.CompSrc.ledger (by rfl) (by k_asm) (by k_asm) (by k_mem) (by size_fits) ?_); intro _))
  (k_with "getMethod ref" => ((with_reducible show wpAny _ _ (getMethod (Value.ref _) (Str.ofString "sub") _) _ _ _); refine Stop.out ?_))
  (k_with "m tl" => first | assumption | (refine' List.Mem.tail _ ?_; k_extra "m tl") | exact (by assumption : ∀ q : Addr × Obj, q ∈ (_ : List (Addr × Obj)) → q ∈ (_ : List (Addr × Obj))) _ (by assumption))
  (k_with "m inc" => first | exact List.forall_mem_nil _ | (refine' List.forall_mem_cons.mpr ⟨(by k_mem), (by k_extra "m inc")⟩) | (intro _ _; k_extra "m tl"))
  trivial
def roomOf (n : Int) : Int := if n = 52 then 3 else if n = 23 then 1 else 0
set_option maxRecDepth 100000 in
set_option maxHeartbeats 4000000 in
theorem term_c {w : World} {p : Program} {loose : List Str} {mean : ExcName → Option Value} {mg mb : Str → Option Value} {fr : Option (List Env)} {gd : Option (List Code)} {s : Shared}
  (X : (Mine.KK w.params).In s.heap) (T : Top p loose mean mg mb s.heap)
  (x : Int) (t : Tok) :
  codeAny (model PySem.Challenge.rw_tl0015_01.row.prog w) (Ac 2 fr gd) (.call (.ref 79) ⟨[.int x t], []⟩) (Ret s fun v own => v = .bool (decide (x < 256)) ∧ own = []) s := by
  revert X; k_fill; intro X
  k_extra "m enter"
  k_steps
  (try k_unmd); (try k_unfold)
  exact Ret.intro [] (by k_asm) (by k_asm) (fun _ h => nomatch h) ⟨rfl, rfl⟩
def endOf (n : Int) : Int := if n < 256 then n - 7 else 4
def toks (x : Str) : List Int := tokF x.length x 0
def roadRoom (x : Str) : Int := ((List.range (toks x).length).map fun j => roomOf ((toks x).getD j 0)).sum
def lastTwo (x : Str) : List Int := (toks x).drop ((toks x).length - 2)
def roadEnds (x : Str) : List Int := (List.range (lastTwo x).length).map fun j => endOf ((lastTwo x).getD j 0)
set_option maxRecDepth 100000 in
set_option maxHeartbeats 4000000 in
theorem road_c {w : World} {p : Program} {loose : List Str} {mean : ExcName → Option Value} {mg mb : Str → Option Value} {fr : Option (List Env)} {gd : Option (List Code)} {s : Shared}
  (X : (Mine.KK w.params).In s.heap) (T : Top p loose mean mg mb s.heap)
  (x : Str) (t : Tok) (hx : x.length ≤ 20) :
  codeAny (model PySem.Challenge.rw_tl0015_01.row.prog w) (Ac 1 fr gd) (.call (.ref 94) ⟨[.str x t], []⟩) (Ret s fun v own => ∃ q le n1 n2 u vals, v = .ref q ∧ own = [(q, ({ cls := .type "tuple", data := .seq #[.int (roadRoom x) u, .ref le] n1 } : Obj)), (le, W.listOf (vals : List Value).toArray n2)] ∧ IntsAre vals (roadEnds x)) s := by
  revert X; k_fill; intro X
  k_extra "m enter"
  k_steps
  refine Stop.mk (call_by (by k_asm) (by k_asm) (tok_c (X.keeps (Fr.keep (by k_asm))) (T.keeps (Fr.keep (by k_asm))) x _ hx) ?_)
  rintro v own h' tk ⟨r, n, vals, rfl, rfl, hv⟩ F N hk hf
  dsimp only [List.cons_append, List.nil_append] at N
  (try k_unmd); (try k_fold)
  k_steps
  have hvl : vals.length ≤ 20 := by rw [hv.length]; exact Nat.le_trans (tokF_len _ _ _) hx
  k_extra "m ledger"
  refine comp_ints (its := vals.toArray) hv (fun i ys => IntsAre ys ((List.range i).map fun j => roomOf ((tokF x.length x 0).getD j 0))) .nil ?_ ?_
  · intro i ys t I oI C oC D m₂ h tk E' hi hj hC hx F N off ne
    dsimp only [LCg.Off3] at off
    (try k_unmd); (try k_fold)
    k_steps
    all_goals k_extra "m end"
    all_goals rw [List.range_succ, List.map_append]
    all_goals refine IntsAre.append hj ?_
    · rename _ = (52 : Int) => e
      have : roomOf ((tokF x.length x 0).getD i 0) = 3 := by unfold roomOf; rw [if_pos e]
      rw [List.map_singleton, this]
      exact .cons _ _ .nil
    · rename _ = (23 : Int) => e
      rename ¬ _ = (52 : Int) => e1
      have : roomOf ((tokF x.length x 0).getD i 0) = 1 := by unfold roomOf; rw [if_neg e1, if_pos e]
      rw [List.map_singleton, this]
      exact .cons _ _ .nil
    · rename ¬ _ = (23 : Int) => e
      rename ¬ _ = (52 : Int) => e1
      have : roomOf ((tokF x.length x 0).getD i 0) = 0 := by unfold roomOf; rw [if_neg e1, if_neg e]
      rw [List.map_singleton, this]
      exact .cons _ _ .nil
  · intro ys hj
    unfold LCg.FinE
    intro D h tk F N o1
    have hyl : ys.length ≤ 20 := by rw [hj.length, List.length_map, List.length_range]; exact hvl
    k_steps
    rename_i ws' _ _ _ _ _ _ _
    rename IntsAre _ (List.drop _ _) => hw

    have htl : (tokF x.length x 0).length ≤ 20 := Nat.le_trans (tokF_len _ _ _) hx
    have hwl := hw.length
    rw [List.length_drop] at hwl
    k_extra "m ledger"
    refine comp_ints hw (fun i ys => IntsAre ys ((List.range i).map fun j => endOf (((tokF x.length x 0).drop ((tokF x.length x 0).length - 2)).getD j 0))) .nil ?_ ?_
    · intro i ys t I oI C oC D m₂ h tk E' hi hj hC hx F N off ne
      dsimp only [LCg.Off3] at off
      (try k_unmd); (try k_fold)
      k_steps
      refine Stop.mk (call_by (by k_asm) (by k_asm) (term_c (X.keeps (Fr.keep (by k_asm))) (T.keeps (Fr.keep (by k_asm))) _ _) ?_)
      rintro v own h' tk ⟨rfl, rfl⟩ F N hk hf
      dsimp only [List.cons_append, List.nil_append] at N
      (try k_unmd); (try k_fold)
      k_steps
      all_goals k_extra "m end"
      all_goals rw [List.range_succ, List.map_append]
      all_goals refine IntsAre.append hj ?_
      · rename (_ : Int) < 256 => e
        rw [List.map_singleton, endOf, if_pos e]
        exact .cons _ _ .nil
      · rename ¬ (_ : Int) < 256 => e
        rw [List.map_singleton, endOf, if_neg e]
        exact .cons _ _ .nil
    · intro ys2 hj2
      unfold LCg.FinE
      intro D2 h2 tk2 F2 N2 o2
      k_steps
      (try k_unmd); (try k_unfold)
      have hsz : vals.toArray.size = (tokF x.length x 0).length := by rw [List.size_toArray, hv.length]
      have hj3 : IntsAre ys2 (roadEnds x) := by
        have e : ws'.toArray.size = (lastTwo x).length := by rw [List.size_toArray, hw.length]; rfl
        rw [e] at hj2
        exact hj2
      rename News _ _ _ _ => N9
      rw [hsz] at N9
      exact Ret.intro [_, _] (by k_asm) N9 (fun p hp => by
        rcases List.mem_cons.mp hp with rfl | hp
        · exact .head _
        · rw [List.mem_singleton.mp hp]; exact .tail _ (.head _)) ⟨_, D2, _, _, _, ys2, rfl, rfl, hj3⟩
end
end
section
open PySem PySem.W PyProof.Rows PySem.Spec PySem.Calls
section
def nameAt (k : Nat) : List Nat := ([[40, 91], [91, 41], [41, 93], [93, 40], [40, 104], [41, 104], [91, 104], [93, 104]] : List (List Nat)).getD k []
def roomAt (d : Nat) : Nat := ([0, 2, 3, 4] : List Nat).getD (d % 4) 0
def rowAt (d k : Nat) : Str := ⟨(List.replicate (roomAt d) 46 ++ nameAt k).toArray⟩
set_option maxRecDepth 100000 in
theorem rows_ok : ∀ d, d < 4 → ∀ k, k < 8 → roadRoom (rowAt d k) = (roomAt d : Int) ∧ roadEnds (rowAt d k) = [PA k, PB k] := by decide +kernel
end
end
section
open PySem PySem.W PyProof.Rows PySem.Spec PySem.Calls
section
set_option maxRecDepth 100000 in
set_option maxHeartbeats 4000000 in
theorem div2_c {w : World} {p : Program} {loose : List Str} {mean : ExcName → Option Value} {mg mb : Str → Option Value} {fr : Option (List Env)} {gd : Option (List Code)} {s : Shared}
  (X : (Mine.KK w.params).In s.heap) (T : Top p loose mean mg mb s.heap)
  (x : Int) (t1 t2 t3 : Tok) (hx0 : 0 ≤ x) (hx1 : x < 4096) :
  codeAny (model PySem.Challenge.rw_tl0015_01.row.prog w) (Ac 3 fr gd) (.call (.ref 38) ⟨[.int x t1, .int 63 t2, .int 6 t3], []⟩) (Ret s fun v own => ∃ r n u1 u2, v = .ref r ∧ own = [(r, ({ cls := .type "tuple", data := .seq #[.int (x.fdiv 63) u1, .int (x.fmod 63) u2] n } : Obj))]) s := by
  revert X; k_fill; intro X
  have hb : Builtin.Int.intBits x ≤ 64 := intBits_le_64 (by omega) (by omega)
  k_extra "m enter"
  k_steps
  exact Ret.intro [_] (by assumption) (by assumption) (by intro p hp; rw [List.mem_singleton.mp hp]; exact List.mem_cons_self) ⟨_, _, _, _, rfl, rfl⟩

set_option maxRecDepth 100000 in
set_option maxHeartbeats 4000000 in
theorem div3_c {w : World} {p : Program} {loose : List Str} {mean : ExcName → Option Value} {mg mb : Str → Option Value} {fr : Option (List Env)} {gd : Option (List Code)} {s : Shared}
  (X : (Mine.KK w.params).In s.heap) (T : Top p loose mean mg mb s.heap)
  (x y f : Int) (t1 t2 t3 t4 t5 t6 : Tok) (hf0 : 0 ≤ f) (hf1 : f ≤ 12) (hy0 : 0 ≤ y) (hy1 : y < 64) (hxy : 64 * x + y = 8190 * f) :
  codeAny (model PySem.Challenge.rw_tl0015_01.row.prog w) (Ac 2 fr gd) (.call (.ref 45) ⟨[.int x t1, .int y t2, .int 4095 t3, .int 63 t4, .int 63 t5, .int 6 t6], []⟩) (Ret s fun v own => ∃ r n u1 u2, v = .ref r ∧ own = [(r, ({ cls := .type "tuple", data := .seq #[.int (2 * f) u1, .int 0 u2] n } : Obj))]) s := by
  revert X; k_fill; intro X
  have hx0 : 0 ≤ x := by omega
  have hx1 : x < 1537 := by omega
  have hx2 : x / 64 < 25 := by omega
  have h3 : 0 ≤ x.fmod 63 := by rw [sixty_fmod]; omega
  have h4 : x.fmod 63 < 63 := by rw [sixty_fmod]; omega
  k_extra "m enter"
  k_steps
  · exfalso; omega
  refine Stop.mk (call_by (by k_asm) (by k_asm) (div2_c (X.keeps (Fr.keep (by k_asm))) (T.keeps (Fr.keep (by k_asm))) x _ _ _ (by omega) (by omega)) ?_)
  rintro v own h' tk ⟨r, n, u1, u2, rfl, rfl⟩ F N hk hf
  dsimp only [List.cons_append, List.nil_append] at N
  (try k_unmd); (try k_fold)
  k_steps
  rename Fr _ _ _ _ => F9
  rename News _ _ _ _ => N9
  refine Stop.mk (while_fr (σ := Int × Int × Tok × Tok × Tok) (fun c m₀ z => if z = Str.ofString "q" then some (.int c.1 c.2.2.1) else if z = Str.ofString "r" then some (.int c.2.1 c.2.2.2.1) else if z = Str.ofString "b" then some (.int 4095 c.2.2.2.2) else m₀ z)
    (fun _ => []) (fun c => c.2.1 = 8190 * f - 4095 * c.1 ∧ 2 * f ≤ c.1) (fun c => (c.1 - 2 * f).toNat) (_, _, _, _, _) _ (fr_name (fr_name (fr_name F9 rfl) rfl) rfl) N9 (fun _ h => nomatch h) ?_ ?_)
  · show Builtin.bitOr (x.fmod 63 * 64) y - x.fdiv 63 * 63 = 8190 * f - 4095 * x.fdiv 63 ∧ 2 * f ≤ x.fdiv 63
    rw [bitOr_low h3 hy0 hy1, sixty_fdiv, sixty_fmod]
    omega
  · rintro ⟨q, r', tq, tr, tb⟩ m₁ h tk E' ⟨hP1, hP2⟩ F N
    dsimp only at hP1 hP2 F
    (try k_unmd); (try k_fold)
    k_steps
    · have hlt' : r' < 0 := by omega
      rename Fr _ _ _ _ => F8
      exact TurnEnd.intro (q - 1, r' + 4095, _, _, _) _ (fr_name (fr_name (fr_name F8 rfl) rfl) rfl) (by k_asm) (fun _ h => nomatch h) (fun _ h => nomatch h) ⟨⟨by show r' + 4095 = _ - 4095 * (q - 1); omega, by show 2 * f ≤ q - 1; omega⟩, by show (q - 1 - 2 * f).toNat < (q - 2 * f).toNat; omega⟩
    · have hq : q = 2 * f := by omega
      have hr : r' = 0 := by omega
      subst hq hr
      k_unmd
      k_unfold
      exact Ret.intro [_] (by k_asm) (by k_asm) (by intro p hp; rw [List.mem_singleton.mp hp]; exact List.mem_cons_self) ⟨_, _, _, _, rfl, rfl⟩
end
end
section
open PySem PySem.W PyProof.Rows PySem.Spec PySem.Calls
section
local macro_rules | `(tactic| walk_at "m pad0") => `(tactic| skip)
set_option maxRecDepth 100000 in
set_option maxHeartbeats 4000000 in
theorem div_c {w : World} {p : Program} {loose : List Str} {mean : ExcName → Option Value} {mg mb : Str → Option Value} {fr : Option (List Env)} {gd : Option (List Code)} {s : Shared}
  (X : (Mine.KK w.params).In s.heap) (T : Top p loose mean mg mb s.heap)
  (l1 l2 l3 : Addr) (vs pls : List Value) (hs pl : List Int) (hl : s.heap.IsList l1 vs.toArray) (hi : IntsAre vs hs) (hn : hs.length = 8) (hp : PairsAt s.heap l2) (hl3 : s.heap.IsList l3 pls.toArray) (hi3 : IntsAre pls pl) (hn3 : pl.length = 5)
  (hb3 : ∀ k, k < 5 → 0 ≤ pl.getD k 0 ∧ pl.getD k 0 ≤ 4) (hh : ∀ k, k < 8 → -100 ≤ hs.getD k 0 ∧ hs.getD k 0 ≤ 100) (f : Int) (hf0 : 0 ≤ f) (hf1 : f ≤ 12)
  (hsum : ((List.range 8).map fun k => hs.getD k 0 * (4096 ^ (pl.getD (PB k).toNat 0).toNat - 4096 ^ (pl.getD (PA k).toNat 0).toNat)).sum = 8190 * f) :
  codeAny (model PySem.Challenge.rw_tl0015_01.row.prog w) (Ac 1 fr gd) (.call (.ref 123) ⟨[.ref l1, .ref l2, .ref l3], []⟩)
    (Ret s fun v own => ∃ r n u1 u2, v = .ref r ∧ own = [(r, ({ cls := .type "tuple", data := .seq #[.int (2 * f) u1, .int 0 u2] n } : Obj))]) s := by
  revert X; k_fill; intro X
  k_extra "m enterC"
  k_steps
  k_extra "m range"
  refine comp_range0 (n := 8) (fun i ys => IntsAre ys ((List.range i).map fun k => hs.getD k 0 * (4096 ^ (pl.getD (PB k).toNat 0).toNat - 4096 ^ (pl.getD (PA k).toNat 0).toNat))) .nil ?_ ?_
  · intro i ys t I oI C oC D m₂ h tk E' hi hj hC hx F N off ne
    dsimp only [LCg.Off3] at off
    have hA := PA_lo i hi
    have hB := PB_lo i hi
    have hA3 := hb3 (PA i).toNat (by omega)
    have hB3 := hb3 (PB i).toNat (by omega)
    have hhi := hh i hi
    (try k_unmd); (try k_fold)
    k_steps
    k_extra "m end"
    rw [List.range_succ, List.map_append]
    exact IntsAre.append hj (.cons _ _ .nil)
  · intro ys hj
    unfold LCg.FinE
    intro D h tk F N o1
    k_steps
    rw [hsum]
    refine Stop.mk (call_by (by k_asm) (by k_asm) (div3_c (X.keeps (Fr.keep (by k_asm))) (T.keeps (Fr.keep (by k_asm))) _ _ f _ _ _ _ _ _ hf0 hf1 ?_ ?_ ?_) ?_)
    · rw [bitAnd_m6]; omega
    · rw [bitAnd_m6]; omega
    · rw [bitAnd_m6]; omega
    · rintro v own h' tk' ⟨r, n, u1, u2, rfl, rfl⟩ F N hk hf
      dsimp only [List.cons_append, List.nil_append] at N
      k_steps
      k_extra "m ret"
      exact ⟨_, _, _, _, rfl, rfl⟩
end
end
section
open PySem PySem.W PyProof.Rows PySem.Spec PySem.Calls
section
section
variable {prog : Program} {w : World} {A : Around} {E : Value → Shared → Prop} {s : Shared} {h₀ : Heap} {L : Addr} {m : Str → Option Value} {news : List (Addr × Obj)}
theorem cmp_fgt {P : Nat → Value → Prop} (val : Nat → UInt64) (hval : ∀ i v, P i v → ∃ t, v = .float (val i) t) : CmpOf prog w A .Gt P (fun i j => Float64.cmp (val i) (val j) == some Ordering.gt) := by
  intro i j vi vj s Q E hi hj h
  obtain ⟨t, rfl⟩ := hval i vi hi
  obtain ⟨u, rfl⟩ := hval j vj hj
  have := AutoFloatOps.gt_0 (prog := prog) (w := w) (A := A) (E := E) (s := s) (t := t) (u := u) (Q := Q) h
  exact this
theorem cmp_flt {P : Nat → Value → Prop} (val : Nat → UInt64) (hval : ∀ i v, P i v → ∃ t, v = .float (val i) t) : CmpOf prog w A .Lt P (fun i j => Float64.cmp (val i) (val j) == some Ordering.lt) := by
  intro i j vi vj s Q E hi hj h
  obtain ⟨t, rfl⟩ := hval i vi hi
  obtain ⟨u, rfl⟩ := hval j vj hj
  have := AutoFloatOps.lt_0 (prog := prog) (w := w) (A := A) (E := E) (s := s) (t := t) (u := u) (Q := Q) h
  exact this

theorem tup_facts (h : Heap) (xs : Array Value) : (h.push { cls := .type "tuple", data := .seq xs }).IsTuple h.objs.size xs := ⟨_, Heap.get?_push_size _ rfl, rfl, 0, rfl⟩

theorem keep_two {h h' : Heap} {o₁ o₂ : Obj} {I : Addr} (hI : I = (h.push o₁).objs.size) (hk : ∀ b o, b ∉ [I] → ((h.push o₁).push o₂).get? b = some o → h'.get? b = some o) : ∀ b o, h.get? b = some o → h'.get? b = some o := fun b o e => by
  refine hk b o (fun hm => ?_) (Heap.get?_push_of_some _ (Heap.get?_push_of_some _ e))
  have := Heap.lt_size e
  rw [List.mem_singleton.mp hm, hI, Heap.size_push] at this
  exact Nat.lt_irrefl _ (Nat.lt_of_succ_lt this)

theorem below_two {h : Heap} {o₁ o₂ : Obj} : ∀ b ∈ [(h.push o₁).objs.size, h.objs.size], b < ((h.push o₁).push o₂).objs.size := by
  intro b hb
  rw [Heap.size_push, Heap.size_push]
  rcases List.mem_cons.mp hb with rfl | hb
  · rw [Heap.size_push]; omega
  · rw [List.mem_singleton.mp hb]; omega

theorem max_items3 {a b c : Value} (bt : Nat → Nat → Bool) {Q : Value → Shared → Prop} (hh : A.handled = none) (F : Fr h₀ L s.heap m) (N : News h₀ L s.heap news)
    (hc : CmpOf prog w A.in1 .Gt (fun i v => (#[a, b, c] : Array Value)[i]? = some v) bt)
    (h : ∀ v h' tk, (#[a, b, c] : Array Value)[argBest bt 2]? = some v → Fr h₀ L h' m → News h₀ L h' news → Q v { s with heap := h', toks := tk }) :
    wpAny (model prog w) A (call (.builtin "max") [a, b, c]) Q E s := by
  refine call_max_three (wpAny_pyIter_tuple (tup_facts s.heap #[a, b, c]) ?_)
  have hne : s.heap.objs.size ≠ (s.heap.push { cls := .type "tuple", data := .seq #[a, b, c] }).objs.size := by rw [Heap.size_push]; omega
  refine ⟨_, [_, s.heap.objs.size], [_], _, _, _, bt, rfl, Walks.tuple (A := A.in1) hh _ s.heap.objs.size hne #[a, b, c], ⟨⟨_, Heap.get?_push_size _ rfl, rfl, rfl⟩, (tup_facts s.heap #[a, b, c]).push _⟩, below_two, by simp, hc, fun v h' tk hP hk => ?_⟩
  have k := keep_two rfl hk
  exact h v h' tk hP (F.keeps k) fun p hp => ⟨k _ _ (N p hp).1, (N p hp).2⟩
theorem min_items3 {a b c : Value} (bt : Nat → Nat → Bool) {Q : Value → Shared → Prop} (hh : A.handled = none) (F : Fr h₀ L s.heap m) (N : News h₀ L s.heap news)
    (hc : CmpOf prog w A.in1 .Lt (fun i v => (#[a, b, c] : Array Value)[i]? = some v) bt)
    (h : ∀ v h' tk, (#[a, b, c] : Array Value)[argBest bt 2]? = some v → Fr h₀ L h' m → News h₀ L h' news → Q v { s with heap := h', toks := tk }) :
    wpAny (model prog w) A (call (.builtin "min") [a, b, c]) Q E s := by
  refine call_min_three (wpAny_pyIter_tuple (tup_facts s.heap #[a, b, c]) ?_)
  have hne : s.heap.objs.size ≠ (s.heap.push { cls := .type "tuple", data := .seq #[a, b, c] }).objs.size := by rw [Heap.size_push]; omega
  refine ⟨_, [_, s.heap.objs.size], [_], _, _, _, bt, rfl, Walks.tuple (A := A.in1) hh _ s.heap.objs.size hne #[a, b, c], ⟨⟨_, Heap.get?_push_size _ rfl, rfl, rfl⟩, (tup_facts s.heap #[a, b, c]).push _⟩, below_two, by simp, hc, fun v h' tk hP hk => ?_⟩
  have k := keep_two rfl hk
  exact h v h' tk hP (F.keeps k) fun p hp => ⟨k _ _ (N p hp).1, (N p hp).2⟩
theorem min_items2 {a b : Value} (bt : Nat → Nat → Bool) {Q : Value → Shared → Prop} (hh : A.handled = none) (F : Fr h₀ L s.heap m) (N : News h₀ L s.heap news)
    (hc : CmpOf prog w A.in1 .Lt (fun i v => (#[a, b] : Array Value)[i]? = some v) bt)
    (h : ∀ v h' tk, (#[a, b] : Array Value)[argBest bt 1]? = some v → Fr h₀ L h' m → News h₀ L h' news → Q v { s with heap := h', toks := tk }) :
    wpAny (model prog w) A (call (.builtin "min") [a, b]) Q E s := by
  refine call_min_two (wpAny_pyIter_tuple (tup_facts s.heap #[a, b]) ?_)
  have hne : s.heap.objs.size ≠ (s.heap.push { cls := .type "tuple", data := .seq #[a, b] }).objs.size := by rw [Heap.size_push]; omega
  refine ⟨_, [_, s.heap.objs.size], [_], _, _, _, bt, rfl, Walks.tuple (A := A.in1) hh _ s.heap.objs.size hne #[a, b], ⟨⟨_, Heap.get?_push_size _ rfl, rfl, rfl⟩, (tup_facts s.heap #[a, b]).push _⟩, below_two, by simp, hc, fun v h' tk hP hk => ?_⟩
  have k := keep_two rfl hk
  exact h v h' tk hP (F.keeps k) fun p hp => ⟨k _ _ (N p hp).1, (N p hp).2⟩

def fgt (a b : UInt64) : Bool := Float64.cmp a b == some Ordering.gt
def flt (a b : UInt64) : Bool := Float64.cmp a b == some Ordering.lt
def fmax3 (a b c : UInt64) : UInt64 := if fgt b a then (if fgt c b then c else b) else (if fgt c a then c else a)
def fmin3 (a b c : UInt64) : UInt64 := if flt b a then (if flt c b then c else b) else (if flt c a then c else a)
def fmin2 (a b : UInt64) : UInt64 := if flt b a then b else a
def fAt (xs : List UInt64) (i : Nat) : UInt64 := xs.getD i 0

theorem float_max3 {a b c : UInt64} {t u x : Tok} {Q : Value → Shared → Prop} (hh : A.handled = none) (F : Fr h₀ L s.heap m) (N : News h₀ L s.heap news)
    (h : ∀ t h' tk, Fr h₀ L h' m → News h₀ L h' news → Q (.float (fmax3 a b c) t) { s with heap := h', toks := tk }) :
    wpAny (model prog w) A (call (.builtin "max") [.float a t, .float b u, .float c x]) Q E s := by
  refine max_items3 (fun i j => fgt (fAt [a, b, c] i) (fAt [a, b, c] j)) hh F N (cmp_fgt (fAt [a, b, c]) ?_) ?_
  · intro i v hv
    match i, hv with
    | 0, hv => exact ⟨t, by simpa [fAt] using hv.symm⟩
    | 1, hv => exact ⟨u, by simpa [fAt] using hv.symm⟩
    | 2, hv => exact ⟨x, by simpa [fAt] using hv.symm⟩
    | n + 3, hv => simp at hv
  · intro v h' tk hv F' N'
    have : ∃ t', v = .float (fmax3 a b c) t' := by
      unfold fmax3
      by_cases h1 : fgt b a = true <;> by_cases h2 : fgt c b = true <;> by_cases h3 : fgt c a = true <;> simp [argBest, fAt, h1, h2, h3] at hv ⊢ <;> exact ⟨_, hv.symm⟩
    obtain ⟨t', rfl⟩ := this
    exact h t' h' tk F' N'
theorem float_min3 {a b c : UInt64} {t u x : Tok} {Q : Value → Shared → Prop} (hh : A.handled = none) (F : Fr h₀ L s.heap m) (N : News h₀ L s.heap news)
    (h : ∀ t h' tk, Fr h₀ L h' m → News h₀ L h' news → Q (.float (fmin3 a b c) t) { s with heap := h', toks := tk }) :
    wpAny (model prog w) A (call (.builtin "min") [.float a t, .float b u, .float c x]) Q E s := by
  refine min_items3 (fun i j => flt (fAt [a, b, c] i) (fAt [a, b, c] j)) hh F N (cmp_flt (fAt [a, b, c]) ?_) ?_
  · intro i v hv
    match i, hv with
    | 0, hv => exact ⟨t, by simpa [fAt] using hv.symm⟩
    | 1, hv => exact ⟨u, by simpa [fAt] using hv.symm⟩
    | 2, hv => exact ⟨x, by simpa [fAt] using hv.symm⟩
    | n + 3, hv => simp at hv
  · intro v h' tk hv F' N'
    have : ∃ t', v = .float (fmin3 a b c) t' := by
      unfold fmin3
      by_cases h1 : flt b a = true <;> by_cases h2 : flt c b = true <;> by_cases h3 : flt c a = true <;> simp [argBest, fAt, h1, h2, h3] at hv ⊢ <;> exact ⟨_, hv.symm⟩
    obtain ⟨t', rfl⟩ := this
    exact h t' h' tk F' N'
theorem float_min2 {a b : UInt64} {t u : Tok} {Q : Value → Shared → Prop} (hh : A.handled = none) (F : Fr h₀ L s.heap m) (N : News h₀ L s.heap news)
    (h : ∀ t h' tk, Fr h₀ L h' m → News h₀ L h' news → Q (.float (fmin2 a b) t) { s with heap := h', toks := tk }) :
    wpAny (model prog w) A (call (.builtin "min") [.float a t, .float b u]) Q E s := by
  refine min_items2 (fun i j => flt (fAt [a, b] i) (fAt [a, b] j)) hh F N (cmp_flt (fAt [a, b]) ?_) ?_
  · intro i v hv
    match i, hv with
    | 0, hv => exact ⟨t, by simpa [fAt] using hv.symm⟩
    | 1, hv => exact ⟨u, by simpa [fAt] using hv.symm⟩
    | n + 2, hv => simp at hv
  · intro v h' tk hv F' N'
    have : ∃ t', v = .float (fmin2 a b) t' := by
      unfold fmin2
      by_cases h1 : flt b a = true <;> simp [argBest, fAt, h1] at hv ⊢ <;> exact ⟨_, hv.symm⟩
    obtain ⟨t', rfl⟩ := this
    exact h t' h' tk F' N'
end
end
section
def Nz (c : Bool) (z : UInt64) : Prop := c = false → ¬ Float64.isZero z = true
theorem Nz.out {c : Bool} {z : UInt64} (h : Nz c z) (hc : c = false) : ¬ Float64.isZero z = true := h hc
def Ng (c d : Bool) : Prop := c = false → d = true
theorem ite_t {b : Bool} {P Q : Prop} (h : b = true) (hp : P) : if b = true then P else Q := by rw [if_pos h]; exact hp
theorem ite_f {b : Bool} {P Q : Prop} (h : b = false) (hp : Q) : if b = true then P else Q := by rw [if_neg (by rw [h]; decide)]; exact hp
theorem Ng.out {c d : Bool} (h : Ng c d) (hc : c = false) : d = true := h hc
theorem Ng.no {c d : Bool} (h : Ng c d) (hc : c = false) (hd : d = false) : False := by rw [h hc] at hd; cases hd
def hlsL (x y : UInt64) : UInt64 := Float64.div (Float64.add (fmax3 x y y) (fmin3 x y y)) 4611686018427387904
def hlsEq (x y : UInt64) : Bool := Float64.cmp (fmin3 x y y) (fmax3 x y y) == some Ordering.eq
def hlsLow (x y : UInt64) : Bool := Float64.cmp (hlsL x y) 4602678819172646912 == some Ordering.lt || Float64.cmp (hlsL x y) 4602678819172646912 == some Ordering.eq
def hlsRed (x y : UInt64) : Bool := Float64.cmp x (fmax3 x y y) == some Ordering.eq
def hlsR (x y : UInt64) : UInt64 := Float64.sub (fmax3 x y y) (fmin3 x y y)
def hlsS (x y : UInt64) : UInt64 := if hlsLow x y = true then Float64.div (hlsR x y) (Float64.add (fmax3 x y y) (fmin3 x y y)) else Float64.div (hlsR x y) (Float64.sub (Float64.sub 4611686018427387904 (fmax3 x y y)) (fmin3 x y y))
def hlsC (z x y : UInt64) : UInt64 := Float64.div (Float64.sub (fmax3 x y y) z) (hlsR x y)
def hlsH (x y : UInt64) : UInt64 := (Float64.divmod (Float64.div (if hlsRed x y = true then Float64.sub (hlsC y x y) (hlsC y x y) else Float64.sub (Float64.add 4611686018427387904 (hlsC x x y)) (hlsC y x y)) 4618441417868443648) 4607182418800017408).snd
def hlsF (x y : UInt64) : UInt64 × UInt64 × UInt64 := if hlsEq x y = true then (0, hlsL x y, 0) else (hlsH x y, hlsL x y, hlsS x y)
end
section
def fTup (a b c : UInt64) (n : Nat) (u1 u2 u3 : Tok) : Obj := { cls := .type "tuple", data := .seq #[.float a u1, .float b u2, .float c u3] n }
theorem ret_tup3 {D : Addr} {n : Nat} {u1 u2 u3 : Tok} {F : UInt64 × UInt64 × UInt64} {a b c : UInt64} (e : F = (a, b, c)) :
    ∃ r n' v1 v2 v3, Value.ref D = .ref r ∧ [(D, ({ cls := .type "tuple", data := .seq #[.float a u1, .float b u2, .float c u3] n } : Obj))] = [(r, fTup F.1 F.2.1 F.2.2 n' v1 v2 v3)] := by
  subst e; exact ⟨_, _, _, _, _, rfl, rfl⟩
section
variable {x y : UInt64}
def hHt (x y : UInt64) : UInt64 := (Float64.divmod (Float64.div (Float64.sub (hlsC y x y) (hlsC y x y)) 4618441417868443648) 4607182418800017408).snd
def hHf (x y : UInt64) : UInt64 := (Float64.divmod (Float64.div (Float64.sub (Float64.add 4611686018427387904 (hlsC x x y)) (hlsC y x y)) 4618441417868443648) 4607182418800017408).snd
def hSt (x y : UInt64) : UInt64 := Float64.div (hlsR x y) (Float64.add (fmax3 x y y) (fmin3 x y y))
def hSf (x y : UInt64) : UInt64 := Float64.div (hlsR x y) (Float64.sub (Float64.sub 4611686018427387904 (fmax3 x y y)) (fmin3 x y y))
theorem hls_e (h1 : hlsEq x y = true) : hlsF x y = (0, hlsL x y, 0) := by unfold hlsF; rw [if_pos h1]
theorem hls_tt (h1 : hlsEq x y = false) (h2 : hlsLow x y = true) (h3 : hlsRed x y = true) : hlsF x y = (hHt x y, hlsL x y, hSt x y) := by
  simp [hlsF, hlsH, hlsS, h1, h2, h3, hHt, hSt]
theorem hls_tf (h1 : hlsEq x y = false) (h2 : hlsLow x y = true) (h3 : hlsRed x y = false) : hlsF x y = (hHf x y, hlsL x y, hSt x y) := by
  simp [hlsF, hlsH, hlsS, h1, h2, h3, hHf, hSt]
theorem hls_ft (h1 : hlsEq x y = false) (h2 : hlsLow x y = false) (h3 : hlsRed x y = true) : hlsF x y = (hHt x y, hlsL x y, hSf x y) := by
  simp [hlsF, hlsH, hlsS, h1, h2, h3, hHt, hSf]
theorem hls_ff (h1 : hlsEq x y = false) (h2 : hlsLow x y = false) (h3 : hlsRed x y = false) : hlsF x y = (hHf x y, hlsL x y, hSf x y) := by
  simp [hlsF, hlsH, hlsS, h1, h2, h3, hHf, hSf]
end
end
section
def gQ (n : Int) : UInt64 := Float64.ofFrac (decide (n + 8 < 0) != decide ((16 : Int) < 0)) (n + 8).natAbs (Int.natAbs 16)
def gS (a b : Int) : UInt64 := Float64.add (Float64.mul (Float64.mul (Float64.ofInt 16) (hlsF (gQ a) (gQ b)).2.2) (fmin2 (Float64.mul (Float64.ofInt 2) (hlsF (gQ a) (gQ b)).2.1) (Float64.sub (Float64.ofInt 2) (Float64.mul (Float64.ofInt 2) (hlsF (gQ a) (gQ b)).2.1)))) 4602678819172646912
def gL (a b : Int) : UInt64 := Float64.mul (Float64.ofInt 32) (hlsF (gQ a) (gQ b)).2.1
def gBlue (a b : Int) : Bool := Float64.cmp (hlsF (gQ a) (gQ b)).1 4598175219545276416 == some Ordering.lt
def gOk (a b : Int) : Bool :=
  !Float64.isZero (Float64.add (fmax3 (gQ a) (gQ b) (gQ b)) (fmin3 (gQ a) (gQ b) (gQ b))) && (hlsEq (gQ a) (gQ b) || !Float64.isZero (hlsR (gQ a) (gQ b))) &&
  !Float64.isZero (Float64.sub (Float64.sub 4611686018427387904 (fmax3 (gQ a) (gQ b) (gQ b))) (fmin3 (gQ a) (gQ b) (gQ b))) && (hlsRed (gQ a) (gQ b) || Float64.cmp (gQ b) (fmax3 (gQ a) (gQ b) (gQ b)) == some Ordering.eq) &&
  !Float64.isNaN (gS a b) && !Float64.isInf (gS a b) && !Float64.isNaN (gL a b) && !Float64.isInf (gL a b) &&
  decide (Flt.toInt Float64.truncOf (gL a b) - 16 = a + b) && (if gBlue a b then decide (Flt.toInt Float64.truncOf (gS a b) = a - b) else decide (-(Flt.toInt Float64.truncOf (gS a b)) = a - b))
theorem gAll : (List.range 9).all (fun i => (List.range 9).all fun j => gOk ((i : Int) - 4) ((j : Int) - 4)) = true := by decide +kernel
theorem gOk_of {a b : Int} (h1 : -4 ≤ a) (h2 : a ≤ 4) (h3 : -4 ≤ b) (h4 : b ≤ 4) : gOk a b = true := by
  have h := List.all_eq_true.mp (List.all_eq_true.mp gAll (a + 4).toNat (List.mem_range.mpr (by omega))) (b + 4).toNat (List.mem_range.mpr (by omega))
  have e1 : (((a + 4).toNat : Nat) : Int) - 4 = a := by omega
  have e2 : (((b + 4).toNat : Nat) : Int) - 4 = b := by omega
  rw [e1, e2] at h
  exact h
end
section
theorem ret_tup2 {D : Addr} {n : Nat} {u1 u2 : Tok} {a b x y : Int} (e1 : a = x) (e2 : b = y) :
    ∃ r n' v1 v2, Value.ref D = .ref r ∧ [(D, ({ cls := .type "tuple", data := .seq #[.int a u1, .int b u2] n } : Obj))] = [(r, ({ cls := .type "tuple", data := .seq #[.int x v1, .int y v2] n' } : Obj))] := by
  subst e1 e2; exact ⟨_, _, _, _, rfl, rfl⟩
end
end
section
open PySem PySem.W PyProof.Rows PySem.Spec PySem.Calls
section
set_option maxRecDepth 100000 in
set_option maxHeartbeats 4000000 in
theorem rgb_c {w : World} {p : Program} {loose : List Str} {mean : ExcName → Option Value} {mg mb : Str → Option Value} {fr : Option (List Env)} {gd : Option (List Code)} {s : Shared}
  (X : (Mine.KK w.params).In s.heap) (T : Top p loose mean mg mb s.heap)
  (x y : UInt64) (t1 t2 t3 : Tok) (hz1 : ¬ Float64.isZero (Float64.add (fmax3 x y y) (fmin3 x y y)) = true) (hz2 : Nz (hlsEq x y) (hlsR x y)) (hz3 : ¬ Float64.isZero (Float64.sub (Float64.sub 4611686018427387904 (fmax3 x y y)) (fmin3 x y y)) = true)
  (hz4 : Ng (hlsRed x y) (Float64.cmp y (fmax3 x y y) == some Ordering.eq)) :
  codeAny (model PySem.Challenge.rw_tl0015_01.row.prog w) (Ac 2 fr gd) (.call (.ref 52) ⟨[.float x t1, .float y t2, .float y t3], []⟩) (Ret s fun v own => ∃ r n u1 u2 u3, v = .ref r ∧ own = [(r, fTup (hlsF x y).1 (hlsF x y).2.1 (hlsF x y).2.2 n u1 u2 u3)]) s := by
  have hz2' := hz2
  have hz4' := hz4
  unfold hlsEq hlsR at hz2
  unfold hlsRed at hz4
  revert X; k_fill; intro X
  k_extra "m enter"
  k_steps
  all_goals k_extra "m ret"
  all_goals first
    | exact (Ng.no hz4 (by assumption) (by assumption)).elim
    | exact ret_tup3 (hls_e (by assumption))
    | exact ret_tup3 (hls_tt (by assumption) (by assumption) (by assumption))
    | exact ret_tup3 (hls_tf (by assumption) (by assumption) (by assumption))
    | exact ret_tup3 (hls_ft (by assumption) (by assumption) (by assumption))
    | exact ret_tup3 (hls_ff (by assumption) (by assumption) (by assumption))
end
end
section
open PySem PySem.W PyProof.Rows PySem.Spec PySem.Calls
section
local macro_rules | `(tactic| walk_at "m pad0") => `(tactic| skip)
set_option maxRecDepth 100000 in
set_option maxHeartbeats 4000000 in

theorem goods_c {w : World} {p : Program} {loose : List Str} {mean : ExcName → Option Value} {mg mb : Str → Option Value} {fr : Option (List Env)} {gd : Option (List Code)} {s : Shared}
  (X : (Mine.KK w.params).In s.heap) (T : Top p loose mean mg mb s.heap)
  (one two : Int) (t1 t2 : Tok) (h1 : -4 ≤ one) (h2 : one ≤ 4) (h3 : -4 ≤ two) (h4 : two ≤ 4) :
  codeAny (model PySem.Challenge.rw_tl0015_01.row.prog w) (Ac 1 fr gd) (.call (.ref 118) ⟨[.int one t1, .int two t2], []⟩) (Ret s fun v own => ∃ r n u1 u2, v = .ref r ∧ own = [(r, ({ cls := .type "tuple", data := .seq #[.int (one + two) u1, .int (one - two) u2] n } : Obj))]) s := by
  have hg := gOk_of h1 h2 h3 h4
  unfold gOk at hg
  simp only [Bool.and_eq_true, Bool.not_eq_true', decide_eq_true_eq] at hg
  obtain ⟨⟨⟨⟨⟨⟨⟨⟨⟨c1, c2⟩, c3⟩, c4⟩, c5⟩, c6⟩, c7⟩, c8⟩, c9⟩, c10⟩ := hg
  revert X; k_fill; intro X
  k_extra "m enter"
  k_steps
  refine Stop.mk (call_by (by k_asm) (by k_asm) (rgb_c (X.keeps (Fr.keep (by k_asm))) (T.keeps (Fr.keep (by k_asm))) (gQ one) (gQ two) _ _ _ (by rw [c1]; decide) ?_ (by rw [c3]; decide) ?_) ?_)
  · intro h; rw [h, Bool.false_or] at c2; rw [Bool.not_eq_true'] at c2; rw [c2]; decide
  · intro h; rw [h, Bool.false_or] at c4; exact c4
  · rintro v own h' tk ⟨r, n, u1, u2, u3, rfl, rfl⟩ F N hk hf
    dsimp only [List.cons_append, List.nil_append] at N
    unfold fTup at N
    (try k_unmd); (try k_fold)
    k_steps
    all_goals first
      | (rename (Float64.isNaN _ = true) => hbad; first | exact absurd ((show Float64.isNaN (gS one two) = true from hbad).symm.trans c5) (by decide) | exact absurd ((show Float64.isNaN (gL one two) = true from hbad).symm.trans c7) (by decide))
      | (rename (Float64.isInf _ = true) => hbad; first | exact absurd ((show Float64.isInf (gS one two) = true from hbad).symm.trans c6) (by decide) | exact absurd ((show Float64.isInf (gL one two) = true from hbad).symm.trans c8) (by decide))
      | skip
    · rename ((_ == _) = true) => hb
      rw [if_pos (show gBlue one two = true from hb), decide_eq_true_eq] at c10
      k_extra "m ret"
      exact ret_tup2 c9 c10
    · rename ((_ == _) = false) => hb
      rw [if_neg (by rw [show gBlue one two = false from hb]; decide), decide_eq_true_eq] at c10
      k_extra "m ret"
      exact ret_tup2 c9 c10
end
end
section
open PySem PySem.W PyProof.Rows PySem.Spec PySem.Calls
section
def cutOf (rs : List Int) (side : Nat) : Int := ((List.range 8).map fun k => if ((side >>> (PA k).toNat) % 2 == (side >>> (PB k).toNat) % 2) then 0 else rs.getD k 0).sum
theorem side_bit (i : Nat) (a b : Int) : (Builtin.bitAnd ((i : Int).fdiv (2 ^ a.toNat)) 1 != Builtin.bitAnd ((i : Int).fdiv (2 ^ b.toNat)) 1) = !((i >>> a.toNat) % 2 == (i >>> b.toNat) % 2) := by
  have e : ∀ n : Nat, Builtin.bitAnd ((i : Int).fdiv (2 ^ n)) 1 = (((i >>> n) % 2 : Nat) : Int) := by
    intro n
    rw [show ((2 : Int) ^ n) = ((2 ^ n : Nat) : Int) by simp, Int.fdiv_eq_ediv_of_nonneg _ (Int.natCast_nonneg _), ← Int.natCast_ediv, bitAnd_pp (Int.natCast_nonneg _) (by decide), Int.toNat_natCast, show Int.toNat 1 = 1 from rfl, Nat.and_one_is_mod, Nat.shiftRight_eq_div_pow]
  rw [e, e]
  generalize (i >>> a.toNat) % 2 = x
  generalize (i >>> b.toNat) % 2 = y
  by_cases h : x = y
  · subst h; simp
  · have h' : ((x : Nat) : Int) ≠ (y : Int) := fun q => h (by exact_mod_cast q)
    rw [bne, beq_eq_false_iff_ne.mpr h', beq_eq_false_iff_ne.mpr h]
theorem side_ne {i : Nat} {a b : Int} (h : (Builtin.bitAnd ((i : Int).fdiv (2 ^ a.toNat)) 1 != Builtin.bitAnd ((i : Int).fdiv (2 ^ b.toNat)) 1) = true) : ¬ ((i >>> a.toNat) % 2 == (i >>> b.toNat) % 2) = true := by
  rw [side_bit] at h
  intro q; rw [q] at h; cases h
theorem side_eq {i : Nat} {a b : Int} (h : (Builtin.bitAnd ((i : Int).fdiv (2 ^ a.toNat)) 1 != Builtin.bitAnd ((i : Int).fdiv (2 ^ b.toNat)) 1) = false) : ((i >>> a.toNat) % 2 == (i >>> b.toNat) % 2) = true := by
  rw [side_bit] at h
  rwa [Bool.not_eq_false'] at h
set_option maxRecDepth 100000 in
set_option maxHeartbeats 4000000 in
theorem cuts_c {w : World} {p : Program} {loose : List Str} {mean : ExcName → Option Value} {mg mb : Str → Option Value} {fr : Option (List Env)} {gd : Option (List Code)} {s : Shared}
  (X : (Mine.KK w.params).In s.heap) (T : Top p loose mean mg mb s.heap)
  (l1 l2 : Addr) (vs : List Value) (ns : List Int) (hl : s.heap.IsList l1 vs.toArray) (hi : IntsAre vs ns) (hlen : ns.length = 8) (hp : PairsAt s.heap l2) :
  codeAny (model PySem.Challenge.rw_tl0015_01.row.prog w) (Ac 1 fr gd) (.call (.ref 99) ⟨[.ref l1, .ref l2], []⟩) (Ret s fun v own => ∃ r n vals, v = .ref r ∧ own = [(r, listOf (vals : List Value).toArray n)] ∧ IntsAre vals ((List.range 16).map (cutOf ns))) s := by
  revert X; k_fill; intro X
  k_extra "m enterC"
  k_steps

  rename_i L' h' tk' o1 o2 o3 d1 d2 d3 l h2 ll h3 F' N' h4 tk2 t1 u1 v1 hR F9 N9 hK
  refine Stop.mk (for_range2 (n := 16) (L := L') (σ := List Value × Nat × Obj) (fun c m₀ y => if y = Str.ofString "cuts" then some (.ref l) else m₀ y) (fun c => [(l, listOf c.1.toArray c.2.1), (L' + 1 + 1 + 1, c.2.2), (L' + 1 + 1, o2), (L' + 1, o3)])
    (fun i c => IntsAre c.1 ((List.range i).map (cutOf ns)) ∧ ∃ x, c.2.2.data = .cell x) ([], 0, o1) _ rfl rfl hR (by decide) (by decide) (fr_name F9 rfl) N9 (fun _ h => h) ⟨.nil, _, d1⟩ ?_ ?_)
  · rintro i t ⟨ws, y, q⟩ m₁ s₁ I oI E' hi ⟨hP, x, hx⟩ hI F₁ N₁
    simp only [List.forall_mem_cons, List.not_mem_nil, false_imp_iff, implies_true, and_true] at hP hx F₁ N₁ hI
    obtain ⟨i1, i2, i3, i4⟩ := hI
    have hwl : ws.length = i := by rw [hP.length, List.length_map, List.length_range]
    (try k_unmd); (try k_fold)
    k_steps
    rename IsRange _ _ _ _ _ _ _ _ => R8
    rename Fr _ _ _ _ => F8
    rename News _ _ _ _ => N8
    refine Stop.mk (IfGo.range (n := 8) rfl R8 (by decide) (by decide) (by decide) (by decide) rfl rfl F8 N8 (fun j ys => ∃ ms, IntsAre ys ms ∧ ms.sum = ((List.range j).map fun k => if ((i >>> (PA k).toNat) % 2 == (i >>> (PB k).toNat) % 2) then 0 else ns.getD k 0).sum) ⟨[], .nil, rfl⟩ ?_ ?_)
    · intro k t' I' oI' C oC D m₂ ys s₂ E2 hk hJ hC hx' F2 N2 off ne
      dsimp only [LCg.Off3] at off
      have hA := PA_lo k hk
      have hB := PB_lo k hk
      (try k_unmd); (try k_fold)
      k_steps
      refine Stop.mk (IfTurn.intro (by k_asm) (by k_asm) ?_ ?_)
      · intro hb
        (try k_unmd); (try k_fold)
        k_steps
        refine Stop.mk ⟨_, _, rfl, by k_asm, by k_asm, ?_⟩
        obtain ⟨ms, hm, hs⟩ := hJ
        refine ⟨ms ++ [_], hm.append (.cons _ _ .nil), ?_⟩
        rw [List.sum_append, hs, List.range_succ, List.map_append, List.sum_append, List.map_singleton, List.sum_singleton, List.sum_singleton, if_neg (side_ne hb)]
      · intro hb
        obtain ⟨ms, hm, hs⟩ := hJ
        refine ⟨ms, hm, ?_⟩
        rw [hs, List.range_succ, List.map_append, List.sum_append, List.map_singleton, List.sum_singleton, if_pos (side_eq hb), Int.add_zero]
    · intro g
      refine rr_none ?_
      rintro D h tk ys F N off ⟨ms, hm, hs⟩
      simp only [List.forall_mem_cons, List.not_mem_nil, false_imp_iff, implies_true, and_true] at off
      (try k_unmd); (try k_fold)
      k_steps
      simp only [List.push_toArray] at *
      rename_i tt _ _ _
      refine Stop.mk (ForEnd2.intro (ws ++ [Value.int ms.sum tt], y + 1, _) _ (by k_asm) (by k_asm) ?_ ?_ ?_ ⟨?_, _, by assumption⟩)
      · intro p hp
        simp only [List.mem_cons, List.not_mem_nil, or_false] at hp ⊢
        rcases hp with h | h | h | h
        · exact .inr (.inr (.inl h))
        · exact .inr (.inr (.inr (.inl h)))
        · exact .inr (.inr (.inr (.inr (.inl h))))
        · exact .inr (.inr (.inr (.inr (.inr h))))
      · exact List.mem_cons_of_mem _ List.mem_cons_self
      · simp only [List.forall_mem_cons, List.not_mem_nil, false_imp_iff, implies_true, and_true]
        exact ⟨i1, i2, i3, i4⟩
      · rw [List.range_succ, List.map_append, hs]
        exact hP.append (.cons _ _ .nil)
  · rintro ⟨ws, y, q⟩ m₁ h tk ⟨hP, x, hx⟩ F N
    dsimp only at hP hx F N
    (try k_unmd); (try k_fold)
    k_steps
    k_extra "m ret"
    exact ⟨_, _, _, rfl, rfl, hP⟩
end
end
section
open PySem PySem.W PyProof.Rows PySem.Spec PySem.Calls
section
local macro_rules | `(tactic| walk_at "m pad0") => `(tactic| skip)
theorem words_on_X1 : True := by
  k_with_none
  (k_with "m cj" => with_reducible first | assumption | exact And.left (by assumption) | exact And.left (And.right (by assumption)) | exact And.right (by assumption) | exact And.left (And.right (And.right (by assumption))) | exact And.right (And.right (by assumption)) | exact And.left (And.right (And.right (And.right (by assumption)))) | exact And.right (And.right (And.right (by assumption))) | exact And.left (r4 (by assumption)) | exact r4 (by assumption) | exact And.left (r4 (And.right (by assumption))) | exact r4 (And.right (by assumption)) | exact And.left (r4 (And.right (And.right (by assumption)))) | exact r4 (And.right (And.right (by assumption))) | exact And.left (r4 (And.right (And.right (And.right (by assumption))))) | exact r4 (And.right (And.right (And.right (by assumption)))) | exact And.left (r4 (r4 (by assumption))) | exact r4 (r4 (by assumption)) | exact And.left (r4 (r4 (And.right (by assumption)))) | exact r4 (r4 (And.right (by assumption))) | exact And.left (r4 (r4 (And.right (And.right (by assumption))))) | exact r4 (r4 (And.right (And.right (by assumption)))) | exact And.left (r4 (r4 (And.right (And.right (And.right (by assumption)))))) | exact r4 (r4 (And.right (And.right (And.right (by assumption))))) | exact And.left (r4 (r4 (r4 (by assumption)))) | exact r4 (r4 (r4 (by assumption))) | exact And.left (r4 (r4 (r4 (And.right (by assumption))))) | exact r4 (r4 (r4 (And.right (by assumption)))) | exact And.left (r4 (r4 (r4 (And.right (And.right (by assumption)))))) | exact r4 (r4 (r4 (And.right (And.right (by assumption))))) | exact And.left (r4 (r4 (r4 (And.right (And.right (And.right (by assumption))))))) | exact r4 (r4 (r4 (And.right (And.right (And.right (by assumption)))))))
  (k_with "m le" => first | exact Nat.le_refl _ | (with_reducible refine le_s ?_; k_extra "m le") | (refine Nat.le_of_lt ?_; k_extra "m cj"))
  (k_with "m off" => first | (with_reducible refine ne_ss ?_; k_extra "m off") | (with_reducible refine ne_ls ?_; k_extra "m le") | (with_reducible refine ne_rs ?_; k_extra "m le"))
  (k_with "m enter" => (k_dflt (refine' enter (by assumption) (by assumption) (by exact Nat.le_of_ble_eq_true rfl) (by k_is) (by k_is) (by exact BindsTo.of_eq rfl) (by exact locs rfl) ?_ (by exact rfl) (by exact rfl) (by exact rfl) (by decide); k_whole; intro _ _ _ _; (try dsimp only); (try k_fold))))
  (k_with "m enterC" => (k_dflt (refine' enterC (by assumption) (by assumption) (by exact Nat.le_of_ble_eq_true rfl) (by k_is) (by k_is) (by exact BindsTo.of_eq rfl) (by exact rfl) (by decide +kernel) ?_ (by exact rfl) (by exact rfl) (by exact rfl); k_whole; intro _ _ _ _ _ _ Y'; k_cells Y'; (try dsimp only); (try k_fold))))
  (k_with "m ints" => first | assumption | (repeat' (first | exact IntsAre.nil | refine IntsAre.cons _ _ ?_)))
  (k_with "m len" => first | omega | (simp only [List.length_cons, List.length_nil, List.length_append, List.length_replicate, List.length_take, List.length_map, List.length_flatten, List.map_replicate, List.sum_replicate_nat, Int.toNat]; omega) | (simp; omega))
  (k_with "CompSrc" => refine Stop.out ?_)
  (k_with "CompEnd" => refine Stop.out ?_)
  (k_with "m range" => (refine Stop.mk ?_; k_dflt (refine LCg.CompSrc.range (by rfl) (by k_asm) (by k_asm) (by assumption) (by decide) (by rfl) (by size_fits) ?_); intro _))
  (k_with "m end" => (refine Stop.mk ?_; refine LCg.CompEnd.intro (by assumption) (by assumption) _ (by kcf_all) (by first | assumption | (simp only [LCg.Off3, and_true]; done) | (simp only [LCg.Off3, and_true]; assumption)) (by first | lcg_src | assumption) ⟨rfl, ?_⟩))
  (k_with "m base" => first | exact base_list (by k_asm) (by assumption) | exact News.isList (by k_asm) (by k_mem))
  (k_with "assign Tuple" => (k_here; (with_reducible show wpAny _ _ (assign (Expr.Tuple _ _ _) _ (Value.ref _)) _ _ _); k_dflt (refine' kun_list (by k_asm) (by k_asm) (by k_extra "m base") (by exact rfl) (by exact rfl) (by exact rfl) ?_; k_whole); intro _ _ _; (try k_sweep)))
  (k_with "subscriptTail Name Name ref int" => k_extra "m sub")
  (k_with "subscriptTail Name Subscript ref int" => k_extra "m sub")
  (k_with "subscriptTail Name Call ref int" => k_extra "m sub")
  (k_with "subscriptTail Attribute Name ref int" => k_extra "m sub")
  (k_with "m sub" => (k_here; (with_reducible show wpAny _ _ (subscriptTail _ _ (Value.ref _) (Value.int _ _)) _ _ _); first | ((with_reducible show wpAny _ _ (subscriptTail _ _ (Value.ref _) (Value.int (Nat.cast _) _)) _ _ _); first | (k_dflt (refine' sub_pairs (by k_asm) (by with_reducible assumption) (by omega) ?_; k_whole); intro _ _ _ _) | (k_dflt (refine' sub_intsN (by k_asm) (by k_mem) (by k_extra "m ints") (by k_extra "m len") (by k_extra "m len") ?_; k_whole); intro _) | (k_dflt (refine' sub_baseN (by k_asm) (by with_reducible assumption) (by k_extra "m ints") (by k_extra "m len") (by k_extra "m len") ?_; k_whole); intro _)) | (k_dflt (refine' sub_ints (by k_asm) (by k_mem) (by k_extra "m ints") (by omega) (by k_extra "m len") (by k_extra "m len") ?_; k_whole); intro _) | (k_dflt (refine' sub_base (by k_asm) (by with_reducible assumption) (by k_extra "m ints") (by omega) (by k_extra "m len") (by k_extra "m len") ?_; k_whole); intro _)))
  (k_with "call ref" => refine Stop.out ?_)
  (k_with "exec While Compare cons nil" => refine Stop.out ?_)
  (k_with "pyIter ref" => refine Stop.out ?_)
  (k_with "exec For Name Call cons nil" => (k_dflt (refine wpAny_For ?_); (try k_unmd); (try k_fold)))
  (k_with "exec For Tuple Subscript cons nil" => (k_dflt (refine wpAny_For ?_); (try k_unmd); (try k_fold)))
  (k_with "exec For Tuple Name cons nil" => (k_dflt (refine wpAny_For ?_); (try k_unmd); (try k_fold)))
  (k_with "binaryOp RShift int int" => (with_reducible refine rsh6 ?_))
  (k_with "binaryOp LShift int int" => (with_reducible refine lsh6 (by k_dflt omega) ?_))
  (k_with "m ret" => ((try k_unmd); (try k_unfold); refine' Ret.intro [_] (by k_asm) (by k_asm) (fun p hp => by rw [List.mem_singleton.mp hp]; exact List.mem_cons_self) ?_))
  (k_with "binaryOp Mult int int" => ((with_reducible refine mul_int ?_ (by k_dflt (first | exact IntMulOk.of_left (intBits_le_64 (by omega) (by omega)) | exact IntMulOk.of_right (intBits_le_64 (by omega) (by omega)))))))
  (k_with "call builtin:max" => ((with_reducible show wpAny _ _ (call (Value.builtin _) [Value.float _ _, Value.float _ _, Value.float _ _]) _ _ _); k_dflt (refine' float_max3 (by exact rfl) (by k_asm) (by k_asm) ?_; k_whole); intro _ _ _ _ _))
  (k_with "call builtin:min" => ((with_reducible show wpAny _ _ (call (Value.builtin _) [Value.float _ _, Value.float _ _, Value.float _ _]) _ _ _); k_dflt (refine' float_min3 (by exact rfl) (by k_asm) (by k_asm) ?_; k_whole); intro _ _ _ _ _))
  (k_with "call builtin:min" => ((with_reducible show wpAny _ _ (call (Value.builtin _) [Value.float _ _, Value.float _ _]) _ _ _); k_dflt (refine' float_min2 (by exact rfl) (by k_asm) (by k_asm) ?_; k_whole); intro _ _ _ _ _))
  (k_with "binaryOp Div float float" => ((with_reducible refine AutoFloatOps.truediv_1 (by k_dflt (first | assumption | decide | exact Nz.out (by assumption) (by assumption))) ?_); (try dsimp only [Made.post])))
  (k_with "binaryOp Mod float float" => ((with_reducible refine AutoFloatOps.mod_1 (by k_dflt (first | assumption | decide | exact Nz.out (by assumption) (by assumption))) ?_); (try dsimp only [Made.post])))
  (k_with "ite" => first | refine ite_t (by assumption) ?_ | refine ite_f (by assumption) ?_ | refine ite_t (Ng.out (by assumption) (by assumption)) ?_)
  (k_with "eval ListComp" => ((with_reducible refine' ListComp_if (by with_unfolding_all rfl) (by with_unfolding_all rfl) (by k_dflt decide) ?_ (by (intro _; with_unfolding_all rfl))); (try k_unmd); (try k_fold)))
  (k_with "exec Assign cons ListComp" => ((with_reducible refine' Assign_if (by with_unfolding_all rfl) (by with_unfolding_all rfl) (by with_unfolding_all rfl) (by k_dflt decide) ?_ (by (intro _; with_unfolding_all rfl))); (try k_unmd); (try k_fold)))
  (k_with "IfGo" => refine Stop.out ?_)
  (k_with "IfTurn" => refine Stop.out ?_)
  (k_with "IfDone" => refine Stop.out ?_)
  (k_with "ForEnd2" => refine Stop.out ?_)
  (k_with "call builtin:max" => ((with_reducible show wpAny _ _ (call (Value.builtin _) [Value.ref _]) _ _ _); k_dflt (refine' max_list_N (by exact rfl) (by k_asm) (by k_asm) (by k_extra "m base") (by k_extra "m ints") (by (first | assumption | omega | exact ne_dec (by assumption))) ?_; k_whole); intro _ _ _ _ _ _ _ _))
  (k_with "m ledger" => (refine Stop.mk ?_; k_dflt (refine LCg.CompSrc.ledger (by rfl) (by k_asm) (by k_asm) (by k_mem) (by size_fits) ?_); intro _))
  (k_with "getMethod ref" => ((with_reducible show wpAny _ _ (getMethod (Value.ref _) (Str.ofString "sub") _) _ _ _); refine Stop.out ?_))
  (k_with "m tl" => first | assumption | (refine' List.Mem.tail _ ?_; k_extra "m tl") | exact (by assumption : ∀ q : Addr × Obj, q ∈ (_ : List (Addr × Obj)) → q ∈ (_ : List (Addr × Obj))) _ (by assumption))
  (k_with "m inc" => first | exact List.forall_mem_nil _ | (refine' List.forall_mem_cons.mpr ⟨(by k_mem), (by k_extra "m inc")⟩) | (intro _ _; k_extra "m tl"))
  (k_with "subscriptTail Name Name ref int" => (k_dflt (refine' sub_lst (by k_asm) (by k_mem) (by decide) (by decide) (by exact rfl) ?_; k_whole)))
  trivial
def exOf (n v : Nat) : List (Nat × Int × Int) := (List.range n).flatMap fun k => (if PA k = v then [(k, PB k, 1)] else []) ++ (if PB k = v then [(k, PA k, -1)] else [])
def tup3 (a b c : Value) (n : Nat) : Obj := { cls := .type "tuple", data := .seq #[a, b, c] n }
def TripsIn (own : List (Addr × Obj)) : List Value → List (Nat × Int × Int) → Prop
  | [], [] => True
  | v :: vs, x :: xs => (∃ q n t1 t2 t3, v = .ref q ∧ (q, tup3 (.int (x.1 : Int) t1) (.int x.2.1 t2) (.int x.2.2 t3) n) ∈ own) ∧ TripsIn own vs xs
  | _, _ => False
theorem TripsIn.length {own : List (Addr × Obj)} : ∀ {vs : List Value} {xs : List (Nat × Int × Int)}, TripsIn own vs xs → vs.length = xs.length
  | [], [], _ => rfl
  | _ :: _, _ :: _, h => congrArg (· + 1) (TripsIn.length h.2)
  | [], _ :: _, h => h.elim
  | _ :: _, [], h => h.elim
theorem TripsIn.mono {own own' : List (Addr × Obj)} (hs : ∀ p ∈ own, p ∈ own') : ∀ {vs : List Value} {xs : List (Nat × Int × Int)}, TripsIn own vs xs → TripsIn own' vs xs
  | [], [], _ => trivial
  | _ :: _, _ :: _, ⟨⟨q, n, t1, t2, t3, e, hm⟩, h⟩ => ⟨⟨q, n, t1, t2, t3, e, hs _ hm⟩, TripsIn.mono hs h⟩
  | [], _ :: _, h => h.elim
  | _ :: _, [], h => h.elim
theorem TripsIn.append {own : List (Addr × Obj)} {ws : List Value} {ys : List (Nat × Int × Int)} (h2 : TripsIn own ws ys) : ∀ {vs : List Value} {xs : List (Nat × Int × Int)}, TripsIn own vs xs → TripsIn own (vs ++ ws) (xs ++ ys)
  | [], [], _ => h2
  | _ :: _, _ :: _, ⟨a, h⟩ => ⟨a, TripsIn.append h2 h⟩
  | [], _ :: _, h => h.elim
  | _ :: _, [], h => h.elim
theorem TripsIn.keep {own own' : List (Addr × Obj)} {vs : List Value} {n v : Nat} (h : TripsIn own vs (exOf n v)) (hs : ∀ p ∈ own, p ∈ own') (ha : (PA n == v) = false) (hb : (PB n == v) = false) : TripsIn own' vs (exOf (n + 1) v) := by
  have e : exOf (n + 1) v = exOf n v := by
    unfold exOf
    rw [List.range_succ, List.flatMap_append, List.flatMap_singleton, if_neg (by simpa using ha), if_neg (by simpa using hb)]
    simp
  rw [e]; exact h.mono hs
theorem TripsIn.outA {own own' : List (Addr × Obj)} {vs : List Value} {n v : Nat} {q : Addr} {z : Nat} {t1 t2 t3 : Tok} {b : Int} (h : TripsIn own vs (exOf n v)) (hm : (q, tup3 (.int (n : Int) t1) (.int b t2) (.int 1 t3) z) ∈ own') (hs : ∀ p ∈ own, p ∈ own') (ha : (PA n == v) = true) (hb : (PB n == v) = false) (hbb : PB n = b) : TripsIn own' (vs ++ [.ref q]) (exOf (n + 1) v) := by
  have e : exOf (n + 1) v = exOf n v ++ [(n, PB n, 1)] := by
    unfold exOf
    rw [List.range_succ, List.flatMap_append, List.flatMap_singleton, if_pos (by simpa using ha), if_neg (by simpa using hb)]
    simp
  rw [e, hbb]
  exact TripsIn.append (ws := [.ref q]) (ys := [(n, b, 1)]) ⟨⟨q, z, t1, t2, t3, rfl, hm⟩, trivial⟩ (h.mono hs)
theorem TripsIn.outB {own own' : List (Addr × Obj)} {vs : List Value} {n v : Nat} {q : Addr} {z : Nat} {t1 t2 t3 : Tok} {b : Int} (h : TripsIn own vs (exOf n v)) (hm : (q, tup3 (.int (n : Int) t1) (.int b t2) (.int (-1) t3) z) ∈ own') (hs : ∀ p ∈ own, p ∈ own') (ha : (PA n == v) = false) (hb : (PB n == v) = true) (hbb : PA n = b) : TripsIn own' (vs ++ [.ref q]) (exOf (n + 1) v) := by
  have e : exOf (n + 1) v = exOf n v ++ [(n, PA n, -1)] := by
    unfold exOf
    rw [List.range_succ, List.flatMap_append, List.flatMap_singleton, if_neg (by simpa using ha), if_pos (by simpa using hb)]
    simp
  rw [e, hbb]
  exact TripsIn.append (ws := [.ref q]) (ys := [(n, b, -1)]) ⟨⟨q, z, t1, t2, t3, rfl, hm⟩, trivial⟩ (h.mono hs)
structure ExS where
  (a0 a1 a2 a3 a4 : List Value)
  (n0 n1 n2 n3 n4 : Nat)
  tups : List (Addr × Obj)
section
variable {prog : Program} {w : World} {A : Around} {E : Value → Shared → Prop} {s : Shared} {h₀ : Heap} {L : Addr} {news : List (Addr × Obj)}
theorem sub_lst {value slice : Expr} {l : Addr} {its : Array Value} {n : Nat} {k : Int} {u : Tok} {v : Value} {Q : Value → Shared → Prop} (N : News h₀ L s.heap news) (hm : (l, W.listOf its n) ∈ news) (h0 : 0 ≤ k) (hb : k < 2 ^ 63) (hv : its.toList[k.toNat]? = some v) (h : Q v s)
    (hs : subscripted slice false (.ref l) (.int k u) = operate [.ref l, .int k u] (getItem (.ref l) (.int k u)) := by with_unfolding_all rfl) :
    wpAny (model prog w) A (subscriptTail value slice (.ref l) (.int k u)) Q E s := by
  have hl : s.heap.IsList l its := ⟨_, (N _ hm).1, rfl, n, rfl⟩
  exact tail_any hl.typeIs slot_list_getitem.lookup (wpAny_getItem_list hl h0 hb (by simpa using hv) h) hs
end
abbrev exLed (le l0 l1 m2 l3 l4 : Addr) (c : ExS) : List (Addr × Obj) := (le, W.listOf #[.ref l0, .ref l1, .ref m2, .ref l3, .ref l4] 0) :: (l4, W.listOf c.a4.toArray c.n4) :: (l3, W.listOf c.a3.toArray c.n3) :: (m2, W.listOf c.a2.toArray c.n2) :: (l1, W.listOf c.a1.toArray c.n1) :: (l0, W.listOf c.a0.toArray c.n0) :: c.tups
theorem ex_end {h₀ h : Heap} {L le l0 l1 m2 l3 l4 I q1 q2 : Addr} {M : (Str → Option Value) → Str → Option Value} {m₀ : Str → Option Value} {b0 b1 b2 b3 b4 : List Value} {m0 m1 mm2 m3 m4 : Nat} {tups : List (Addr × Obj)} {o1 o2 oI : Obj} {P : ExS → Prop} {s : Shared} {tk : Nat}
    (F : Fr h₀ L h (M m₀)) (N : News h₀ L h ((q2, o2) :: (q1, o1) :: (I, oI) :: exLed le l0 l1 m2 l3 l4 ⟨b0, b1, b2, b3, b4, m0, m1, mm2, m3, m4, tups⟩))
    (hi : (@Ne Nat le I) ∧ (@Ne Nat l4 I) ∧ (@Ne Nat l3 I) ∧ (@Ne Nat m2 I) ∧ (@Ne Nat l1 I) ∧ (@Ne Nat l0 I) ∧ (@Ne Nat q2 I) ∧ (@Ne Nat q1 I) ∧ ∀ p ∈ tups, @Ne Nat p.1 I)
    (hp : P ⟨b0, b1, b2, b3, b4, m0, m1, mm2, m3, m4, (q2, o2) :: (q1, o1) :: tups⟩) : ForEnd2 h₀ L (fun _ m₀ => M m₀) (exLed le l0 l1 m2 l3 l4) P I oI s .next { s with heap := h, toks := tk } := by
  refine ForEnd2.intro ⟨b0, b1, b2, b3, b4, m0, m1, mm2, m3, m4, (q2, o2) :: (q1, o1) :: tups⟩ m₀ F N ?_ (.tail _ (.tail _ (.head _))) ?_ hp
  · dsimp only [exLed]
    k_extra "m inc"
  · simp only [exLed, List.forall_mem_cons]
    exact hi
local macro_rules | `(tactic| k_all) => `(tactic| assumption)
set_option maxRecDepth 100000 in
set_option maxHeartbeats 4000000 in
theorem exits_c {w : World} {p : Program} {loose : List Str} {mean : ExcName → Option Value} {mg mb : Str → Option Value} {fr : Option (List Env)} {gd : Option (List Code)} {s : Shared}
  (X : (Mine.KK w.params).In s.heap) (T : Top p loose mean mg mb s.heap)
  (l2 : Addr) (hp : PairsAt s.heap l2) :
  codeAny (model PySem.Challenge.rw_tl0015_01.row.prog w) (Ac 1 fr gd) (.call (.ref 106) ⟨[.ref l2], []⟩) (Ret s fun v own => ∃ le l0 l1 m2 l3 l4 c, v = .ref le ∧ own = exLed le l0 l1 m2 l3 l4 c ∧ TripsIn c.tups c.a0 (exOf 8 0) ∧ TripsIn c.tups c.a1 (exOf 8 1) ∧ TripsIn c.tups c.a2 (exOf 8 2) ∧ TripsIn c.tups c.a3 (exOf 8 3) ∧ TripsIn c.tups c.a4 (exOf 8 4)) s := by
  revert X; k_fill; intro X
  k_extra "m enter"
  k_steps
  rename_i L' h1 qk1 ek1 tk1 l0 g0 q0 l1 g1 q1 m2 g2 q2 l3 g3 q3 l4 g4 q4 le g5 q5 hF F' N' h tk t u v hR F9 N9 hK
  refine Stop.mk (for_range2 (n := 8) (L := L') (σ := ExS) (fun c m₀ y => if y = Str.ofString "pairs" then some (.ref l2) else if y = Str.ofString "exits" then some (.ref le) else m₀ y)
    (exLed le l0 l1 m2 l3 l4)
    (fun i c => TripsIn c.tups c.a0 (exOf i 0) ∧ TripsIn c.tups c.a1 (exOf i 1) ∧ TripsIn c.tups c.a2 (exOf i 2) ∧ TripsIn c.tups c.a3 (exOf i 3) ∧ TripsIn c.tups c.a4 (exOf i 4) ∧ ∀ p ∈ c.tups, @LT.lt Nat _ le p.1) ⟨[], [], [], [], [], 0, 0, 0, 0, 0, []⟩ _ rfl rfl hR (by decide) (by decide) (fr_name (fr_name F9 rfl) rfl) N9 (fun _ h => h) ⟨trivial, trivial, trivial, trivial, trivial, (by intro p hp; cases hp)⟩ ?_ ?_)
  · rintro i t ⟨a0, a1, a2, a3, a4, n0, n1, n2, n3, n4, tups⟩ m₁ s₁ I oI E' hi ⟨h0, h1, h2, h3, h4, ht⟩ hI F₁ N₁
    simp only [exLed, List.forall_mem_cons] at h0 h1 h2 h3 h4 ht F₁ N₁ hI
    obtain ⟨i1, i2, i3, i4, i5, i6, i7⟩ := hI
    have z0 : ∀ p ∈ tups, @Ne Nat p.1 l0 := fun p hp => by have := ht p hp; omega
    have z1 : ∀ p ∈ tups, @Ne Nat p.1 l1 := fun p hp => by have := ht p hp; omega
    have z2 : ∀ p ∈ tups, @Ne Nat p.1 m2 := fun p hp => by have := ht p hp; omega
    have z3 : ∀ p ∈ tups, @Ne Nat p.1 l3 := fun p hp => by have := ht p hp; omega
    have z4 : ∀ p ∈ tups, @Ne Nat p.1 l4 := fun p hp => by have := ht p hp; omega
    have y0 := h0.length
    have y1 := h1.length
    have y2 := h2.length
    have y3 := h3.length
    have y4 := h4.length
    have hcase : i = 0 ∨ i = 1 ∨ i = 2 ∨ i = 3 ∨ i = 4 ∨ i = 5 ∨ i = 6 ∨ i = 7 := lt8 _ (by omega)
    rcases hcase with rfl | rfl | rfl | rfl | rfl | rfl | rfl | rfl
    all_goals
      replace y0 : a0.length ≤ 8 := by rw [y0]; decide
      replace y1 : a1.length ≤ 8 := by rw [y1]; decide
      replace y2 : a2.length ≤ 8 := by rw [y2]; decide
      replace y3 : a3.length ≤ 8 := by rw [y3]; decide
      replace y4 : a4.length ≤ 8 := by rw [y4]; decide
      (try k_unmd); (try k_fold)
      k_steps
      simp only [List.push_toArray] at *
      rename Fr _ _ _ _ => F8
      refine Stop.mk (ex_end (fr_name (fr_name F8 rfl) rfl) (by k_asm) ⟨i1, i2, i3, i4, i5, i6, by omega, by omega, i7⟩ ?_)
      · dsimp only
        refine ⟨?_, ?_, ?_, ?_, ?_, ?_⟩
        · first | exact TripsIn.keep h0 (fun p hp => .tail _ (.tail _ hp)) (by decide) (by decide) | exact TripsIn.outA h0 (.tail _ (.head _)) (fun p hp => .tail _ (.tail _ hp)) (by decide) (by decide) rfl | exact TripsIn.outB h0 (.head _) (fun p hp => .tail _ (.tail _ hp)) (by decide) (by decide) rfl
        · first | exact TripsIn.keep h1 (fun p hp => .tail _ (.tail _ hp)) (by decide) (by decide) | exact TripsIn.outA h1 (.tail _ (.head _)) (fun p hp => .tail _ (.tail _ hp)) (by decide) (by decide) rfl | exact TripsIn.outB h1 (.head _) (fun p hp => .tail _ (.tail _ hp)) (by decide) (by decide) rfl
        · first | exact TripsIn.keep h2 (fun p hp => .tail _ (.tail _ hp)) (by decide) (by decide) | exact TripsIn.outA h2 (.tail _ (.head _)) (fun p hp => .tail _ (.tail _ hp)) (by decide) (by decide) rfl | exact TripsIn.outB h2 (.head _) (fun p hp => .tail _ (.tail _ hp)) (by decide) (by decide) rfl
        · first | exact TripsIn.keep h3 (fun p hp => .tail _ (.tail _ hp)) (by decide) (by decide) | exact TripsIn.outA h3 (.tail _ (.head _)) (fun p hp => .tail _ (.tail _ hp)) (by decide) (by decide) rfl | exact TripsIn.outB h3 (.head _) (fun p hp => .tail _ (.tail _ hp)) (by decide) (by decide) rfl
        · first | exact TripsIn.keep h4 (fun p hp => .tail _ (.tail _ hp)) (by decide) (by decide) | exact TripsIn.outA h4 (.tail _ (.head _)) (fun p hp => .tail _ (.tail _ hp)) (by decide) (by decide) rfl | exact TripsIn.outB h4 (.head _) (fun p hp => .tail _ (.tail _ hp)) (by decide) (by decide) rfl
        · exact List.forall_mem_cons.mpr ⟨(by show @LT.lt Nat _ _ _; omega), List.forall_mem_cons.mpr ⟨(by show @LT.lt Nat _ _ _; omega), ht⟩⟩
  · rintro ⟨a0, a1, a2, a3, a4, n0, n1, n2, n3, n4, tups⟩ m₁ h tk ⟨h0, h1, h2, h3, h4, ht⟩ F N
    dsimp only [exLed] at h0 h1 h2 h3 h4 ht F N
    (try k_unmd); (try k_fold)
    k_steps
    (try k_unmd); (try k_unfold)
    refine Ret.intro (exLed le l0 l1 m2 l3 l4 ⟨a0, a1, a2, a3, a4, n0, n1, n2, n3, n4, tups⟩) (by k_asm) (by k_asm) (fun p hp => hp) ⟨le, l0, l1, m2, l3, l4, _, rfl, rfl, h0, h1, h2, h3, h4⟩
end
end
section
open PySem PySem.W PyProof.Rows PySem.Spec PySem.Calls
section
abbrev Way := List (Nat × Int)
theorem exOf_snoc (n v : Nat) : exOf (n + 1) v = exOf n v ++ ((if PA n = v then [(n, PB n, 1)] else []) ++ (if PB n = v then [(n, PA n, -1)] else [])) := by
  unfold exOf
  rw [List.range_succ, List.flatMap_append, List.flatMap_singleton]
theorem mem_exOf {n v : Nat} {x : Nat × Int × Int} : x ∈ exOf n v ↔ x.1 < n ∧ ((PA x.1 = v ∧ x.2.1 = PB x.1 ∧ x.2.2 = 1) ∨ (PB x.1 = v ∧ x.2.1 = PA x.1 ∧ x.2.2 = -1)) := by
  obtain ⟨k, far, sg⟩ := x
  unfold exOf
  rw [List.mem_flatMap]
  constructor
  · rintro ⟨j, hj, hx⟩
    rw [List.mem_range] at hj
    rcases List.mem_append.mp hx with h | h
    · split at h
      · have h := List.mem_singleton.mp h; cases h; exact ⟨hj, .inl ⟨by assumption, rfl, rfl⟩⟩
      · cases h
    · split at h
      · have h := List.mem_singleton.mp h; cases h; exact ⟨hj, .inr ⟨by assumption, rfl, rfl⟩⟩
      · cases h
  · rintro ⟨hj, h⟩
    refine ⟨k, List.mem_range.mpr hj, ?_⟩
    rcases h with ⟨h1, h2, h3⟩ | ⟨h1, h2, h3⟩
    · dsimp only at h1 h2 h3; rw [h2, h3, if_pos h1]; exact List.mem_append_left _ (.head _)
    · dsimp only at h1 h2 h3; rw [h2, h3, if_pos h1]; exact List.mem_append_right _ (.head _)
/-- what leaves v less what comes to it -/
def outF (fl : List Int) (v : Int) : Int := ((List.range 8).map fun k => (if PA k = v then fl.getD k 0 else 0) - (if PB k = v then fl.getD k 0 else 0)).sum
structure FI (rooms need0 need fl : List Int) : Prop where
  ln : need.length = 5
  lf : fl.length = 8
  nb : ∀ v, v < 5 → -1000 ≤ need.getD v 0 ∧ need.getD v 0 ≤ 1000
  fb : ∀ k, k < 8 → -(rooms.getD k 0) ≤ fl.getD k 0 ∧ fl.getD k 0 ≤ rooms.getD k 0
  co : ∀ v, v < 5 → outF fl (v : Nat) = need0.getD v 0 - need.getD v 0
  su : need.getD 0 0 + need.getD 1 0 + need.getD 2 0 + need.getD 3 0 + need.getD 4 0 = 0
def Leads : Int → Way → Int → Prop
  | s, [], v => s = v
  | s, (k, sg) :: r, v => k < 8 ∧ ((sg = 1 ∧ PA k = s ∧ Leads (PB k) r v) ∨ (sg = -1 ∧ PB k = s ∧ Leads (PA k) r v))
theorem Leads.snoc {k : Nat} {sg far u : Int} (hk : k < 8) (hx : (sg = 1 ∧ PA k = u ∧ far = PB k) ∨ (sg = -1 ∧ PB k = u ∧ far = PA k)) : ∀ {s : Int} {way : Way}, Leads s way u → Leads s (way ++ [(k, sg)]) far
  | s, [], h => by
    have e : s = u := h
    subst e
    refine ⟨hk, ?_⟩
    rcases hx with ⟨a, b, c⟩ | ⟨a, b, c⟩
    · exact .inl ⟨a, b, c.symm⟩
    · exact .inr ⟨a, b, c.symm⟩
  | s, (j, t) :: r, h => by
    obtain ⟨hj, h⟩ := h
    refine ⟨hj, ?_⟩
    rcases h with ⟨a, b, c⟩ | ⟨a, b, c⟩
    · exact .inl ⟨a, b, Leads.snoc hk hx c⟩
    · exact .inr ⟨a, b, Leads.snoc hk hx c⟩
structure BI (rooms fl : List Int) (start : Int) (ws : List (Int × Way)) : Prop where
  nd : (ws.map (·.1)).Nodup
  rng : ∀ p ∈ ws, 0 ≤ p.1 ∧ p.1 < 5
  leads : ∀ p ∈ ws, Leads start p.2 p.1
  cap : ∀ p ∈ ws, ∀ e ∈ p.2, e.2 * fl.getD e.1 0 < rooms.getD e.1 0
  ends : ∀ p ∈ ws, ∀ e ∈ p.2, PA e.1 ∈ ws.map (·.1) ∧ PB e.1 ∈ ws.map (·.1)
  once : ∀ p ∈ ws, (p.2.map (·.1)).Nodup
  len : ∀ p ∈ ws, p.2.length < ws.length
  sg : ∀ p ∈ ws, ∀ e ∈ p.2, e.2 = 1 ∨ e.2 = -1
  fst : start ∈ ws.map (·.1)
def Dn (rooms fl : List Int) (ws : List (Int × Way)) (x : Nat × Int × Int) : Prop := x.2.1 ∈ ws.map (·.1) ∨ ¬ x.2.2 * fl.getD x.1 0 < rooms.getD x.1 0
/-- the exits looked at: all of the places before i, the first j of place i -/
def Seen (rooms fl : List Int) (ws : List (Int × Way)) (i j : Nat) : Prop :=
  (∀ a, a < i → ∀ p, ws[a]? = some p → ∀ x ∈ exOf 8 p.1.toNat, Dn rooms fl ws x) ∧ ∀ p, ws[i]? = some p → ∀ b, b < j → ∀ x, (exOf 8 p.1.toNat)[b]? = some x → Dn rooms fl ws x
theorem BI.start {rooms fl : List Int} {st : Int} (h : 0 ≤ st ∧ st < 5) : BI rooms fl st [(st, [])] := by
  refine ⟨by simp, ?_, ?_, ?_, ?_, ?_, ?_, ?_, by simp⟩
  · intro p hp; rw [List.mem_singleton.mp hp]; exact h
  · intro p hp; rw [List.mem_singleton.mp hp]; rfl
  · intro p hp; rw [List.mem_singleton.mp hp]; intro e he; cases he
  · intro p hp; rw [List.mem_singleton.mp hp]; intro e he; cases he
  · intro p hp; rw [List.mem_singleton.mp hp]; exact List.nodup_nil
  · intro p hp; rw [List.mem_singleton.mp hp]; exact Nat.zero_lt_one
  · intro p hp; rw [List.mem_singleton.mp hp]; intro e he; cases he
theorem BI.add {rooms fl : List Int} {st : Int} {ws : List (Int × Way)} (B : BI rooms fl st ws) {u : Int} {way : Way} (hu : (u, way) ∈ ws) {x : Nat × Int × Int} (hx : x ∈ exOf 8 u.toNat) (hf : x.2.1 ∉ ws.map (·.1)) (hc : x.2.2 * fl.getD x.1 0 < rooms.getD x.1 0) :
    BI rooms fl st (ws ++ [(x.2.1, way ++ [(x.1, x.2.2)])]) := by
  obtain ⟨k, far, sg⟩ := x
  dsimp only at *
  obtain ⟨hk, hx⟩ := mem_exOf.mp hx
  dsimp only at hk hx
  have hur := B.rng _ hu
  have hun : ((u.toNat : Nat) : Int) = u := Int.toNat_of_nonneg hur.1
  rw [hun] at hx
  have hum : u ∈ ws.map (·.1) := List.mem_map_of_mem (f := (·.1)) hu
  have hfar : 0 ≤ far ∧ far < 5 := by
    rcases hx with ⟨_, h, _⟩ | ⟨_, h, _⟩
    · rw [h]; exact PB_lo k hk
    · rw [h]; exact PA_lo k hk
  have hmap : (ws ++ [(far, way ++ [(k, sg)])]).map (·.1) = ws.map (·.1) ++ [far] := by simp
  have mono : ∀ a, a ∈ ws.map (·.1) → a ∈ (ws ++ [(far, way ++ [(k, sg)])]).map (·.1) := fun a h => by rw [hmap]; exact List.mem_append_left _ h
  have hsg : sg = 1 ∨ sg = -1 := hx.elim (fun h => .inl h.2.2) fun h => .inr h.2.2
  have hkn : k ∉ way.map (·.1) := by
    intro h
    obtain ⟨e, he, hek⟩ := List.mem_map.mp h
    have := B.ends _ hu e he
    rw [hek] at this
    rcases hx with ⟨_, h, _⟩ | ⟨_, h, _⟩
    · exact hf (h ▸ this.2)
    · exact hf (h ▸ this.1)
  refine ⟨?_, ?_, ?_, ?_, ?_, ?_, ?_, ?_, mono _ B.fst⟩
  · rw [hmap]
    refine List.nodup_append.mpr ⟨B.nd, by simp, ?_⟩
    intro a ha b hb e
    rw [List.mem_singleton.mp hb] at e
    exact hf (e ▸ ha)
  all_goals
    intro p hp
    rcases List.mem_append.mp hp with hp | hp
  · exact B.rng p hp
  · rw [List.mem_singleton.mp hp]; exact hfar
  · exact B.leads p hp
  · rw [List.mem_singleton.mp hp]
    refine Leads.snoc hk ?_ (B.leads _ hu)
    rcases hx with ⟨a, b, c⟩ | ⟨a, b, c⟩
    · exact .inl ⟨c, a, b⟩
    · exact .inr ⟨c, a, b⟩
  · exact B.cap p hp
  · rw [List.mem_singleton.mp hp]
    intro e he
    rcases List.mem_append.mp he with h | h
    · exact B.cap _ hu e h
    · rw [List.mem_singleton.mp h]; exact hc
  · exact fun e he => ⟨mono _ (B.ends p hp e he).1, mono _ (B.ends p hp e he).2⟩
  · rw [List.mem_singleton.mp hp]
    intro e he
    rcases List.mem_append.mp he with h | h
    · exact ⟨mono _ (B.ends _ hu e h).1, mono _ (B.ends _ hu e h).2⟩
    · rw [List.mem_singleton.mp h]
      have hl : far ∈ (ws ++ [(far, way ++ [(k, sg)])]).map (·.1) := by rw [hmap]; exact List.mem_append_right _ (.head _)
      rcases hx with ⟨a, b, c⟩ | ⟨a, b, c⟩
      · exact ⟨by rw [a]; exact mono _ hum, by rw [← b]; exact hl⟩
      · exact ⟨by rw [← b]; exact hl, by rw [a]; exact mono _ hum⟩
  · exact B.once p hp
  · rw [List.mem_singleton.mp hp]
    show ((way ++ [(k, sg)]).map (·.1)).Nodup
    rw [List.map_append]
    refine List.nodup_append.mpr ⟨B.once _ hu, by simp, ?_⟩
    intro a ha b hb e
    have hb' : b = k := List.mem_singleton.mp hb
    rw [hb'] at e
    exact hkn (e ▸ ha)
  · rw [List.length_append]; exact Nat.lt_of_lt_of_le (B.len p hp) (Nat.le_add_right _ _)
  · rw [List.mem_singleton.mp hp]
    have := B.len _ hu
    dsimp only at this ⊢
    rw [List.length_append, List.length_append, List.length_singleton, List.length_singleton]
    exact Nat.succ_lt_succ this
  · exact B.sg p hp
  · rw [List.mem_singleton.mp hp]
    intro e he
    rcases List.mem_append.mp he with h | h
    · exact B.sg _ hu e h
    · rw [List.mem_singleton.mp h]; exact hsg
theorem nodup_five : ∀ (n : Nat) (l : List Int), l.Nodup → (∀ a ∈ l, 0 ≤ a ∧ a < n) → l.length ≤ n
  | 0, [], _, _ => Nat.le_refl _
  | 0, a :: l, _, h => by have := h a (.head _); omega
  | n + 1, l, hn, h => by
    have ih := nodup_five n (l.filter (fun a => a != (n : Int))) (hn.filter _) (fun a ha => by
      obtain ⟨h1, h2⟩ := List.mem_filter.mp ha
      have := h a h1
      have : a ≠ (n : Int) := by simpa using h2
      omega)
    have : ∀ l : List Int, l.Nodup → l.length ≤ (l.filter (fun a => a != (n : Int))).length + 1 := by
      intro l
      induction l with
      | nil => intro _; exact Nat.zero_le _
      | cons a l ih =>
        intro hd
        have hd' := List.nodup_cons.mp hd
        by_cases e : a = (n : Int)
        · have : l.filter (fun a => a != (n : Int)) = l := List.filter_eq_self.mpr fun b hb => by
            have : b ≠ (n : Int) := fun q => hd'.1 (by rw [e, ← q]; exact hb)
            simpa using this
          rw [List.filter_cons_of_neg (by simp [e]), this, List.length_cons]
          exact Nat.le_refl _
        · rw [List.filter_cons_of_pos (by simpa using e), List.length_cons, List.length_cons]
          exact Nat.succ_le_succ (ih hd'.2)
    have := this l hn
    omega
theorem BI.le5 {rooms fl : List Int} {st : Int} {ws : List (Int × Way)} (B : BI rooms fl st ws) : ws.length ≤ 5 := by
  have := nodup_five 5 (ws.map (·.1)) B.nd (fun a ha => by
    obtain ⟨p, hp, rfl⟩ := List.mem_map.mp ha
    exact B.rng p hp)
  simpa using this
theorem Dn.mono {rooms fl : List Int} {ws ws' : List (Int × Way)} {x : Nat × Int × Int} (h : Dn rooms fl ws x) (hs : ∀ p ∈ ws, p ∈ ws') : Dn rooms fl ws' x := by
  rcases h with h | h
  · obtain ⟨p, hp, e⟩ := List.mem_map.mp h
    exact .inl (e ▸ List.mem_map_of_mem (f := (·.1)) (hs p hp))
  · exact .inr h
/-- an exit more looked at, the list as it stood -/
theorem Seen.skip {rooms fl : List Int} {ws : List (Int × Way)} {i j : Nat} (h : Seen rooms fl ws i j) {p : Int × Way} (hp : ws[i]? = some p) {x : Nat × Int × Int} (hx : (exOf 8 p.1.toNat)[j]? = some x) (hd : Dn rooms fl ws x) : Seen rooms fl ws i (j + 1) := by
  refine ⟨h.1, fun p' hp' b hb y hy => ?_⟩
  rw [hp] at hp'
  cases hp'
  by_cases e : b = j
  · subst e; rw [hx] at hy; cases hy; exact hd
  · exact h.2 p hp b (by omega) y hy
theorem Seen.add {rooms fl : List Int} {ws : List (Int × Way)} {i j : Nat} (h : Seen rooms fl ws i j) {p : Int × Way} (hp : ws[i]? = some p) {x : Nat × Int × Int} (hx : (exOf 8 p.1.toNat)[j]? = some x) (q : Way) : Seen rooms fl (ws ++ [(x.2.1, q)]) i (j + 1) := by
  have hi : i < ws.length := (List.getElem?_eq_some_iff.mp hp).1
  have hs : ∀ p ∈ ws, p ∈ ws ++ [(x.2.1, q)] := fun p hp => List.mem_append_left _ hp
  refine ⟨fun a ha p' hp' y hy => ?_, fun p' hp' b hb y hy => ?_⟩
  · rw [List.getElem?_append_left (by omega)] at hp'
    exact (h.1 a ha p' hp' y hy).mono hs
  · rw [List.getElem?_append_left hi, hp] at hp'
    cases hp'
    by_cases e : b = j
    · subst e; rw [hx] at hy; cases hy
      exact .inl (by simp)
    · exact (h.2 p hp b (by omega) y hy).mono hs
theorem Seen.next {rooms fl : List Int} {ws : List (Int × Way)} {i j : Nat} (h : Seen rooms fl ws i j) {p : Int × Way} (hp : ws[i]? = some p) (hj : (exOf 8 p.1.toNat).length ≤ j) : Seen rooms fl ws (i + 1) 0 := by
  refine ⟨fun a ha p' hp' y hy => ?_, fun p' hp' b hb => absurd hb (Nat.not_lt_zero _)⟩
  by_cases e : a = i
  · subst e
    rw [hp] at hp'; cases hp'
    obtain ⟨b, hb⟩ := List.getElem?_of_mem hy
    exact h.2 p hp b (Nat.lt_of_lt_of_le (List.getElem?_eq_some_iff.mp hb).1 hj) y hb
  · exact h.1 a (by omega) p' hp' y hy
theorem Seen.zero {rooms fl : List Int} {ws : List (Int × Way)} : Seen rooms fl ws 0 0 := ⟨fun a ha => absurd ha (Nat.not_lt_zero _), fun _ _ b hb => absurd hb (Nat.not_lt_zero _)⟩
/-- a sum over the first n places -/
def SumF (n : Nat) (f : Nat → Int) : Int := ((List.range n).map f).sum
theorem SumF.succ (n : Nat) (f : Nat → Int) : SumF (n + 1) f = SumF n f + f n := by
  unfold SumF
  rw [List.range_succ, List.map_append, List.sum_append, List.map_cons, List.map_nil, List.sum_cons, List.sum_nil, Int.add_zero]
theorem SumF.congr {f g : Nat → Int} : ∀ (n : Nat), (∀ k, k < n → f k = g k) → SumF n f = SumF n g
  | 0, _ => rfl
  | n + 1, h => by rw [SumF.succ, SumF.succ, SumF.congr n fun k hk => h k (Nat.lt_succ_of_lt hk), h n (Nat.lt_succ_self n)]
theorem SumF.le {f g : Nat → Int} : ∀ (n : Nat), (∀ k, k < n → f k ≤ g k) → SumF n f ≤ SumF n g
  | 0, _ => Int.le_refl _
  | n + 1, h => by
    rw [SumF.succ, SumF.succ]
    exact Int.add_le_add (SumF.le n fun k hk => h k (Nat.lt_succ_of_lt hk)) (h n (Nat.lt_succ_self n))
theorem SumF.zero : ∀ (n : Nat), SumF n (fun _ => 0) = 0
  | 0 => rfl
  | n + 1 => by rw [SumF.succ, SumF.zero n]; rfl
theorem SumF.lt {f g : Nat → Int} {j : Nat} (hl : f j < g j) : ∀ (n : Nat), (∀ k, k < n → f k ≤ g k) → j < n → SumF n f < SumF n g
  | 0, _, q => absurd q (Nat.not_lt_zero _)
  | n + 1, h, q => by
    rw [SumF.succ, SumF.succ]
    rcases Nat.lt_succ_iff_lt_or_eq.mp q with q | q
    · exact Int.add_lt_add_of_lt_of_le (SumF.lt hl n (fun k hk => h k (Nat.lt_succ_of_lt hk)) q) (h n (Nat.lt_succ_self n))
    · subst q; exact Int.add_lt_add_of_le_of_lt (SumF.le j fun k hk => h k (Nat.lt_succ_of_lt hk)) hl
theorem SumF.add (f g : Nat → Int) : ∀ (n : Nat), SumF n (fun k => f k + g k) = SumF n f + SumF n g
  | 0 => rfl
  | n + 1 => by rw [SumF.succ, SumF.succ, SumF.succ, SumF.add f g n]; simp only [Int.add_assoc, Int.add_left_comm]
theorem SumF.neg (f : Nat → Int) : ∀ (n : Nat), SumF n (fun k => - f k) = - SumF n f
  | 0 => rfl
  | n + 1 => by rw [SumF.succ, SumF.succ, SumF.neg f n, Int.neg_add]
theorem SumF.swap (m : Nat) (a : Nat → Nat → Int) : ∀ (n : Nat), SumF n (fun v => SumF m (a v)) = SumF m (fun k => SumF n fun v => a v k)
  | 0 => (SumF.zero m).symm
  | n + 1 => by
    rw [SumF.succ, SumF.swap m a n, ← SumF.add]
    exact SumF.congr m fun k _ => (SumF.succ n _).symm
theorem SumF.one (x : Nat → Int) (j : Nat) : ∀ (n : Nat), SumF n (fun v => if j = v then x v else 0) = if j < n then x j else 0
  | 0 => rfl
  | n + 1 => by
    rw [SumF.succ, SumF.one x j n]
    by_cases h : j = n
    · subst h; rw [if_neg (Nat.lt_irrefl j), if_pos rfl, if_pos (Nat.lt_succ_self j), Int.zero_add]
    · rw [if_neg h, Int.add_zero]
      by_cases q : j < n
      · rw [if_pos q, if_pos (Nat.lt_succ_of_lt q)]
      · rw [if_neg q, if_neg fun z => (Nat.lt_succ_iff_lt_or_eq.mp z).elim q h]
/-- one term more -/
theorem SumF.bump {f g : Nat → Int} {k : Nat} {d : Int} (n : Nat) (hk : k < n) (hg : ∀ j, j < n → g j = f j + (if k = j then d else 0)) : SumF n g = SumF n f + d := by
  rw [SumF.congr n hg, SumF.add, SumF.one (fun _ => d), if_pos hk]
theorem five (f : Nat → Int) : SumF 5 f = f 0 + f 1 + f 2 + f 3 + f 4 := by
  rw [SumF.succ, SumF.succ, SumF.succ, SumF.succ, SumF.succ]
  show 0 + f 0 + f 1 + f 2 + f 3 + f 4 = _
  rw [Int.zero_add]
theorem outF_at (fl : List Int) : outF fl 0 = fl.getD 0 0 - fl.getD 3 0 + fl.getD 4 0 ∧ outF fl 1 = fl.getD 2 0 - fl.getD 1 0 + fl.getD 5 0 ∧ outF fl 2 = fl.getD 1 0 - fl.getD 0 0 + fl.getD 6 0 ∧ outF fl 3 = fl.getD 3 0 - fl.getD 2 0 + fl.getD 7 0 ∧ outF fl 4 = - fl.getD 4 0 - fl.getD 5 0 - fl.getD 6 0 - fl.getD 7 0 := by
  have e (v : Int) : outF fl v = ((if PA 0 = v then fl.getD 0 0 else 0) - (if PB 0 = v then fl.getD 0 0 else 0)) + (((if PA 1 = v then fl.getD 1 0 else 0) - (if PB 1 = v then fl.getD 1 0 else 0)) + (((if PA 2 = v then fl.getD 2 0 else 0) - (if PB 2 = v then fl.getD 2 0 else 0)) + (((if PA 3 = v then fl.getD 3 0 else 0) - (if PB 3 = v then fl.getD 3 0 else 0)) + (((if PA 4 = v then fl.getD 4 0 else 0) - (if PB 4 = v then fl.getD 4 0 else 0)) + (((if PA 5 = v then fl.getD 5 0 else 0) - (if PB 5 = v then fl.getD 5 0 else 0)) + (((if PA 6 = v then fl.getD 6 0 else 0) - (if PB 6 = v then fl.getD 6 0 else 0)) + (((if PA 7 = v then fl.getD 7 0 else 0) - (if PB 7 = v then fl.getD 7 0 else 0)) + 0))))))) := rfl
  rw [e, e, e, e, e]
  generalize fl.getD 0 0 = f0; generalize fl.getD 1 0 = f1; generalize fl.getD 2 0 = f2; generalize fl.getD 3 0 = f3; generalize fl.getD 4 0 = f4; generalize fl.getD 5 0 = f5; generalize fl.getD 6 0 = f6; generalize fl.getD 7 0 = f7
  refine ⟨?_, ?_, ?_, ?_, ?_⟩
  · show (f0 - 0) + ((0 - 0) + ((0 - 0) + ((0 - f3) + ((f4 - 0) + ((0 - 0) + ((0 - 0) + ((0 - 0) + 0))))))) = _; omega
  · show (0 - 0) + ((0 - f1) + ((f2 - 0) + ((0 - 0) + ((0 - 0) + ((f5 - 0) + ((0 - 0) + ((0 - 0) + 0))))))) = _; omega
  · show (0 - f0) + ((f1 - 0) + ((0 - 0) + ((0 - 0) + ((0 - 0) + ((0 - 0) + ((f6 - 0) + ((0 - 0) + 0))))))) = _; omega
  · show (0 - 0) + ((0 - 0) + ((0 - f2) + ((f3 - 0) + ((0 - 0) + ((0 - 0) + ((0 - 0) + ((f7 - 0) + 0))))))) = _; omega
  · show (0 - 0) + ((0 - 0) + ((0 - 0) + ((0 - 0) + ((0 - f4) + ((0 - f5) + ((0 - f6) + ((0 - f7) + 0))))))) = _; omega
/-- a units more along a way -/
def pushF : List Int → Way → Int → List Int
  | fl, [], _ => fl
  | fl, (k, sg) :: r, a => pushF (fl.set k (fl.getD k 0 + sg * a)) r a
theorem pushF_snoc : ∀ (fl : List Int) (way : Way) (k : Nat) (sg a : Int), pushF fl (way ++ [(k, sg)]) a = (pushF fl way a).set k ((pushF fl way a).getD k 0 + sg * a)
  | fl, [], k, sg, a => rfl
  | fl, (j, t) :: r, k, sg, a => pushF_snoc (fl.set j (fl.getD j 0 + t * a)) r k sg a
theorem pushF_len : ∀ (fl : List Int) (way : Way) (a : Int), (pushF fl way a).length = fl.length
  | fl, [], a => rfl
  | fl, (j, t) :: r, a => by rw [pushF, pushF_len, List.length_set]
theorem getD_set {l : List Int} {k j : Nat} {x : Int} (h : k < l.length) : (l.set k x).getD j 0 = if j = k then x else l.getD j 0 := by
  by_cases e : j = k
  · subst e
    rw [if_pos rfl, List.getD_eq_getElem?_getD, List.getElem?_set_self h]; rfl
  · rw [if_neg e, List.getD_eq_getElem?_getD, List.getElem?_set_ne (fun q => e q.symm), List.getD_eq_getElem?_getD]
theorem pushF_off : ∀ (fl : List Int) (way : Way) (a : Int) (j : Nat), (∀ e ∈ way, e.1 < fl.length) → j ∉ way.map (·.1) → (pushF fl way a).getD j 0 = fl.getD j 0
  | fl, [], a, j, _, _ => rfl
  | fl, (k, t) :: r, a, j, hl, h => by
    rw [List.map_cons, List.mem_cons, not_or] at h
    have hk := hl (k, t) (.head _)
    rw [pushF, pushF_off _ r a j (fun e he => by rw [List.length_set]; exact hl e (.tail _ he)) h.2, getD_set hk, if_neg h.1]
theorem pushF_at : ∀ (fl : List Int) (way : Way) (a : Int), (∀ e ∈ way, e.1 < fl.length) → (way.map (·.1)).Nodup → ∀ e ∈ way, (pushF fl way a).getD e.1 0 = fl.getD e.1 0 + e.2 * a
  | fl, [], a, _, _, e, he => by cases he
  | fl, (k, t) :: r, a, hl, hn, e, he => by
    rw [List.map_cons, List.nodup_cons] at hn
    have hk := hl (k, t) (.head _)
    have hl' : ∀ e ∈ r, e.1 < (fl.set k (fl.getD k 0 + t * a)).length := fun e he => by rw [List.length_set]; exact hl e (.tail _ he)
    rcases List.mem_cons.mp he with rfl | he
    · rw [pushF, pushF_off _ r a _ hl' hn.1, getD_set hk, if_pos rfl]
    · rw [pushF, pushF_at _ r a hl' hn.2 e he, getD_set hk, if_neg]
      intro q
      exact hn.1 (q ▸ List.mem_map_of_mem (f := (·.1)) he)
theorem outF_set {fl : List Int} (hl : fl.length = 8) {k : Nat} (hk : k < 8) (d : Int) (v : Nat) (hv : v < 5) : outF (fl.set k (fl.getD k 0 + d)) v = outF fl v + (if PA k = v then d else 0) - (if PB k = v then d else 0) := by
  have g : ∀ j, (fl.set k (fl.getD k 0 + d)).getD j 0 = if j = k then fl.getD k 0 + d else fl.getD j 0 := fun j => getD_set (by rw [hl]; exact hk)
  rw [Int.add_sub_assoc]
  refine SumF.bump 8 hk fun j _ => ?_
  rw [g]
  by_cases h : j = k
  · subst h
    rw [if_pos rfl, if_pos rfl]
    by_cases a : PA j = v <;> by_cases b : PB j = v <;> simp only [a, b, if_true, if_false] <;> omega
  · have h' : ¬ k = j := fun q => h q.symm
    simp only [if_neg h, if_neg h', Int.add_zero]
theorem Leads.lt : ∀ {s : Int} {way : Way} {v : Int}, Leads s way v → ∀ e ∈ way, e.1 < 8
  | _, [], _, _, e, he => by cases he
  | s, (k, t) :: r, v, h, e, he => by
    rcases List.mem_cons.mp he with rfl | he
    · exact h.1
    · rcases h.2 with h | h
      · exact h.2.2.lt e he
      · exact h.2.2.lt e he
theorem outF_push : ∀ {way : Way} {fl : List Int} {s u : Int} (a : Int) (_ : fl.length = 8) (_ : Leads s way u) (v : Nat) (_ : v < 5), outF (pushF fl way a) v = outF fl v + (if s = v then a else 0) - (if u = v then a else 0)
  | [], fl, s, u, a, hl, h, v, hv => by
    have e : s = u := h
    subst e
    rw [pushF]; omega
  | (k, t) :: r, fl, s, u, a, hl, h, v, hv => by
    obtain ⟨hk, h⟩ := h
    rw [pushF]
    rcases h with ⟨ht, hs, h⟩ | ⟨ht, hs, h⟩
    · rw [outF_push a (by rw [List.length_set]; exact hl) h v hv, outF_set hl hk _ v hv, ht, hs, Int.one_mul]
      omega
    · rw [outF_push a (by rw [List.length_set]; exact hl) h v hv, outF_set hl hk _ v hv, ht, hs]
      by_cases e1 : PA k = (v : Int) <;> by_cases e2 : s = (v : Int) <;> simp only [e1, e2, if_true, if_false] <;> omega
def posN (need : List Int) : Nat := (need.getD 0 0).toNat + (need.getD 1 0).toNat + (need.getD 2 0).toNat + (need.getD 3 0).toNat + (need.getD 4 0).toNat
theorem push {rooms need0 need fl : List Int} {st go a : Int} {ws : List (Int × Way)} {way : Way} (I : FI rooms need0 need fl) (B : BI rooms fl st ws) (hg : (go, way) ∈ ws) (ha : 0 < a) (h1 : a ≤ need.getD st.toNat 0) (h2 : a ≤ -(need.getD go.toNat 0)) (h3 : ∀ e ∈ way, a ≤ rooms.getD e.1 0 - e.2 * fl.getD e.1 0)
    (need' : List Int) (hn : need' = ((need.set st.toNat (need.getD st.toNat 0 - a)).set go.toNat ((need.set st.toNat (need.getD st.toNat 0 - a)).getD go.toNat 0 + a))) : FI rooms need0 need' (pushF fl way a) ∧ posN need' < posN need := by
  have hL := B.leads _ hg
  have hgo := B.rng _ hg
  have hst : 0 ≤ st ∧ st < 5 := by
    obtain ⟨p, hp, e⟩ := List.mem_map.mp B.fst
    exact e ▸ B.rng p hp
  obtain ⟨s, rfl⟩ : ∃ n : Nat, st = n := ⟨st.toNat, by omega⟩
  obtain ⟨g, rfl⟩ : ∃ n : Nat, go = n := ⟨go.toNat, by dsimp only at hgo; omega⟩
  dsimp only at hgo
  simp only [Int.toNat_natCast] at *
  have hs5 : s < 5 := by omega
  have hg5 : g < 5 := by omega
  have ls : s < need.length := by rw [I.ln]; omega
  have lg : g < (need.set s (need.getD s 0 - a)).length := by rw [List.length_set, I.ln]; omega
  have hne : s ≠ g := fun e => by subst e; omega
  have hget : ∀ v, need'.getD v 0 = need.getD v 0 - (if s = v then a else 0) + (if g = v then a else 0) := by
    intro v
    rw [hn, getD_set lg, getD_set ls, getD_set ls]
    by_cases e1 : v = g
    · subst e1
      rw [if_pos rfl, if_neg (fun q => hne q.symm), if_neg hne, if_pos rfl]; omega
    · rw [if_neg e1]
      have e1' : ¬ g = v := fun q => e1 q.symm
      by_cases e2 : v = s
      · subst e2; rw [if_pos rfl, if_pos rfl, if_neg e1']; omega
      · have e2' : ¬ s = v := fun q => e2 q.symm
        rw [if_neg e2, if_neg e1', if_neg e2']; omega
  have hw8 : ∀ e ∈ way, e.1 < fl.length := fun e he => by rw [I.lf]; exact hL.lt e he
  refine ⟨⟨by rw [hn, List.length_set, List.length_set]; exact I.ln, by rw [pushF_len]; exact I.lf, ?_, ?_, ?_, ?_⟩, ?_⟩
  · intro v hv
    have hb := I.nb v hv
    rw [hget]
    by_cases e1 : s = v
    · subst e1
      rw [if_pos rfl, if_neg (fun q => hne q.symm)]; omega
    · rw [if_neg e1]
      by_cases e2 : g = v
      · subst e2; rw [if_pos rfl]; omega
      · rw [if_neg e2]; omega
  · intro k hk
    have hb := I.fb k hk
    by_cases e : k ∈ way.map (·.1)
    · obtain ⟨x, hx, rfl⟩ := List.mem_map.mp e
      rw [pushF_at fl way a hw8 (B.once _ hg) x hx]
      have h3' := h3 x hx
      rcases B.sg _ hg x hx with q | q <;> rw [q] at h3' ⊢ <;> omega
    · rw [pushF_off fl way a k hw8 e]; exact hb
  · intro v hv
    rw [outF_push a I.lf hL v hv, I.co v hv, hget]
    by_cases e1 : s = v
    · subst e1
      have q1 : ¬ ((g : Int) = (s : Int)) := by omega
      have q2 : ¬ g = s := fun q => hne q.symm
      rw [if_pos rfl, if_pos rfl, if_neg q1, if_neg q2]; omega
    · have q1 : ¬ ((s : Int) = (v : Int)) := by omega
      rw [if_neg e1, if_neg q1]
      by_cases e2 : g = v
      · subst e2; rw [if_pos rfl, if_pos rfl]; omega
      · have q2 : ¬ ((g : Int) = (v : Int)) := by omega
        rw [if_neg e2, if_neg q2]; omega
  · have su := I.su
    rw [← five fun v => need.getD v 0] at su
    rw [← five fun v => need'.getD v 0, SumF.congr 5 (g := fun v => (need.getD v 0 + (if s = v then -a else 0)) + (if g = v then a else 0)) fun v _ => ?_, SumF.add, SumF.add, SumF.one (fun _ => -a), SumF.one (fun _ => a), if_pos hs5, if_pos hg5, su]
    · rw [Int.zero_add, Int.add_left_neg]
    · rw [hget]; by_cases e1 : s = v
      · rw [if_pos e1, if_pos e1]; rfl
      · rw [if_neg e1, if_neg e1]; rfl
  · have le : ∀ v, v < 5 → (need'.getD v 0).toNat ≤ (need.getD v 0).toNat := fun v _ => by
      rw [hget]
      by_cases e1 : s = v
      · rw [if_pos e1, if_neg fun q => hne (e1.trans q.symm)]; omega
      · rw [if_neg e1]
        by_cases e2 : g = v
        · subst e2; rw [if_pos rfl]; omega
        · rw [if_neg e2]; omega
    have lt : (need'.getD s 0).toNat < (need.getD s 0).toNat := by
      rw [hget, if_pos rfl, if_neg fun q => hne q.symm]; omega
    have e : ∀ l : List Int, (posN l : Int) = SumF 5 fun v => ((l.getD v 0).toNat : Int) := fun l => by
      rw [five]; unfold posN; simp only [Int.natCast_add]
    refine Int.ofNat_lt.mp ?_
    rw [e, e]
    exact SumF.lt (f := fun v => ((need'.getD v 0).toNat : Int)) (g := fun v => ((need.getD v 0).toNat : Int)) (Int.ofNat_lt.mpr lt) 5 (fun k hk => Int.ofNat_le.mpr (le k hk)) hs5
theorem flow_done {rooms need0 need fl : List Int} (I : FI rooms need0 need fl) (h : ∀ v, v < 5 → need.getD v 0 ≤ 0) : ∀ v, v < 5 → outF fl (v : Nat) = need0.getD v 0 := by
  intro v hv
  have su := I.su
  have h0 := h 0 (by decide); have h1 := h 1 (by decide); have h2 := h 2 (by decide); have h3 := h 3 (by decide); have h4 := h 4 (by decide)
  rw [I.co v hv]
  have : v = 0 ∨ v = 1 ∨ v = 2 ∨ v = 3 ∨ v = 4 := lt5 _ (by omega)
  rcases this with rfl | rfl | rfl | rfl | rfl <;> omega
/-- how much may leave a set of places -/
def cutB (rooms : List Int) (inn : Int → Bool) : Int := ((List.range 8).map fun k => if inn (PA k) = inn (PB k) then 0 else rooms.getD k 0).sum
def needB (need : List Int) (inn : Int → Bool) : Int := ((List.range 5).map fun v => if inn (v : Nat) = true then need.getD v 0 else 0).sum
theorem stuck {rooms need0 need fl : List Int} {st : Int} {ws : List (Int × Way)} (I : FI rooms need0 need fl) (B : BI rooms fl st ws) (S : Seen rooms fl ws ws.length 0) (h0 : ∀ p ∈ ws, 0 ≤ need.getD p.1.toNat 0) (hs : 0 < need.getD st.toNat 0)
    (cut : ∀ inn, needB need0 inn ≤ cutB rooms inn) : False := by
  let inn : Int → Bool := fun v => decide (v ∈ ws.map (·.1))
  have c := cut inn
  have inT : ∀ v, inn v = true → 0 ≤ need.getD v.toNat 0 := fun v hv => by
    obtain ⟨p, hp, e⟩ := List.mem_map.mp (of_decide_eq_true hv)
    exact e ▸ h0 p hp
  have hstr : 0 ≤ st ∧ st < 5 := by
    obtain ⟨p, hp, e⟩ := List.mem_map.mp B.fst
    exact e ▸ B.rng p hp
  have hst : inn st = true := decide_eq_true B.fst
  have ex : ∀ v, inn v = true → ∀ x ∈ exOf 8 v.toNat, inn x.2.1 = true ∨ ¬ x.2.2 * fl.getD x.1 0 < rooms.getD x.1 0 := fun v hv x hx => by
    obtain ⟨p, hp, e⟩ := List.mem_map.mp (of_decide_eq_true hv)
    obtain ⟨a, ha⟩ := List.getElem?_of_mem hp
    rcases S.1 a (List.getElem?_eq_some_iff.mp ha).1 p ha x (by rw [e]; exact hx) with h | h
    · exact .inl (decide_eq_true h)
    · exact .inr h
  have fA : ∀ k, k < 8 → inn (PA k) = true → inn (PB k) = false → rooms.getD k 0 ≤ fl.getD k 0 := fun k hk ha hb => by
    have r := PA_lo k hk
    rcases ex (PA k) ha (k, PB k, 1) (mem_exOf.mpr ⟨hk, .inl ⟨(Int.toNat_of_nonneg r.1).symm, rfl, rfl⟩⟩) with h | h
    · dsimp only at h; rw [hb] at h; cases h
    · dsimp only at h; omega
  have fB : ∀ k, k < 8 → inn (PA k) = false → inn (PB k) = true → rooms.getD k 0 ≤ - fl.getD k 0 := fun k hk ha hb => by
    have r := PB_lo k hk
    rcases ex (PB k) hb (k, PA k, -1) (mem_exOf.mpr ⟨hk, .inr ⟨(Int.toNat_of_nonneg r.1).symm, rfl, rfl⟩⟩) with h | h
    · dsimp only at h; rw [ha] at h; cases h
    · dsimp only at h; omega
  clear ex
  have cA : ∀ k, k < 8 → ∃ n : Nat, n < 5 ∧ PA k = (n : Int) := fun k hk => ⟨(PA k).toNat, by have := PA_lo k hk; omega, (Int.toNat_of_nonneg (PA_lo k hk).1).symm⟩
  have cB : ∀ k, k < 8 → ∃ n : Nat, n < 5 ∧ PB k = (n : Int) := fun k hk => ⟨(PB k).toNat, by have := PB_lo k hk; omega, (Int.toNat_of_nonneg (PB_lo k hk).1).symm⟩
  -- what leaves the places met, road by road
  have e1 : needB need0 inn = needB need inn + SumF 5 fun v => SumF 8 fun k => if inn (v : Nat) = true then (if PA k = (v : Nat) then fl.getD k 0 else 0) - (if PB k = (v : Nat) then fl.getD k 0 else 0) else 0 := by
    show SumF 5 _ = SumF 5 _ + _
    rw [← SumF.add]
    refine SumF.congr 5 fun v hv => ?_
    by_cases h : inn (v : Nat) = true
    · rw [if_pos h, if_pos h]
      have q := I.co v hv
      have q2 : outF fl (v : Nat) = SumF 8 fun k => if inn (v : Nat) = true then (if PA k = (v : Nat) then fl.getD k 0 else 0) - (if PB k = (v : Nat) then fl.getD k 0 else 0) else 0 := SumF.congr 8 fun k _ => (if_pos h).symm
      rw [← q2]; omega
    · rw [if_neg h, if_neg h, SumF.congr 8 (g := fun _ => 0) fun k _ => if_neg h, SumF.zero]; rfl
  rw [e1, SumF.swap] at c
  have e2 : cutB rooms inn ≤ SumF 8 fun k => SumF 5 fun v => if inn (v : Nat) = true then (if PA k = (v : Nat) then fl.getD k 0 else 0) - (if PB k = (v : Nat) then fl.getD k 0 else 0) else 0 := by
    refine SumF.le 8 fun k hk => ?_
    obtain ⟨p, hp, ep⟩ := cA k hk
    obtain ⟨q, hq, eq⟩ := cB k hk
    have a := fA k hk
    have b := fB k hk
    rw [ep] at a b; rw [eq] at a b
    rw [ep, eq, SumF.congr 5 (g := fun v => (if p = v then (if inn (v : Nat) = true then fl.getD k 0 else 0) else 0) + (if q = v then (if inn (v : Nat) = true then - fl.getD k 0 else 0) else 0)) fun v _ => ?_, SumF.add, SumF.one, SumF.one, if_pos hp, if_pos hq]
    · cases z1 : inn (p : Int) <;> cases z2 : inn (q : Int)
      · exact Int.le_refl 0
      · have := b z1 z2
        rw [if_neg (by decide), if_neg (by decide), if_pos rfl, Int.zero_add]; exact this
      · have := a z1 z2
        rw [if_neg (by decide), if_pos rfl, if_neg (by decide), Int.add_zero]; exact this
      · rw [if_pos rfl, if_pos rfl, if_pos rfl, Int.add_right_neg]; exact Int.le_refl 0
    · have z1 : ((p : Int) = (v : Int)) = (p = v) := propext Int.ofNat_inj
      have z2 : ((q : Int) = (v : Int)) = (q = v) := propext Int.ofNat_inj
      simp only [z1, z2]
      by_cases h : inn (v : Nat) = true
      · simp only [if_pos h]
        by_cases x1 : p = v <;> by_cases x2 : q = v <;> simp only [x1, x2, if_true, if_false] <;> rfl
      · simp only [if_neg h, ite_self, Int.add_zero]
  have e3 : 0 < needB need inn := by
    obtain ⟨n, rfl⟩ : ∃ n : Nat, st = n := ⟨st.toNat, by omega⟩
    rw [← SumF.zero 5]
    refine SumF.lt (j := n) ?_ 5 (fun v _ => ?_) (by omega)
    · show 0 < ite _ _ _
      rw [if_pos hst]; exact hs
    · show 0 ≤ ite _ _ _
      by_cases h : inn (v : Nat) = true
      · rw [if_pos h]; exact inT _ h
      · rw [if_neg h]; exact Int.le_refl 0
  omega
end
end
section
open PySem
section
open PySem.Sre (M)
theorem runFor_done {m : M} (h : m.outcome.isSome = true) : ∀ n, M.runFor n m = m
  | 0 => rfl
  | n + 1 => by unfold M.runFor; rw [if_pos h]
theorem runFor_add : ∀ (a b : Nat) (m : M), M.runFor (a + b) m = M.runFor b (M.runFor a m)
  | 0, b, m => by rw [Nat.zero_add]; rfl
  | a + 1, b, m => by
    rw [Nat.succ_add]
    by_cases h : m.outcome.isSome = true
    · rw [runFor_done h, runFor_done h, runFor_done h]
    · rw [M.runFor, if_neg h, runFor_add a b, M.runFor, if_neg h]
theorem runFor_one {m : M} (h : m.outcome = none) (n : Nat) : M.runFor (n + 1) m = M.runFor n m.step := by
  rw [M.runFor, if_neg (by rw [h]; decide)]
/-- m comes to m' within n steps -/
def Comes (n : Nat) (m m' : M) : Prop := ∃ k, k ≤ n ∧ M.runFor k m = m'
theorem Comes.refl (m : M) : Comes 0 m m := ⟨0, Nat.le_refl _, rfl⟩
theorem Comes.one {m m' : M} (h : m.outcome = none) (e : m.step = m') : Comes 1 m m' := ⟨1, Nat.le_refl _, by rw [runFor_one h, e]; rfl⟩
theorem Comes.trans {a b : Nat} {m m' m'' : M} (h : Comes a m m') (g : Comes b m' m'') : Comes (a + b) m m'' := by
  obtain ⟨k, hk, e⟩ := h; obtain ⟨l, hl, f⟩ := g
  exact ⟨k + l, by omega, by rw [runFor_add, e, f]⟩
theorem Comes.le {a b : Nat} {m m' : M} (h : Comes a m m') (l : a ≤ b) : Comes b m m' := by
  obtain ⟨k, hk, e⟩ := h; exact ⟨k, by omega, e⟩
theorem Comes.next {a : Nat} {m m' m'' : M} (h : m.outcome = none) (e : m.step = m') (g : Comes a m' m'') : Comes (a + 1) m m'' := by
  have := (Comes.one h e).trans g; rwa [Nat.add_comm] at this
/-- what a search found: Some (where, and where it ends) or none -/
def Said (o : Option (Nat × Nat)) (m : M) : Prop :=
  match o with
  | some (a, b) => m.outcome = some .matched ∧ m.start = a ∧ m.handed = b
  | none => m.outcome = some .failed
/-- the first place s, s+1, .. that the test names, with where it ends -/
def firstAt (P : Nat → Option Nat) : Nat → Nat → Option (Nat × Nat)
  | 0, _ => none
  | n + 1, s => match P s with
    | some e => some (s, e)
    | none => firstAt P n (s + 1)
def c1 : Array Nat := #[14, 4, 0, 1, 1, 6, 1, 16, 46, 1]
/-- the machine of the first pattern, tried at s -/
def st1 (t : Array Nat) (s pc pos : Nat) (b : Bool) (seen : Sre.Seen) (must : Bool) : M :=
  { code := c1, text := t, lim := t.size, start := s, lastStart := t.size, pc := pc, pos := pos, handed := s, outermost := b, marks := #[], mustAdvance := must, frames := [{ wait := .nextStart, pc := 5, pos := s, outermost := b }], weight := 1, seen := seen }
theorem st1_at {t : Array Nat} {s : Nat} {b must : Bool} {seen : Sre.Seen} : (st1 t s 5 s b seen must).step = if (s == 0 || t.getD (s - 1) 0 == 10) = true then st1 t s 7 s b ((seen.add 6).add 44) must else (st1 t s 5 s b ((seen.add 6).add 44) must).say false := rfl
theorem st1_lit {t : Array Nat} {s : Nat} {b must : Bool} {seen : Sre.Seen} : (st1 t s 7 s b seen must).step = if s ≥ t.size then (st1 t s 7 s b (seen.add 16) must).say false else
    (match (t.getD s 0 == 46) with | true => st1 t s 9 (s + 1) b (seen.add 16) must | false => (st1 t s 7 s b (seen.add 16) must).say false) := by
  show (if s ≥ t.size then _ else _) = _
  split
  · rfl
  · show (match (Except.ok (t.getD s 0 == 46, seen.add 16) : Except String (Bool × Sre.Seen)) with | .error why => _ | .ok (false, seen) => _ | .ok (true, seen) => _) = _
    cases (t.getD s 0 == 46) <;> rfl
theorem st1_succ {t : Array Nat} {s : Nat} {b must : Bool} {seen : Sre.Seen} : (st1 t s 9 (s + 1) b seen must).step = ({ st1 t s 9 (s + 1) b (seen.add 1) must with handed := s + 1 } : M).say true := by
  show (if (b && ((false && _) || (must && (s + 1 == s)))) = true then _ else _) = _
  rw [if_neg (by simp)]
  rfl
theorem st1_no {t : Array Nat} {s pc pos : Nat} {b must : Bool} {seen : Sre.Seen} (h : s < t.size) :
    ((st1 t s pc pos b seen must).say false).step = st1 t (s + 1) 5 (s + 1) false seen false := by
  show (if s < t.size then _ else _) = _
  rw [if_pos h]
  rfl
theorem st1_end {t : Array Nat} {s pc pos : Nat} {b must : Bool} {seen : Sre.Seen} (h : ¬ s < t.size) :
    ∃ m, Comes 2 ((st1 t s pc pos b seen must).say false) m ∧ m.outcome = some .failed := by
  refine ⟨{ ({ st1 t s 5 s b seen must with frames := [], weight := 0 } : M).say false with outcome := some .failed }, ?_, rfl⟩
  refine Comes.next (m' := ({ st1 t s 5 s b seen must with frames := [], weight := 0 } : M).say false) rfl ?_ (Comes.one rfl rfl)
  show (if s < t.size then _ else _) = _
  rw [if_neg h]
  rfl
/-- whether the first pattern matches at s -/
def at1 (t : Array Nat) (s : Nat) : Option Nat := if (s == 0 || t.getD (s - 1) 0 == 10) = true ∧ s < t.size ∧ t.getD s 0 = 46 then some (s + 1) else none
theorem st1_try {t : Array Nat} {s : Nat} {b must : Bool} {seen : Sre.Seen} :
    match at1 t s with
    | some e => ∃ m, Comes 5 (st1 t s 5 s b seen must) m ∧ Said (some (s, e)) m
    | none => ∃ pc seen', Comes 2 (st1 t s 5 s b seen must) ((st1 t s pc s b seen' must).say false) := by
  unfold at1
  by_cases h1 : (s == 0 || t.getD (s - 1) 0 == 10) = true
  · by_cases h2 : s < t.size
    · by_cases h3 : t.getD s 0 = 46
      · rw [if_pos ⟨h1, h2, h3⟩]
        refine ⟨_, Comes.next rfl (by rw [st1_at, if_pos h1]) (Comes.next rfl (by rw [st1_lit, if_neg (by omega), h3]; rfl) (Comes.next rfl st1_succ (Comes.next rfl rfl (Comes.one rfl rfl)))), rfl, rfl, rfl⟩
      · rw [if_neg (fun h => h3 h.2.2)]
        exact ⟨7, _, Comes.next rfl (by rw [st1_at, if_pos h1]) (Comes.one rfl (by rw [st1_lit, if_neg (by omega), beq_false_of_ne h3]))⟩
    · rw [if_neg (fun h => h2 h.2.1)]
      exact ⟨7, _, Comes.next rfl (by rw [st1_at, if_pos h1]) (Comes.one rfl (by rw [st1_lit, if_pos (by omega)]))⟩
  · rw [if_neg (fun h => h1 h.1)]
    exact ⟨5, _, (Comes.one rfl (by rw [st1_at, if_neg h1])).le (by decide)⟩
theorem st1_search {t : Array Nat} : ∀ (n s : Nat) (b must : Bool) (seen : Sre.Seen), s + n = t.size →
    ∃ m, Comes (3 * n + 5) (st1 t s 5 s b seen must) m ∧ Said (firstAt (at1 t) (n + 1) s) m := by
  intro n
  induction n with
  | zero =>
    intro s b must seen hs
    have h := st1_try (t := t) (s := s) (b := b) (seen := seen) (must := must)
    have e0 : at1 t s = none := by unfold at1; rw [if_neg (fun h => by omega)]
    rw [firstAt, e0]
    rw [e0] at h
    obtain ⟨pc, seen', h⟩ := h
    obtain ⟨m, g, o⟩ := st1_end (pc := pc) (pos := s) (b := b) (must := must) (seen := seen') (show ¬ s < t.size by omega)
    exact ⟨m, (h.trans g).le (by omega), o⟩
  | succ n ih =>
    intro s b must seen hs
    have h := st1_try (t := t) (s := s) (b := b) (seen := seen) (must := must)
    rw [firstAt]
    cases e : at1 t s with
    | some x =>
      rw [e] at h
      obtain ⟨m, h, g⟩ := h
      exact ⟨m, h.le (by omega), g⟩
    | none =>
      rw [e] at h
      obtain ⟨pc, seen', h⟩ := h
      obtain ⟨m, h2, g⟩ := ih (s + 1) false false seen' (by omega)
      refine ⟨m, ((h.trans (Comes.one rfl (st1_no (by omega)))).trans h2).le (by omega), g⟩
theorem search1 {t : Array Nat} {s : Nat} {must : Bool} (h : s ≤ t.size) :
    ∃ m, Comes (3 * t.size + 10) (Sre.forSearch c1 t 0 s t.size must) m ∧ Said (firstAt (at1 t) (t.size - s + 1) s) m := by
  obtain ⟨m, h1, h2⟩ := st1_search (t := t) (t.size - s) s true must ((({} : Sre.Seen).add 14)) (by omega)
  by_cases hp : s = t.size
  · -- one left out: least is 1
    refine ⟨_, Comes.le (Comes.one (m := Sre.forSearch c1 t 0 s t.size must) (m' := _) ?_ rfl) (by omega), ?_⟩
    · unfold Sre.forSearch
      dsimp only
      rw [if_pos (by show (decide (s > t.size) || decide (t.size - s < 1)) = true; simp only [Bool.or_eq_true, decide_eq_true_eq]; omega)]
      rfl
    · subst hp
      rw [Nat.sub_self, firstAt, show at1 t t.size = none by unfold at1; rw [if_neg (fun h => by omega)], firstAt]
      unfold Sre.forSearch
      dsimp only
      rw [if_pos (by show (decide (t.size > t.size) || decide (t.size - t.size < 1)) = true; simp only [Bool.or_eq_true, decide_eq_true_eq]; omega)]
      rfl
  · refine ⟨m, ?_, h2⟩
    have : Sre.forSearch c1 t 0 s t.size must = st1 t s 5 s true (({} : Sre.Seen).add 14) must := by
      unfold Sre.forSearch
      dsimp only
      rw [if_neg (by show ¬ ((decide (s > t.size) || decide (t.size - s < 1)) = true); simp only [Bool.or_eq_true, decide_eq_true_eq]; omega)]
      rfl
    rw [this]
    exact h1.le (by omega)
end
end
section
open PySem
section
open PySem.Sre (M)
def c2 : Array Nat := #[14, 9, 4, 1, 2, 16, 10, 16, 13, 0, 7, 7, 16, 13, 16, 10, 15, 18, 5, 16, 10, 15, 13, 11, 16, 13, 5, 5, 0, 16, 10, 1, 15, 2, 0, 1]
/-- the machine of the second pattern -/
def st2 (t : Array Nat) (ls s pc pos h : Nat) (b : Bool) (fr : List Sre.Frame) (wt : Nat) (seen : Sre.Seen) : M :=
  { code := c2, text := t, lim := t.size, start := s, lastStart := ls, pc := pc, pos := pos, handed := h, outermost := b, marks := #[], frames := fr, weight := wt, seen := seen }
def f0 (s : Nat) (b : Bool) : Sre.Frame := { wait := .nextStart, pc := 10, pos := s, outermost := b }
def fb (pc s : Nat) (b : Bool) : Sre.Frame := { wait := .nextBranch, pc := pc, pos := s, outermost := b }
def fl (s : Nat) (b : Bool) : Sre.Frame := { wait := .lookNot, pc := 26, pos := s, outermost := b }
theorem st2_yes {t : Array Nat} {ls s pc pos h wt : Nat} {b : Bool} {fr : List Sre.Frame} {seen : Sre.Seen} (hp : pc = 12 ∨ pc = 14 ∨ pc = 19 ∨ pc = 24 ∨ pc = 29)
    (h1 : pos < t.size) (h2 : t.getD pos 0 = c2.getD (pc + 1) 0) :
    (st2 t ls s pc pos h b fr wt seen).step = st2 t ls s (pc + 2) (pos + 1) h b fr wt (seen.add 16) := by
  rcases hp with rfl | rfl | rfl | rfl | rfl <;>
  · show (if pos ≥ t.size then _ else _) = _
    rw [if_neg (by omega)]
    first
    | (have h2 : t.getD pos 0 = 13 := h2
       show (match (Except.ok (t.getD pos 0 == 13, seen.add 16) : Except String (Bool × Sre.Seen)) with | .error why => _ | .ok (false, seen) => _ | .ok (true, seen) => _) = _
       rw [h2]; rfl)
    | (have h2 : t.getD pos 0 = 10 := h2
       show (match (Except.ok (t.getD pos 0 == 10, seen.add 16) : Except String (Bool × Sre.Seen)) with | .error why => _ | .ok (false, seen) => _ | .ok (true, seen) => _) = _
       rw [h2]; rfl)
theorem st2_not {t : Array Nat} {ls s pc pos h wt : Nat} {b : Bool} {fr : List Sre.Frame} {seen : Sre.Seen} (hp : pc = 12 ∨ pc = 14 ∨ pc = 19 ∨ pc = 24 ∨ pc = 29)
    (h1 : ¬ (pos < t.size ∧ t.getD pos 0 = c2.getD (pc + 1) 0)) :
    (st2 t ls s pc pos h b fr wt seen).step = (st2 t ls s pc pos h b fr wt (seen.add 16)).say false := by
  rcases hp with rfl | rfl | rfl | rfl | rfl <;>
  · show (if pos ≥ t.size then _ else _) = _
    by_cases h : pos < t.size
    · rw [if_neg (by omega)]
      have g := fun e => h1 ⟨h, e⟩
      first
      | (have h2 : (t.getD pos 0 == 13) = false := beq_false_of_ne g
         show (match (Except.ok (t.getD pos 0 == 13, seen.add 16) : Except String (Bool × Sre.Seen)) with | .error why => _ | .ok (false, seen) => _ | .ok (true, seen) => _) = _
         rw [h2]; rfl)
      | (have h2 : (t.getD pos 0 == 10) = false := beq_false_of_ne g
         show (match (Except.ok (t.getD pos 0 == 10, seen.add 16) : Except String (Bool × Sre.Seen)) with | .error why => _ | .ok (false, seen) => _ | .ok (true, seen) => _) = _
         rw [h2]; rfl)
    · rw [if_pos (by omega)]
      rfl
theorem st2_branch {t : Array Nat} {ls s h : Nat} {b : Bool} {seen : Sre.Seen} :
    (st2 t ls s 10 s h b [f0 s b] 1 seen).step = st2 t ls s 12 s s b [fb 11 s b, f0 s b] 2 (seen.add 7) := rfl
theorem st2_alt2 {t : Array Nat} {ls s pc pos h : Nat} {b : Bool} {seen : Sre.Seen} :
    ((st2 t ls s pc pos h b [fb 11 s b, f0 s b] 2 seen).say false).step = st2 t ls s 19 s s b [fb 18 s b, f0 s b] 2 seen := rfl
theorem st2_alt3 {t : Array Nat} {ls s pc pos h : Nat} {b : Bool} {seen : Sre.Seen} :
    ((st2 t ls s pc pos h b [fb 18 s b, f0 s b] 2 seen).say false).step = st2 t ls s 24 s s b [fb 23 s b, f0 s b] 2 seen := rfl
theorem st2_look {t : Array Nat} {ls s h : Nat} {b : Bool} {seen : Sre.Seen} :
    (st2 t ls s 26 (s + 1) h b [fb 23 s b, f0 s b] 2 seen).step = st2 t ls s 29 (s + 1) (s + 1) false [fl (s + 1) b, fb 23 s b, f0 s b] 3 (seen.add 5) := rfl
theorem st2_lookno {t : Array Nat} {ls s h pc pos : Nat} {b : Bool} {seen : Sre.Seen} :
    ((st2 t ls s pc pos h false [fl (s + 1) b, fb 23 s b, f0 s b] 3 seen).say false).step = st2 t ls s 32 (s + 1) h b [fb 23 s b, f0 s b] 2 seen := rfl
theorem st2_jump {t : Array Nat} {ls s pc h pos : Nat} {b : Bool} {fr : List Sre.Frame} {wt : Nat} {seen : Sre.Seen} (hp : pc = 16 ∨ pc = 21 ∨ pc = 32) :
    (st2 t ls s pc pos h b fr wt seen).step = st2 t ls s 35 pos h b fr wt (seen.add 15) := by rcases hp with rfl | rfl | rfl <;> rfl
theorem st2_succ {t : Array Nat} {ls s h pos : Nat} {b : Bool} {fr : List Sre.Frame} {wt : Nat} {seen : Sre.Seen} :
    (st2 t ls s 35 pos h b fr wt seen).step = (st2 t ls s 35 pos pos b fr wt (seen.add 1)).say true := by
  show (if (b && ((false && _) || (false && _))) = true then _ else _) = _
  rw [if_neg (by simp)]
  rfl
theorem st2_won {t : Array Nat} {ls s h pos k : Nat} {b : Bool} {seen : Sre.Seen} :
    ∃ m, Comes 4 (st2 t ls s 35 pos h b [fb k s b, f0 s b] 2 seen) m ∧ Said (some (s, pos)) m :=
  ⟨_, Comes.next rfl st2_succ (Comes.next rfl rfl (Comes.next rfl rfl (Comes.one rfl rfl))), rfl, rfl, rfl⟩
/-- where the second pattern's match at s ends, if there is one -/
def at2 (t : Array Nat) (s : Nat) : Option Nat :=
  if s < t.size then
    (if t.getD s 0 = 13 then (if s + 1 < t.size ∧ t.getD (s + 1) 0 = 10 then some (s + 2) else some (s + 1))
     else if t.getD s 0 = 10 then some (s + 1) else none)
  else none
theorem st2_try {t : Array Nat} {ls s h e : Nat} {b : Bool} {seen : Sre.Seen} (he : at2 t s = some e) :
    ∃ m, Comes 20 (st2 t ls s 10 s h b [f0 s b] 1 seen) m ∧ Said (some (s, e)) m := by
  unfold at2 at he
  by_cases hs : s < t.size
  · rw [if_pos hs] at he
    by_cases h13 : t.getD s 0 = 13
    · rw [if_pos h13] at he
      by_cases h10 : s + 1 < t.size ∧ t.getD (s + 1) 0 = 10
      · rw [if_pos h10] at he
        cases he
        obtain ⟨m, g, o⟩ := st2_won (t := t) (ls := ls) (s := s) (h := s) (pos := s + 2) (k := 11) (b := b)
        exact ⟨m, (Comes.next rfl st2_branch (Comes.next rfl (st2_yes (.inl rfl) hs h13) (Comes.next rfl (st2_yes (.inr (.inl rfl)) h10.1 h10.2) (Comes.next rfl (st2_jump (.inl rfl)) g)))).le (by decide), o⟩
      · rw [if_neg h10] at he
        cases he
        obtain ⟨m, g, o⟩ := st2_won (t := t) (ls := ls) (s := s) (h := s + 1) (pos := s + 1) (k := 23) (b := b)
        refine ⟨m, (Comes.next rfl st2_branch (Comes.next rfl (st2_yes (.inl rfl) hs h13) (Comes.next rfl (st2_not (.inr (.inl rfl)) h10) (Comes.next rfl st2_alt2
          (Comes.next rfl (st2_not (.inr (.inr (.inl rfl))) (fun ⟨_, e⟩ => by rw [h13] at e; exact absurd e (by decide))) (Comes.next rfl st2_alt3 (Comes.next rfl (st2_yes (.inr (.inr (.inr (.inl rfl)))) hs h13) (Comes.next rfl st2_look (Comes.next rfl (st2_not (.inr (.inr (.inr (.inr rfl)))) h10) (Comes.next rfl st2_lookno (Comes.next rfl (st2_jump (.inr (.inr rfl))) g))))))))))).le (by decide), o⟩
    · rw [if_neg h13] at he
      by_cases h10 : t.getD s 0 = 10
      · rw [if_pos h10] at he
        cases he
        obtain ⟨m, g, o⟩ := st2_won (t := t) (ls := ls) (s := s) (h := s) (pos := s + 1) (k := 18) (b := b)
        exact ⟨m, (Comes.next rfl st2_branch (Comes.next rfl (st2_not (.inl rfl) (fun ⟨_, e⟩ => h13 e)) (Comes.next rfl st2_alt2 (Comes.next rfl (st2_yes (.inr (.inr (.inl rfl))) hs h10) (Comes.next rfl (st2_jump (.inr (.inl rfl))) g))))).le (by decide), o⟩
      · rw [if_neg h10] at he; cases he
  · rw [if_neg hs] at he; cases he
theorem inSet2 (c : Nat) (seen : Sre.Seen) : ∃ seen', Sre.inSet c2 c c2.size 5 true seen = .ok (decide (c = 13 ∨ c = 10), seen') := by
  by_cases h10 : c = 10
  · exact ⟨seen.add 16, by subst h10; rfl⟩
  · by_cases h13 : c = 13
    · exact ⟨(seen.add 16).add 16, by subst h13; rfl⟩
    · refine ⟨((seen.add 16).add 16).add 0, ?_⟩
      show (if (c == 10) = true then _ else (if (c == 13) = true then _ else _)) = _
      rw [if_neg (by simpa using h10), if_neg (by simpa using h13), decide_eq_false (by omega)]
      rfl
theorem admitted2 {t : Array Nat} {m : M} (hc : m.code = c2) (ht : m.text = t) (hl : m.lim = t.size) : ∀ (n s : Nat) (seen : Sre.Seen), s + n = t.size + 1 →
    ∃ seen', m.admitted n s seen = .ok ((firstAt (at2 t) n s).map (·.1), seen') := by
  intro n
  induction n with
  | zero => intro s seen _; exact ⟨seen, rfl⟩
  | succ n ih =>
    intro s seen hs
    unfold Sre.M.admitted
    by_cases hz : s ≥ m.lim
    · rw [if_pos hz]
      have e0 : at2 t s = none := by unfold at2; rw [if_neg (by omega)]
      refine ⟨seen, ?_⟩
      have : n = 0 := by omega
      subst this
      rw [firstAt, e0]; rfl
    · rw [if_neg hz, hc, ht]
      obtain ⟨seen', e⟩ := inSet2 (t.getD s 0) seen
      rw [e, firstAt]
      by_cases h : t.getD s 0 = 13 ∨ t.getD s 0 = 10
      · rw [decide_eq_true h]
        have : ∃ e, at2 t s = some e := by
          unfold at2
          rw [if_pos (by omega)]
          by_cases a : t.getD s 0 = 13
          · rw [if_pos a]; split <;> exact ⟨_, rfl⟩
          · rw [if_neg a, if_pos (h.resolve_left a)]; exact ⟨_, rfl⟩
        obtain ⟨e, he⟩ := this
        rw [he]
        exact ⟨seen', rfl⟩
      · rw [decide_eq_false h]
        have : at2 t s = none := by
          unfold at2
          rw [if_pos (by omega), if_neg (fun a => h (.inl a)), if_neg (fun a => h (.inr a))]
        rw [this]
        exact ih (s + 1) seen' (by omega)
theorem firstAt_ok {P : Nat → Option Nat} : ∀ (n s : Nat) {a e : Nat}, firstAt P n s = some (a, e) → P a = some e
  | 0, _, _, _, h => by cases h
  | n + 1, s, a, e, h => by
    unfold firstAt at h
    cases g : P s with
    | none => rw [g] at h; exact firstAt_ok n (s + 1) h
    | some x => rw [g] at h; cases h; exact g
theorem search2 {t : Array Nat} {s : Nat} {must : Bool} (h : s ≤ t.size) :
    ∃ m, Comes 21 (Sre.forSearch c2 t 0 s t.size must) m ∧ Said (firstAt (at2 t) (t.size - s + 1) s) m := by
  by_cases hp : s = t.size
  · refine ⟨_, Comes.le (Comes.one (m := Sre.forSearch c2 t 0 s t.size must) (m' := _) ?_ rfl) (by omega), ?_⟩
    · unfold Sre.forSearch
      dsimp only
      rw [if_pos (by show (decide (s > t.size) || decide (t.size - s < 1)) = true; simp only [Bool.or_eq_true, decide_eq_true_eq]; omega)]
      rfl
    · subst hp
      rw [Nat.sub_self, firstAt, show at2 t t.size = none by unfold at2; rw [if_neg (fun h => by omega)], firstAt]
      unfold Sre.forSearch
      dsimp only
      rw [if_pos (by show (decide (t.size > t.size) || decide (t.size - t.size < 1)) = true; simp only [Bool.or_eq_true, decide_eq_true_eq]; omega)]
      rfl
  · have e1 : ∀ m : M, m.hasFirstSet = true → m.attemptFrom s true = (match Sre.M.admitted m (m.lim + 1 - s) s m.seen with
        | .ok (some s, seen) => ({ m with mustAdvance := false, seen } : M).attemptAt s true
        | .ok (none, seen) => ({ m with seen } : M).say false
        | .error why => m.stick why) := by
      intro m hm; unfold Sre.M.attemptFrom; rw [hm]; rfl
    have e2 : ∃ m : M, Sre.forSearch c2 t 0 s t.size must = m.attemptFrom s true ∧ m.code = c2 ∧ m.text = t ∧ m.lim = t.size ∧ m =
        { code := c2, text := t, lim := t.size, start := s, lastStart := t.size, pc := 10, pos := s, handed := s, marks := #[], mustAdvance := must, seen := ({} : Sre.Seen).add 14 } := by
      refine ⟨_, ?_, rfl, rfl, rfl, rfl⟩
      unfold Sre.forSearch
      dsimp only
      rw [if_neg (by show ¬ ((decide (s > t.size) || decide (t.size - s < 1)) = true); simp only [Bool.or_eq_true, decide_eq_true_eq]; omega)]
      rfl
    obtain ⟨m, e, hc, ht, hl, hm⟩ := e2
    obtain ⟨seen', ha⟩ := admitted2 (t := t) hc ht hl (t.size - s + 1) s m.seen (by omega)
    rw [e, e1 m (by rw [hm]; rfl), hl, show t.size + 1 - s = t.size - s + 1 by omega, ha]
    cases hf : firstAt (at2 t) (t.size - s + 1) s with
    | none =>
      subst hm
      exact ⟨_, (Comes.one rfl rfl).le (by decide), rfl⟩
    | some p =>
      obtain ⟨a, x⟩ := p
      subst hm
      obtain ⟨m, g, o⟩ := st2_try (t := t) (ls := t.size) (s := a) (h := a) (b := true) (seen := seen') (firstAt_ok _ _ hf)
      exact ⟨m, g.le (by decide), o⟩
end
end
section
open PySem PySem.W PyProof.Rows PySem.Spec PySem.Calls
set_option maxRecDepth 100000
section
theorem plainAttrs_pat : PlainAttrs "re.Pattern" :=
  ⟨⟨"object.__getattribute__", by rw [typeLookup_type, builtinLookup_eq_fast]; kernel_rfl, by decide +kernel⟩, by rw [typeLookup_type, builtinLookup_eq_fast]; kernel_rfl⟩
theorem owner_pat : Manifest.owners.lookup (String.ofList ['n', 'r', 'e', 't', 't', 'a', 'P', '.', 'e', 'r'].reverse) = some Manifest.sig_re_Pattern := by kernel_rfl
theorem slot_pat_sub : Slot "re.Pattern" "sub" "re.Pattern.sub" :=
  .of (owner := "re.Pattern") (n := "sub") (by rw [typeLookup_type, builtinLookup_eq_fast]; kernel_rfl) (by decide +kernel) (by decide +kernel) (by decide +kernel)
    (by first | exact .inl (by decide +kernel) | exact .inr (by decide +kernel)) (by rw [isSubtype_type]; kernel_rfl)
theorem type_pat_sub : typeOf (.builtin "re.Pattern.sub") = pure (.type "method_descriptor") := by show builtinType _ = _; rw [builtinType_eq_fast]; kernel_rfl
theorem entry_pat_sub : entryFor table "re.Pattern.sub" = some Builtin.«re.Pattern.sub» := entryFor_of_tree (by kernel_rfl)
theorem entry_pat_loop : entryFor table "re.Pattern.sub.loop" = some Builtin.«re.Pattern.sub.loop» := entryFor_of_tree (by kernel_rfl)
theorem plain_pat_loop : plainId "re.Pattern.sub.loop" = true := by decide +kernel
theorem args_pat_sub_3 (a b c : Value) : argsOk "re.Pattern.sub" ⟨[a, b, c], []⟩ := by
  unfold argsOk; rw [signature?_of (id := "re.Pattern.sub") (n := ['b', 'u', 's']) (o := ['n', 'r', 'e', 't', 't', 'a', 'P', '.', 'e', 'r']) (by kernel_rfl) owner_pat]; kernel_rfl
theorem str_nocall : typeLookup (.type "str") "__call__" = pure none := by rw [typeLookup_type, builtinLookup_eq_fast]; kernel_rfl

/-- a pattern that the text's part holds: its object and its code's tuple -/
structure IsPat (h : Heap) (a : Addr) (code : Array Nat) : Prop where
  ob : ∃ pat pt fl ft b, h.get? a = some { cls := .type "re.Pattern", data := .fields #[.str pat pt, .int fl ft, .int 0 0, .none, .none, .ref b, .int 0 0] } ∧
    ∃ o its n, h.get? b = some o ∧ o.data = .seq its n ∧ its.map (fun v => (Builtin.Re.reRawOf v).toNat) = code
theorem IsPat.keeps {h h' : Heap} {a : Addr} {code : Array Nat} (P : IsPat h a code) (hk : ∀ b o, h.get? b = some o → h'.get? b = some o) : IsPat h' a code := by
  obtain ⟨pat, pt, fl, ft, b, h1, o, its, n, h2, h3, h4⟩ := P.ob
  exact ⟨pat, pt, fl, ft, b, hk _ _ h1, o, its, n, hk _ _ h2, h3, h4⟩
section
variable {M : Model} {prog : Program} {w : World} {A : Around} {E : Value → Shared → Prop} {s : Shared} {a : Addr} {code : Array Nat} {x : PySem.Str} {t : Tok}
open Builtin.Re
theorem pat_method {pl : Sem Bool} {Q : Value × List Value → Shared → Prop} (P : IsPat s.heap a code) (h : Q (.builtin "re.Pattern.sub", [.ref a]) s) : wpAny M A (getMethod (.ref a) "sub" pl) Q E s := by
  obtain ⟨pat, pt, fl, ft, b, h1, _⟩ := P.ob
  exact getMethod_builtin ⟨_, h1, rfl⟩ plainAttrs_pat slot_pat_sub type_pat_sub (fun c e => by cases e; exact ⟨_, h1, rfl⟩) h
end
end
end
section
open PySem PySem.W PyProof.Rows PySem.Spec PySem.Calls
set_option maxRecDepth 100000
section
section
variable {M : Model} {prog : Program} {w : World} {A : Around} {E : Value → Shared → Prop} {s : Shared} {a : Addr} {code : Array Nat} {x : PySem.Str} {t : Tok}
open Builtin.Re
theorem whole_target {Q : ReTarget → Shared → Prop} (P : IsPat s.heap a code) (h : Q { pattern := .ref a, string := .str x t, code := code, text := x.cps, kind := 0, groups := 0, pos := 0, lim := x.cps.size } s) :
    wpAny M A (reWholeTarget (.ref a) (.str x t)) Q E s := by
  obtain ⟨pat, pt, fl, ft, b, h1, o, its, n, h2, h3, h4⟩ := P.ob
  unfold reWholeTarget fieldsOf
  refine wpAny_bind (wpAny_bind (wpAny_load h1 (wpAny_pure ?_)))
  unfold reTextOf
  refine wpAny_bind (wpAny_bind (wpAny_pure (wpAny_pure ?_)))
  show wpAny M A (do
    let c ← reRawItems (.ref b)
    pure ({ pattern := .ref a, string := .str x t, code := c.map (·.toNat), text := x.cps, kind := 0, groups := 0, pos := 0, lim := x.cps.size } : ReTarget)) Q E s
  unfold reRawItems seqItems?
  refine wpAny_bind (wpAny_bind (wpAny_bind (wpAny_load h2 ?_)))
  rw [h3]
  refine wpAny_pure (wpAny_pure (wpAny_pure ?_))
  have : (Array.map reRawOf its).map (·.toNat) = code := by rw [Array.map_map]; exact h4
  show Q { pattern := .ref a, string := .str x t, code := (Array.map reRawOf its).map (·.toNat), text := x.cps, kind := 0, groups := 0, pos := 0, lim := x.cps.size } s
  rw [this]
  exact h
theorem drive {m' : Sre.M} {Q : Sre.M → Shared → Prop} (hd : m'.outcome.isSome = true) (h : Q m' s) : ∀ (turns n : Nat) (m : Sre.M), Comes n m m' → n < 4 * turns →
    wpAny M A (reDrive turns m) Q E s := by
  intro turns
  induction turns with
  | zero => intro n m _ hn; omega
  | succ k ih =>
    intro n m hc hn
    obtain ⟨j, hj, e⟩ := hc
    unfold reDrive
    show wpAny M A (if ((m.runFor reTurnSteps).outcome.isSome) = true then pure (m.runFor reTurnSteps) else _) Q E s
    by_cases ho : ((m.runFor reTurnSteps).outcome.isSome) = true
    · rw [if_pos ho]
      have : m.runFor reTurnSteps = m' := by
        by_cases hl : j ≤ reTurnSteps
        · obtain ⟨d, hd'⟩ := Nat.exists_eq_add_of_le hl
          rw [hd', runFor_add, e, runFor_done hd]
        · obtain ⟨d, hd'⟩ := Nat.exists_eq_add_of_le (Nat.le_of_lt (Nat.lt_of_not_le hl))
          rw [hd', runFor_add, runFor_done ho] at e
          exact e
      rw [this]
      exact wpAny_pure h
    · rw [if_neg ho]
      have hl : ¬ j ≤ reTurnSteps := fun hl => by
        obtain ⟨d, hd'⟩ := Nat.exists_eq_add_of_le hl
        rw [hd', runFor_add, e, runFor_done hd] at ho
        exact ho hd
      obtain ⟨d, hd'⟩ := Nat.exists_eq_add_of_le (Nat.le_of_lt (Nat.lt_of_not_le hl))
      refine wpAny_bind (wpAny_rule (ih (n - 4) _ ⟨d, ?_, ?_⟩ ?_))
      · unfold reTurnSteps at hd'; omega
      · rw [← runFor_add, ← hd', e]
      · have : j > 4 := Nat.lt_of_not_le hl
        omega
theorem names_rules {β : Type} {Q : β → Shared → Prop} {k : Unit → Sem β} {m : Sre.M} : ∀ (l : List Nat), wpAny M A (k ()) Q E s →
    wpAny M A ((forIn l PUnit.unit fun i _ => (if m.seen.has i = true then rule (Sre.names.getD i "") >>= fun _ => pure (ForInStep.yield PUnit.unit) else pure (ForInStep.yield PUnit.unit) : Sem (ForInStep PUnit))) >>= k) Q E s := by
  intro l h
  induction l with
  | nil => exact wpAny_bind (wpAny_pure h)
  | cons i l ih =>
    rw [List.forIn_cons, bind_assoc]
    by_cases hb : m.seen.has i = true
    · rw [if_pos hb]
      exact wpAny_bind (wpAny_bind (wpAny_rule (wpAny_pure ih)))
    · rw [if_neg hb]
      exact wpAny_bind (wpAny_pure ih)
theorem run_to_end {m m' : Sre.M} {n : Nat} {o : Option (Nat × Nat)} {Q : Option Sre.M → Shared → Prop} (hc : Comes n m m') (hn : n < 2 ^ 64) (hs : Said o m')
    (h : Q (o.map fun _ => m') s) : wpAny M A (reRunToEnd m) Q E s := by
  have hd : m'.outcome.isSome = true := by
    cases o with
    | none => rw [show m'.outcome = _ from hs]; rfl
    | some p => rw [show m'.outcome = _ from hs.1]; rfl
  unfold reRunToEnd
  refine wpAny_bind (drive (m' := m') hd ?_ (2 ^ 64) n m hc (by omega))
  refine names_rules _ ?_
  cases o with
  | none => rw [show m'.outcome = _ from hs]; exact wpAny_pure h
  | some p => rw [show m'.outcome = _ from hs.1]; exact wpAny_pure h
end
end
end
section
open PySem PySem.W PyProof.Rows PySem.Spec PySem.Calls
set_option maxRecDepth 100000
section
/-- the pieces that a substitution lays side by side, from s on -/
def subGo (P : Nat → Option Nat) (x y : PySem.Str) : Nat → Nat → List PySem.Str
  | 0, _ => []
  | n + 1, s => match firstAt P (x.cps.size - s + 1) s with
    | some (a, e) => (if s < a then [⟨x.cps.extract s a⟩] else []) ++ y :: subGo P x y n e
    | none => if s < x.cps.size then [⟨x.cps.extract s x.cps.size⟩] else []
section
variable {M : Model} {prog : Program} {w : World} {A : Around} {E : Value → Shared → Prop} {s : Shared} {a : Addr} {code : Array Nat} {x y : PySem.Str} {t u : Tok}
open Builtin.Re
theorem upd_push {d : Addr} {items : Array Value} {v : Value} {Q : Unit → Shared → Prop} (hl : s.heap.IsList d items)
    (hQ : ∀ h', h'.IsList d (items.push v) → Heap.SameBut d s.heap h' → Q () { s with heap := h' }) (hsz : items.size ≤ sizeLine) :
    wpAny M A (updateSeq d (·.push v)) Q E s := by
  obtain ⟨o, ho, hc, n, hd⟩ := id hl
  obtain ⟨n', hd'⟩ := Obj.data_mapSeq hd (·.push v)
  exact wpAny_updateSeq ho hd (hQ _ ⟨_, Heap.get?_update_self _ ho (Obj.isFreed_of_seq hd'), (Obj.cls_mapSeq ..).trans hc, n', hd'⟩ (Heap.SameBut.update ..)) hsz (by rw [Array.size_push]; omega)
theorem strs_push : ∀ {vs : List Value} {ys : List PySem.Str}, StrsAre vs ys → ∀ (z : PySem.Str) (t : Tok), StrsAre (vs ++ [.str z t]) (ys ++ [z])
  | _, _, .nil, z, t => .cons z t .nil
  | _, _, .cons y t' h, z, t => .cons y t' (strs_push h z t)
theorem firstAt_ge {P : Nat → Option Nat} : ∀ (n s : Nat) {a e : Nat}, firstAt P n s = some (a, e) → s ≤ a
  | 0, _, _, _, h => by cases h
  | n + 1, s, a, e, h => by
    unfold firstAt at h
    cases g : P s with
    | none => rw [g] at h; exact Nat.le_of_succ_le (firstAt_ge n (s + 1) h)
    | some x => rw [g] at h; cases h; exact Nat.le_refl _
/-- the end of a substitution -/
def subEnd (x : PySem.Str) (d : Addr) (c : Int) : Sem Fin := do
  let joiner ← reSlice x.cps 0 0 0
  let l ← seqItems? (.ref d)
  let text ← if (l.getD #[]).isEmpty then pure joiner else call (.builtin (if (0 == 0) = true then "str.join" else "bytes.join")) [joiner, .ref d]
  if false = true then ret (← holding [text] do newTuple [text, ← mkInt c]) else ret text
theorem sub_end {h₀ : Heap} {d : Addr} {c : Int} {ps : Array Value} {all : List PySem.Str} {R : Result → Shared → Prop} (hk : ∀ b o, h₀.get? b = some o → s.heap.get? b = some o) (hl : s.heap.IsList d ps) (hps : StrsAre ps.toList all)
    (hall : (all.map (·.length)).sum + all.length * 64 ≤ 16777216)
    (hR : ∀ h' tk tk', (∀ b o, h₀.get? b = some o → h'.get? b = some o) → R (.ok (.ret (.str (Txt.join ⟨#[]⟩ all) tk))) { s with heap := h', toks := tk' }) :
    wpAny (model prog w) A.in1 (subEnd x d c) (fun fin s' => match fin with | .done f => R (.ok f) s' | .again c' => c'.quiet = true ∧ codeAny (model prog w) A c' R s') (fun e s' => R (.error e) s') s := by
  have he : x.cps.extract 0 0 = #[] := by simp
  unfold subEnd
  have mk : wpAny (model prog w) A.in1 (reSlice x.cps 0 0 0) (fun v s' => v = .str ⟨#[]⟩ s.toks ∧ s' = { s with toks := s.toks + 1 }) (fun e s' => R (.error e) s') s := by
    show wpAny _ _ (mkStr ⟨x.cps.extract 0 0⟩) _ _ _
    rw [he]
    exact wpAny_mkStr ⟨rfl, rfl⟩ (by decide)
  refine wpAny_bind (wpAny_mono mk (fun v s' ⟨e1, e2⟩ => ?_) fun _ _ y => y)
  subst e1; subst e2
  obtain ⟨o, ho, hc, k, hd⟩ := id hl
  refine wpAny_bind ?_
  unfold seqItems?
  refine wpAny_bind (wpAny_load ho ?_)
  rw [hd]
  refine wpAny_pure ?_
  show wpAny _ _ (if (ps.isEmpty) = true then _ else _) _ _ _
  by_cases hps0 : ps.isEmpty = true
  · rw [if_pos hps0]
    refine wpAny_bind (wpAny_pure ?_)
    have : all = [] := by
      have h1 := hps.len_eq
      rw [Array.isEmpty_iff] at hps0
      subst hps0
      exact List.length_eq_zero_iff.mp h1.symm
    subst this
    exact wpAny_pure (hR s.heap s.toks (s.toks + 1) hk)
  · rw [if_neg hps0]
    refine wpAny_bind ?_
    exact join_listC (s := { s with toks := s.toks + 1 }) hl hps (by decide) hall fun t' k => wpAny_pure (hR s.heap t' k hk)
theorem sub_loop {P : Nat → Option Nat} {K : Nat} {h₀ : Heap} {d : Addr} (hK : K < 2 ^ 64) (hx : x.cps.size ≤ 100000) (hP : ∀ s e, P s = some e → s < e ∧ e ≤ x.cps.size)
    (hS : ∀ s must, s ≤ x.cps.size → ∃ m, Comes K (Sre.forSearch code x.cps 0 s x.cps.size must) m ∧ Said (firstAt P (x.cps.size - s + 1) s) m)
    (X : IsPat h₀ a code) (hd : h₀.get? d = none) {R : Result → Shared → Prop} {all : List PySem.Str} (hall : (all.map (·.length)).sum + all.length * 64 ≤ 16777216) :
    ∀ (n : Nat) (c : Int) (s₀ : Nat) (must : Bool) (ps : Array Value) (ys : List PySem.Str) (s : Shared), s₀ ≤ x.cps.size → x.cps.size + 1 ≤ s₀ + n → (∀ b o, h₀.get? b = some o → s.heap.get? b = some o) → s.heap.IsList d ps →
      StrsAre ps.toList ys → ys ++ subGo P x y n s₀ = all →
      (∀ h' tk tk', (∀ b o, h₀.get? b = some o → h'.get? b = some o) → R (.ok (.ret (.str (Txt.join ⟨#[]⟩ all) tk))) { s with heap := h', toks := tk' }) →
      codeAny (model prog w) A (.builtin "re.Pattern.sub.loop" ⟨[.ref a, .str x t, .str y u, rawInt 0, rawInt 0, rawInt c, rawInt s₀, rawInt s₀, .bool must, .ref d, .bool false], []⟩) R s := by
  intro n
  induction n with
  | zero =>
    intro c s₀ must ps ys s hle hn
    omega
  | succ n ih =>
    intro c s₀ must ps ys s hle hn hk hl hps hal hR
    have hpl : ps.size = ys.length := by rw [← Array.length_toList, hps.len_eq]
    have hyl : ys.length + (subGo P x y (n + 1) s₀).length ≤ 262144 := by
      have : all.length = ys.length + (subGo P x y (n + 1) s₀).length := by rw [← hal, List.length_append]
      omega
    refine codeAny_builtin entry_pat_loop ?_
    rw [Around.under_plainId plain_pat_loop]
    unfold Builtin.«re.Pattern.sub.loop»
    refine wpAny_bind (whole_target (X.keeps hk) ?_)
    refine wpAny_bind (wpAny_bind (wpAny_pure ?_))
    refine wpAny_pure ?_
    refine wpAny_bind ?_
    obtain ⟨m, hc, hm⟩ := hS s₀ must hle
    show wpAny _ _ (reRunToEnd (Sre.forSearch code x.cps 0 s₀ x.cps.size must)) _ _ s
    refine run_to_end hc hK hm ?_
    rw [subGo] at hal
    cases hf : firstAt P (x.cps.size - s₀ + 1) s₀ with
    | none =>
      rw [hf] at hal
      dsimp only [Option.map] at hal ⊢
      by_cases hlt : s₀ < x.cps.size
      · rw [if_pos hlt] at hal
        show wpAny _ _ (if (s₀ < x.cps.size) then (reSlice x.cps 0 s₀ x.cps.size >>= fun v => updateSeq d (fun x => x.push v) >>= fun _ => subEnd x d c) else _) _ _ _
        rw [if_pos hlt]
        refine wpAny_bind ?_
        show wpAny _ _ (mkStr ⟨x.cps.extract s₀ x.cps.size⟩) _ _ _
        refine wpAny_mkStr ?_ (by show (x.cps.extract s₀ x.cps.size).size ≤ sizeLine; rw [Array.size_extract]; unfold sizeLine; omega)
        refine wpAny_bind (upd_push (s := { s with toks := s.toks + 1 }) hl (fun h' hl' hs => ?_) (by unfold sizeLine; omega))
        refine sub_end (h₀ := h₀) (ps := ps.push (.str ⟨x.cps.extract s₀ x.cps.size⟩ s.toks)) (fun b o g => (hs.2 b (fun e => by rw [e, hd] at g; cases g)).trans (hk b o g)) hl' (by rw [Array.toList_push]; exact strs_push hps _ _) (by rw [hal]; exact hall) ?_
        rw [hal]
        exact fun h'' tk tk' g => hR h'' tk tk' g
      · rw [if_neg hlt, List.append_nil] at hal
        show wpAny _ _ (if (s₀ < x.cps.size) then _ else subEnd x d c) _ _ _
        rw [if_neg hlt]
        exact sub_end (h₀ := h₀) hk hl hps (by rw [hal]; exact hall) (by rw [hal]; exact hR)
    | some p =>
      obtain ⟨b, e⟩ := p
      rw [hf] at hal hm
      obtain ⟨hm1, hm2, hm3⟩ := hm
      have hbe := hP _ _ (firstAt_ok _ _ hf)
      have hge := firstAt_ge _ _ hf
      dsimp only [Option.map] at hal ⊢
      have fin : ∀ (ps : Array Value) (zs : List PySem.Str) (s : Shared), (∀ b o, h₀.get? b = some o → s.heap.get? b = some o) → s.heap.IsList d ps → StrsAre ps.toList zs → zs ++ y :: subGo P x y n e = all → ps.size ≤ sizeLine →
          (∀ h' tk tk', (∀ b o, h₀.get? b = some o → h'.get? b = some o) → R (.ok (.ret (.str (Txt.join ⟨#[]⟩ all) tk))) { s with heap := h', toks := tk' }) →
          wpAny (model prog w) A.in1 (updateSeq d (fun x => x.push (.str y u)) >>= fun _ => again (.builtin "re.Pattern.sub.loop" ⟨[.ref a, .str x t, .str y u, rawInt 0, rawInt 0, rawInt (c + 1), rawInt m.handed, rawInt m.handed, .bool (m.handed == m.start), .ref d, .bool false], []⟩))
            (fun fin s' => match fin with | .done f => R (.ok f) s' | .again c' => c'.quiet = true ∧ codeAny (model prog w) A c' R s') (fun e s' => R (.error e) s') s := by
        intro ps zs s hk hl hps hal hsz hR
        refine wpAny_bind (upd_push hl (fun h' hl' hs => ?_) hsz)
        refine wpAny_pure ⟨plainId_quiet plain_pat_loop _, ?_⟩
        rw [hm3]
        refine ih (c + 1) e _ (ps.push (.str y u)) (zs ++ [y]) { s with heap := h' } hbe.2 (by omega) (fun b o g => (hs.2 b (fun e => by rw [e, hd] at g; cases g)).trans (hk b o g)) hl' (by rw [Array.toList_push]; exact strs_push hps _ _) ?_ hR
        rw [List.append_assoc]; exact hal
      by_cases hlt : s₀ < b
      · rw [if_pos hlt] at hal
        show wpAny _ _ (if (s₀ < m.start) then (reSlice x.cps 0 s₀ m.start >>= fun v => updateSeq d (fun x => x.push v) >>= fun _ => (updateSeq d (fun x => x.push (.str y u)) >>= fun _ => again (.builtin "re.Pattern.sub.loop" ⟨[.ref a, .str x t, .str y u, rawInt 0, rawInt 0, rawInt (c + 1), rawInt m.handed, rawInt m.handed, .bool (m.handed == m.start), .ref d, .bool false], []⟩))) else _) _ _ _
        rw [hm2, if_pos hlt]
        refine wpAny_bind ?_
        show wpAny _ _ (mkStr ⟨x.cps.extract s₀ b⟩) _ _ _
        refine wpAny_mkStr ?_ (by show (x.cps.extract s₀ b).size ≤ sizeLine; rw [Array.size_extract]; unfold sizeLine; omega)
        refine wpAny_bind (upd_push (s := { s with toks := s.toks + 1 }) hl (fun h' hl' hs => ?_) (by unfold sizeLine; omega))
        rw [← hm2]
        refine fin (ps.push (.str ⟨x.cps.extract s₀ b⟩ s.toks)) (ys ++ [⟨x.cps.extract s₀ b⟩]) { s with heap := h', toks := s.toks + 1 } (fun b o g => (hs.2 b (fun e => by rw [e, hd] at g; cases g)).trans (hk b o g)) hl' (by rw [Array.toList_push]; exact strs_push hps _ _) ?_ (by rw [Array.size_push]; unfold sizeLine; omega) (fun h'' tk tk' g => hR h'' tk tk' g)
        rw [List.append_assoc]; exact hal
      · rw [if_neg hlt] at hal
        show wpAny _ _ (if (s₀ < m.start) then _ else (updateSeq d (fun x => x.push (.str y u)) >>= fun _ => again (.builtin "re.Pattern.sub.loop" ⟨[.ref a, .str x t, .str y u, rawInt 0, rawInt 0, rawInt (c + 1), rawInt m.handed, rawInt m.handed, .bool (m.handed == m.start), .ref d, .bool false], []⟩))) _ _ _
        rw [if_neg (by rw [hm2]; exact hlt)]
        exact fin ps ys s hk hl hps hal (by unfold sizeLine; omega) hR
end
end
end
section
open PySem PySem.W PyProof.Rows PySem.Spec PySem.Calls
set_option maxRecDepth 100000
section
section
variable {M : Model} {prog : Program} {w : World} {A : Around} {E : Value → Shared → Prop} {s : Shared} {a : Addr} {code : Array Nat} {x y : PySem.Str} {t u : Tok}
open Builtin.Re
theorem fresh_none {h : Heap} : h.get? h.objs.size = none := by
  cases e : h.get? h.objs.size with
  | none => rfl
  | some o => exact absurd (Heap.lt_size e) (Nat.lt_irrefl _)
theorem named_sub {r z : Value} : reNamed "re.Pattern.sub" "sub" ["repl", "string", "count"] 2 [r, z] [] = pure [some r, some z, none] := by rfl
theorem call_sub {P : Nat → Option Nat} {K : Nat} (hK : K < 2 ^ 64) (hx : x.cps.size ≤ 100000) (hP : ∀ s e, P s = some e → s < e ∧ e ≤ x.cps.size)
    (hS : ∀ s must, s ≤ x.cps.size → ∃ m, Comes K (Sre.forSearch code x.cps 0 s x.cps.size must) m ∧ Said (firstAt P (x.cps.size - s + 1) s) m)
    (X : IsPat s.heap a code) (hy : y.cps.contains 92 = false) {Q : Value → Shared → Prop} {all : List PySem.Str} (hal : subGo P x y (x.cps.size + 1) 0 = all) (hall : (all.map (·.length)).sum + all.length * 64 ≤ 16777216)
    (hQ : ∀ h' tk tk', (∀ b o, s.heap.get? b = some o → h'.get? b = some o) → Q (.str (Txt.join ⟨#[]⟩ all) tk) { s with heap := h', toks := tk' }) :
    wpAny (model prog w) A (call (.builtin "re.Pattern.sub") [.ref a, .str y u, .str x t]) Q E s := by
  obtain ⟨pat, pt, fl, ft, b, h1, _⟩ := id X.ob
  refine wpAny_call (codeAny_call_builtin slot_pat_sub.plain entry_pat_sub (slot_pat_sub.check _ _ _ _ _ _ _ _ ⟨_, h1, rfl⟩ (args_pat_sub_3 _ _ _) ?_))
  show wpAny _ _ (reSubstitute "re.Pattern.sub" "sub" false ⟨[.ref a, .str y u, .str x t], []⟩) _ _ _
  unfold reSubstitute
  dsimp only
  rw [named_sub ]
  refine wpAny_bind (wpAny_pure ?_)
  refine wpAny_bind (wpAny_pure ?_)
  refine wpAny_bind (wpAny_specialOf (typeIs_str _ _ _) str_nocall ?_)
  rw [if_neg (by exact Bool.false_ne_true)]
  refine wpAny_bind (wpAny_pure ?_)
  refine wpAny_bind (wpAny_pure ?_)
  rw [if_neg (by exact Bool.false_ne_true), hy]
  rw [if_pos (by exact rfl)]
  refine wpAny_bind (wpAny_pure ?_)
  refine wpAny_bind (wpAny_holding (whole_target X ?_))
  rw [if_neg (by exact Bool.false_ne_true)]
  refine wpAny_bind (wpAny_newList ?_ (by decide))
  refine wpAny_pure ⟨plainId_quiet plain_pat_loop _, ?_⟩
  refine sub_loop (h₀ := s.heap) (d := s.heap.objs.size) hK hx hP hS X fresh_none hall (x.cps.size + 1) 0 0 false #[] [] _ (by omega) (by omega) ?_ ?_ .nil hal hQ
  · exact fun b o g => Heap.get?_push_of_some _ g
  · exact ⟨_, Heap.get?_push_size _ rfl, rfl, 0, rfl⟩
end
end
end
section
open PySem PySem.W PyProof.Rows PySem.Spec PySem.Calls
section
/-- pieces side by side -/
def flat (l : List PySem.Str) : List Nat := (l.map fun z => z.cps.toList).flatten
theorem join_empty : ∀ l : List PySem.Str, (Txt.join ⟨#[]⟩ l).cps.toList = flat l := by
  intro l
  unfold Txt.join
  rw [StrLaws.glued_eq_join]
  induction l with
  | nil => rfl
  | cons a r ih =>
    cases r with
    | nil => unfold flat; simp [Str.join]
    | cons b r =>
      rw [Str.join, flat, List.map_cons, List.flatten_cons, ← flat, ← ih]
      · show ((a.cps ++ #[]) ++ _ : Array Nat).toList = _
        simp
      · intro e; cases e
structure Spells (P : Nat → Option Nat) (l y : List Nat) (G : Nat → List Nat) : Prop where
  done : G l.length = []
  on : ∀ s, (h : s < l.length) → P s = none → G s = l[s] :: G (s + 1)
  hit : ∀ s e, P s = some e → G s = y ++ G e
theorem spells_some {P : Nat → Option Nat} {l y : List Nat} {G : Nat → List Nat} (H : Spells P l y G) (hP : ∀ s e, P s = some e → s < e ∧ e ≤ l.length) :
    ∀ (m s a e : Nat), firstAt P m s = some (a, e) → G s = (l.drop s).take (a - s) ++ (y ++ G e)
  | 0, _, _, _, h => by cases h
  | m + 1, s, a, e, h => by
    unfold firstAt at h
    cases g : P s with
    | some z =>
      rw [g] at h
      cases h
      rw [Nat.sub_self, List.take_zero, List.nil_append]
      exact H.hit _ _ g
    | none =>
      rw [g] at h
      have h1 := spells_some H hP m (s + 1) a e h
      have h2 := firstAt_ge _ _ h
      have h3 := hP _ _ (firstAt_ok _ _ h)
      have hs : s < l.length := by omega
      rw [H.on s hs g, h1, List.drop_eq_getElem_cons hs, show a - s = (a - (s + 1)) + 1 by omega, List.take_succ_cons, List.cons_append]
theorem spells_none {P : Nat → Option Nat} {l y : List Nat} {G : Nat → List Nat} (H : Spells P l y G) :
    ∀ (m s : Nat), l.length + 1 = s + m → 0 < m → firstAt P m s = none → G s = l.drop s
  | 0, _, _, h, _ => by omega
  | m + 1, s, hm, _, h => by
    unfold firstAt at h
    cases g : P s with
    | some z => rw [g] at h; cases h
    | none =>
      rw [g] at h
      by_cases hs : s < l.length
      · rw [H.on s hs g, spells_none H m (s + 1) (by omega) (by omega) h, ← List.drop_eq_getElem_cons hs]
      · have : s = l.length := by omega
        rw [this, H.done, List.drop_length]
theorem spells_flat {P : Nat → Option Nat} {x y : PySem.Str} {G : Nat → List Nat} (H : Spells P x.cps.toList y.cps.toList G) (hP : ∀ s e, P s = some e → s < e ∧ e ≤ x.cps.size) :
    ∀ (n s : Nat), s ≤ x.cps.size → x.cps.size + 1 ≤ s + n → flat (subGo P x y n s) = G s
  | 0, s, h, h' => by omega
  | n + 1, s, h, h' => by
    have hl : x.cps.toList.length = x.cps.size := Array.length_toList
    unfold subGo
    cases hf : firstAt P (x.cps.size - s + 1) s with
    | none =>
      rw [spells_none H (x.cps.size - s + 1) s (by rw [hl]; omega) (by omega) hf]
      by_cases hs : s < x.cps.size
      · show flat (if _ then _ else _) = _
        rw [if_pos hs]
        unfold flat
        simp only [List.map_cons, List.map_nil, List.flatten_cons, List.flatten_nil, List.append_nil, Array.toList_extract, List.extract_eq_take_drop]
        rw [List.take_of_length_le (by rw [List.length_drop, hl]; omega)]
      · show flat (if _ then _ else _) = _
        rw [if_neg hs]
        have : x.cps.toList.length ≤ s := by rw [hl]; omega
        rw [List.drop_of_length_le this]; rfl
    | some p =>
      obtain ⟨a, e⟩ := p
      have h2 := firstAt_ge _ _ hf
      have h3 := hP _ _ (firstAt_ok _ _ hf)
      rw [spells_some H (by rw [hl]; exact hP) _ s a e hf, ← spells_flat H hP n e (by omega) (by omega)]
      show flat ((if s < a then _ else _) ++ y :: subGo P x y n e) = _
      by_cases hs : s < a
      · rw [if_pos hs]
        unfold flat
        simp only [List.map_cons, List.map_nil, List.map_append, List.flatten_cons, List.flatten_append, List.flatten_nil, List.append_nil, Array.toList_extract, List.extract_eq_take_drop]
      · rw [if_neg hs, show a - s = 0 by omega]
        unfold flat
        simp
theorem flat_len : ∀ l : List PySem.Str, (l.map (·.length)).sum = (flat l).length
  | [] => rfl
  | a :: r => by
    unfold flat
    rw [List.map_cons, List.sum_cons, flat_len r, List.map_cons, List.flatten_cons, List.length_append]
    show a.cps.size + _ = _
    rw [Array.length_toList]; rfl
theorem subGo_len {P : Nat → Option Nat} {x y : PySem.Str} (hP : ∀ s e, P s = some e → s < e ∧ e ≤ x.cps.size) : ∀ (n s : Nat), s ≤ x.cps.size → (subGo P x y n s).length ≤ 2 * (x.cps.size - s) + 1
  | 0, _, _ => by show 0 ≤ _; omega
  | n + 1, s, h => by
    unfold subGo
    cases hf : firstAt P (x.cps.size - s + 1) s with
    | none => show List.length (if _ then _ else _) ≤ _; split <;> simp
    | some p =>
      obtain ⟨a, e⟩ := p
      have h2 := firstAt_ge _ _ hf
      have h3 := hP _ _ (firstAt_ok _ _ hf)
      have ih := subGo_len (y := y) hP n e h3.2
      show List.length ((if s < a then _ else _) ++ y :: subGo P x y n e) ≤ _
      by_cases hs : s < a
      · rw [if_pos hs, List.length_append, List.length_cons, List.length_cons, List.length_nil]; omega
      · rw [if_neg hs, List.nil_append, List.length_cons]; omega
/-- every end of a line as 13, 10; cr: a 13 stood just before -/
def nls : Bool → List Nat → List Nat
  | _, [] => []
  | cr, c :: r => if c = 13 then 13 :: 10 :: nls true r else if c = 10 then (if cr = true then nls false r else 13 :: 10 :: nls false r) else c :: nls false r
theorem nls_cr {l : List Nat} (h : ∀ r, l ≠ 10 :: r) : nls true l = nls false l := by
  cases l with
  | nil => rfl
  | cons c r =>
    have : c ≠ 10 := fun e => h r (by rw [e])
    rw [nls, nls, if_neg this, if_neg this]
/-- a dot at a line's begin doubled -/
def dots : Bool → List Nat → List Nat
  | _, [] => []
  | b, c :: r => if b = true ∧ c = 46 then 46 :: 46 :: dots false r else c :: dots (c == 10) r
theorem at2_ok {t : Array Nat} (s e : Nat) (h : at2 t s = some e) : s < e ∧ e ≤ t.size := by
  unfold at2 at h
  split at h
  · split at h
    · split at h
      · cases h; omega
      · cases h; omega
    · split at h
      · cases h; omega
      · cases h
  · cases h
theorem at1_ok {t : Array Nat} (s e : Nat) (h : at1 t s = some e) : s < e ∧ e ≤ t.size := by
  unfold at1 at h
  split at h
  · cases h; omega
  · cases h
theorem getD_list {t : Array Nat} {s : Nat} (h : s < t.toList.length) : t.getD s 0 = t.toList[s] := by
  have : s < t.size := by rwa [Array.length_toList] at h
  simp [Array.getD, this]
theorem nls_spells (t : Array Nat) : Spells (at2 t) t.toList [13, 10] (fun s => nls false (t.toList.drop s)) := by
  refine ⟨by rw [List.drop_length, nls], ?_, ?_⟩
  · intro s h hp
    have hs : s < t.size := by rwa [Array.length_toList] at h
    unfold at2 at hp
    rw [if_pos hs, getD_list h] at hp
    show nls false (t.toList.drop s) = _ :: nls false (List.drop _ _)
    rw [List.drop_eq_getElem_cons h, nls]
    by_cases h13 : t.toList[s] = 13
    · rw [if_pos h13] at hp; split at hp <;> cases hp
    · rw [if_neg h13] at hp
      by_cases h10 : t.toList[s] = 10
      · rw [if_pos h10] at hp; cases hp
      · rw [if_neg h13, if_neg h10]
  · intro s e hp
    unfold at2 at hp
    by_cases hs : s < t.size
    · have h : s < t.toList.length := by rwa [Array.length_toList]
      rw [if_pos hs, getD_list h] at hp
      show nls false (t.toList.drop s) = _ ++ nls false (List.drop _ _)
      rw [List.drop_eq_getElem_cons h, nls]
      by_cases h13 : t.toList[s] = 13
      · rw [if_pos h13] at hp
        rw [if_pos h13]
        by_cases hn : s + 1 < t.size ∧ t.getD (s + 1) 0 = 10
        · rw [if_pos hn] at hp
          cases hp
          have h' : s + 1 < t.toList.length := by rw [Array.length_toList]; exact hn.1
          have h10 := hn.2
          rw [getD_list h'] at h10
          rw [List.drop_eq_getElem_cons h', h10]
          rfl
        · rw [if_neg hn] at hp
          cases hp
          rw [nls_cr]
          · rfl
          · intro r' e
            have h' : s + 1 < t.toList.length := by
              by_cases hh : s + 1 < t.toList.length
              · exact hh
              · rw [List.drop_of_length_le (by omega)] at e; cases e
            rw [List.drop_eq_getElem_cons h'] at e
            refine hn ⟨by rwa [Array.length_toList] at h', ?_⟩
            rw [getD_list h']
            exact (List.cons.inj e).1
      · rw [if_neg h13] at hp
        by_cases h10 : t.toList[s] = 10
        · rw [if_pos h10] at hp
          cases hp
          rw [if_neg h13, if_pos h10]; rfl
        · rw [if_neg h10] at hp; cases hp
    · rw [if_neg hs] at hp; cases hp
theorem dots_spells (t : Array Nat) : Spells (at1 t) t.toList [46, 46] (fun s => dots (s == 0 || t.getD (s - 1) 0 == 10) (t.toList.drop s)) := by
  refine ⟨by show dots _ (List.drop _ _) = _; rw [List.drop_length, dots], ?_, ?_⟩
  · intro s h hp
    have hs : s < t.size := by rwa [Array.length_toList] at h
    unfold at1 at hp
    show dots _ (List.drop _ _) = _ :: dots _ (List.drop _ _)
    rw [List.drop_eq_getElem_cons h, dots]
    have hn : ¬ ((s == 0 || t.getD (s - 1) 0 == 10) = true ∧ s < t.size ∧ t.getD s 0 = 46) := fun hn => by rw [if_pos hn] at hp; cases hp
    rw [if_neg (fun g => hn ⟨g.1, hs, by rw [getD_list h]; exact g.2⟩)]
    have : (s + 1 == 0 || t.getD (s + 1 - 1) 0 == 10) = (t.toList[s] == 10) := by
      rw [show s + 1 - 1 = s from rfl, getD_list h]; simp
    rw [this]
  · intro s e hp
    unfold at1 at hp
    by_cases hn : (s == 0 || t.getD (s - 1) 0 == 10) = true ∧ s < t.size ∧ t.getD s 0 = 46
    · rw [if_pos hn] at hp
      have he := Option.some.inj hp
      have h : s < t.toList.length := by rw [Array.length_toList]; exact hn.2.1
      have h46 := hn.2.2
      rw [getD_list h] at h46
      show dots _ (List.drop _ _) = [46, 46] ++ dots _ (List.drop _ _)
      rw [List.drop_eq_getElem_cons h, dots, if_pos ⟨hn.1, h46⟩, ← he]
      have : (s + 1 == 0 || t.getD (s + 1 - 1) 0 == 10) = false := by
        rw [show s + 1 - 1 = s from rfl, getD_list h, h46]; simp
      rw [this]
      rfl
    · rw [if_neg hn] at hp; cases hp
end
end
section
open PySem PySem.W PyProof.Rows PySem.Spec PySem.Calls
section
theorem words_on_Q6 : True := by
  k_with_none
  (k_with "m cj" => with_reducible first | assumption | exact And.left (by assumption) | exact And.left (And.right (by assumption)) | exact And.right (by assumption) | exact And.left (And.right (And.right (by assumption))) | exact And.right (And.right (by assumption)) | exact And.left (And.right (And.right (And.right (by assumption)))) | exact And.right (And.right (And.right (by assumption))) | exact And.left (r4 (by assumption)) | exact r4 (by assumption) | exact And.left (r4 (And.right (by assumption))) | exact r4 (And.right (by assumption)) | exact And.left (r4 (And.right (And.right (by assumption)))) | exact r4 (And.right (And.right (by assumption))) | exact And.left (r4 (And.right (And.right (And.right (by assumption))))) | exact r4 (And.right (And.right (And.right (by assumption)))) | exact And.left (r4 (r4 (by assumption))) | exact r4 (r4 (by assumption)) | exact And.left (r4 (r4 (And.right (by assumption)))) | exact r4 (r4 (And.right (by assumption))) | exact And.left (r4 (r4 (And.right (And.right (by assumption))))) | exact r4 (r4 (And.right (And.right (by assumption)))) | exact And.left (r4 (r4 (And.right (And.right (And.right (by assumption)))))) | exact r4 (r4 (And.right (And.right (And.right (by assumption))))) | exact And.left (r4 (r4 (r4 (by assumption)))) | exact r4 (r4 (r4 (by assumption))) | exact And.left (r4 (r4 (r4 (And.right (by assumption))))) | exact r4 (r4 (r4 (And.right (by assumption)))) | exact And.left (r4 (r4 (r4 (And.right (And.right (by assumption)))))) | exact r4 (r4 (r4 (And.right (And.right (by assumption))))) | exact And.left (r4 (r4 (r4 (And.right (And.right (And.right (by assumption))))))) | exact r4 (r4 (r4 (And.right (And.right (And.right (by assumption)))))))
  (k_with "m le" => first | exact Nat.le_refl _ | (with_reducible refine le_s ?_; k_extra "m le") | (refine Nat.le_of_lt ?_; k_extra "m cj"))
  (k_with "m off" => first | (with_reducible refine ne_ss ?_; k_extra "m off") | (with_reducible refine ne_ls ?_; k_extra "m le") | (with_reducible refine ne_rs ?_; k_extra "m le"))
  (k_with "m enter" => (k_dflt (refine' enter (by assumption) (by assumption) (by exact Nat.le_of_ble_eq_true rfl) (by k_is) (by k_is) (by exact BindsTo.of_eq rfl) (by exact locs rfl) ?_ (by exact rfl) (by exact rfl) (by exact rfl) (by decide); k_whole; intro _ _ _ _; (try dsimp only); (try k_fold))))
  (k_with "m enterC" => (k_dflt (refine' enterC (by assumption) (by assumption) (by exact Nat.le_of_ble_eq_true rfl) (by k_is) (by k_is) (by exact BindsTo.of_eq rfl) (by exact rfl) (by decide +kernel) ?_ (by exact rfl) (by exact rfl) (by exact rfl); k_whole; intro _ _ _ _ _ _ Y'; k_cells Y'; (try dsimp only); (try k_fold))))
  (k_with "m ints" => first | assumption | (repeat' (first | exact IntsAre.nil | refine IntsAre.cons _ _ ?_)))
  (k_with "m len" => first | omega | (simp only [List.length_cons, List.length_nil, List.length_append, List.length_replicate, List.length_take, List.length_map, List.length_flatten, List.map_replicate, List.sum_replicate_nat, Int.toNat]; omega) | (simp; omega))
  (k_with "CompSrc" => refine Stop.out ?_)
  (k_with "CompEnd" => refine Stop.out ?_)
  (k_with "m range" => (refine Stop.mk ?_; k_dflt (refine LCg.CompSrc.range (by rfl) (by k_asm) (by k_asm) (by assumption) (by decide) (by rfl) (by size_fits) ?_); intro _))
  (k_with "m end" => (refine Stop.mk ?_; refine LCg.CompEnd.intro (by assumption) (by assumption) _ (by kcf_all) (by first | assumption | (simp only [LCg.Off3, and_true]; done) | (simp only [LCg.Off3, and_true]; assumption)) (by first | lcg_src | assumption) ⟨rfl, ?_⟩))
  (k_with "m base" => first | exact base_list (by k_asm) (by assumption) | exact News.isList (by k_asm) (by k_mem))
  (k_with "assign Tuple" => (k_here; (with_reducible show wpAny _ _ (assign (Expr.Tuple _ _ _) _ (Value.ref _)) _ _ _); k_dflt (refine' kun_list (by k_asm) (by k_asm) (by k_extra "m base") (by exact rfl) (by exact rfl) (by exact rfl) ?_; k_whole); intro _ _ _; (try k_sweep)))
  (k_with "subscriptTail Name Name ref int" => k_extra "m sub")
  (k_with "subscriptTail Name Subscript ref int" => k_extra "m sub")
  (k_with "subscriptTail Name Call ref int" => k_extra "m sub")
  (k_with "subscriptTail Attribute Name ref int" => k_extra "m sub")
  (k_with "m sub" => (k_here; (with_reducible show wpAny _ _ (subscriptTail _ _ (Value.ref _) (Value.int _ _)) _ _ _); first | ((with_reducible show wpAny _ _ (subscriptTail _ _ (Value.ref _) (Value.int (Nat.cast _) _)) _ _ _); first | (k_dflt (refine' sub_pairs (by k_asm) (by with_reducible assumption) (by omega) ?_; k_whole); intro _ _ _ _) | (k_dflt (refine' sub_intsN (by k_asm) (by k_mem) (by k_extra "m ints") (by k_extra "m len") (by k_extra "m len") ?_; k_whole); intro _) | (k_dflt (refine' sub_baseN (by k_asm) (by with_reducible assumption) (by k_extra "m ints") (by k_extra "m len") (by k_extra "m len") ?_; k_whole); intro _)) | (k_dflt (refine' sub_ints (by k_asm) (by k_mem) (by k_extra "m ints") (by omega) (by k_extra "m len") (by k_extra "m len") ?_; k_whole); intro _) | (k_dflt (refine' sub_base (by k_asm) (by with_reducible assumption) (by k_extra "m ints") (by omega) (by k_extra "m len") (by k_extra "m len") ?_; k_whole); intro _)))
  (k_with "call ref" => refine Stop.out ?_)
  (k_with "exec While Compare cons nil" => refine Stop.out ?_)
  (k_with "pyIter ref" => refine Stop.out ?_)
  (k_with "exec For Name Call cons nil" => (k_dflt (refine wpAny_For ?_); (try k_unmd); (try k_fold)))
  (k_with "exec For Tuple Subscript cons nil" => (k_dflt (refine wpAny_For ?_); (try k_unmd); (try k_fold)))
  (k_with "exec For Tuple Name cons nil" => (k_dflt (refine wpAny_For ?_); (try k_unmd); (try k_fold)))
  (k_with "binaryOp RShift int int" => (with_reducible refine rsh6 ?_))
  (k_with "binaryOp LShift int int" => (with_reducible refine lsh6 (by k_dflt omega) ?_))
  (k_with "m ret" => ((try k_unmd); (try k_unfold); refine' Ret.intro [_] (by k_asm) (by k_asm) (fun p hp => by rw [List.mem_singleton.mp hp]; exact List.mem_cons_self) ?_))
  (k_with "binaryOp Mult int int" => ((with_reducible refine mul_int ?_ (by k_dflt (first | exact IntMulOk.of_left (intBits_le_64 (by omega) (by omega)) | exact IntMulOk.of_right (intBits_le_64 (by omega) (by omega)))))))
  (k_with "call builtin:max" => ((with_reducible show wpAny _ _ (call (Value.builtin _) [Value.float _ _, Value.float _ _, Value.float _ _]) _ _ _); k_dflt (refine' float_max3 (by exact rfl) (by k_asm) (by k_asm) ?_; k_whole); intro _ _ _ _ _))
  (k_with "call builtin:min" => ((with_reducible show wpAny _ _ (call (Value.builtin _) [Value.float _ _, Value.float _ _, Value.float _ _]) _ _ _); k_dflt (refine' float_min3 (by exact rfl) (by k_asm) (by k_asm) ?_; k_whole); intro _ _ _ _ _))
  (k_with "call builtin:min" => ((with_reducible show wpAny _ _ (call (Value.builtin _) [Value.float _ _, Value.float _ _]) _ _ _); k_dflt (refine' float_min2 (by exact rfl) (by k_asm) (by k_asm) ?_; k_whole); intro _ _ _ _ _))
  (k_with "binaryOp Div float float" => ((with_reducible refine AutoFloatOps.truediv_1 (by k_dflt (first | assumption | decide | exact Nz.out (by assumption) (by assumption))) ?_); (try dsimp only [Made.post])))
  (k_with "binaryOp Mod float float" => ((with_reducible refine AutoFloatOps.mod_1 (by k_dflt (first | assumption | decide | exact Nz.out (by assumption) (by assumption))) ?_); (try dsimp only [Made.post])))
  (k_with "ite" => first | refine ite_t (by assumption) ?_ | refine ite_f (by assumption) ?_ | refine ite_t (Ng.out (by assumption) (by assumption)) ?_)
  (k_with "eval ListComp" => ((with_reducible refine' ListComp_if (by with_unfolding_all rfl) (by with_unfolding_all rfl) (by k_dflt decide) ?_ (by (intro _; with_unfolding_all rfl))); (try k_unmd); (try k_fold)))
  (k_with "exec Assign cons ListComp" => ((with_reducible refine' Assign_if (by with_unfolding_all rfl) (by with_unfolding_all rfl) (by with_unfolding_all rfl) (by k_dflt decide) ?_ (by (intro _; with_unfolding_all rfl))); (try k_unmd); (try k_fold)))
  (k_with "IfGo" => refine Stop.out ?_)
  (k_with "IfTurn" => refine Stop.out ?_)
  (k_with "IfDone" => refine Stop.out ?_)
  (k_with "ForEnd2" => refine Stop.out ?_)
  (k_with "call builtin:max" => ((with_reducible show wpAny _ _ (call (Value.builtin _) [Value.ref _]) _ _ _); k_dflt (refine' max_list_N (by exact rfl) (by k_asm) (by k_asm) (by k_extra "m base") (by k_extra "m ints") (by (first | assumption | omega | exact ne_dec (by assumption))) ?_; k_whole); intro _ _ _ _ _ _ _ _))
  (k_with "m ledger" => (refine Stop.mk ?_; k_dflt (refine LCg.CompSrc.ledger (by rfl) (by k_asm) (by k_asm) (by k_mem) (by size_fits) ?_); intro _))
  (k_with "getMethod ref" => ((with_reducible show wpAny _ _ (getMethod (Value.ref _) (Str.ofString "sub") _) _ _ _); refine Stop.out ?_))
  (k_with "m tl" => first | assumption | (refine' List.Mem.tail _ ?_; k_extra "m tl") | exact (by assumption : ∀ q : Addr × Obj, q ∈ (_ : List (Addr × Obj)) → q ∈ (_ : List (Addr × Obj))) _ (by assumption))
  (k_with "m inc" => first | exact List.forall_mem_nil _ | (refine' List.forall_mem_cons.mpr ⟨(by k_mem), (by k_extra "m inc")⟩) | (intro _ _; k_extra "m tl"))
  trivial
theorem pat_57 {w : World} {h : Heap} (X : (Mine.KK w.params).In h) : IsPat h 57 c1 :=
  ⟨_, _, _, _, 56, X 57 _ rfl, _, _, _, X 56 _ rfl, rfl, by rw [List.map_toArray]; rfl⟩
theorem pat_62 {w : World} {h : Heap} (X : (Mine.KK w.params).In h) : IsPat h 62 c2 :=
  ⟨_, _, _, _, 61, X 62 _ rfl, _, _, _, X 61 _ rfl, rfl, by rw [List.map_toArray]; rfl⟩
theorem str_of_list {z : PySem.Str} {l : List Nat} (h : z.cps.toList = l) : z = ⟨l.toArray⟩ := by
  obtain ⟨a⟩ := z
  subst h
  rfl
theorem sub_nl {prog : Program} {w : World} {A : Around} {E : Value → Shared → Prop} {s : Shared} {a : Addr} {x : PySem.Str} {t u : Tok} (hx : x.cps.size ≤ 10000) (X : IsPat s.heap a c2) {Q : Value → Shared → Prop}
    (hQ : ∀ h' tk tk', (∀ b o, s.heap.get? b = some o → h'.get? b = some o) → Q (.str ⟨(nls false x.cps.toList).toArray⟩ tk) { s with heap := h', toks := tk' }) :
    wpAny (model prog w) A (call (.builtin "re.Pattern.sub") [.ref a, .str (Str.ofString "\r\n") u, .str x t]) Q E s := by
  have hf := spells_flat (x := x) (y := Str.ofString "\r\n") (nls_spells x.cps) at2_ok (x.cps.size + 1) 0 (by omega) (by omega)
  have hn : ∀ (l : List Nat) (b : Bool), (nls b l).length ≤ 2 * l.length := by
    intro l
    induction l with
    | nil => intro b; simp [nls]
    | cons c r ih =>
      intro b
      rw [nls]
      have h1 := ih true; have h2 := ih false
      split
      · simp only [List.length_cons]; omega
      · split
        · split
          · simp only [List.length_cons]; omega
          · simp only [List.length_cons]; omega
        · simp only [List.length_cons]; omega
  refine call_sub (P := at2 x.cps) (K := 21) (by decide) (by omega) at2_ok (fun s must h => search2 h) X (by decide +kernel) rfl ?_ ?_
  · have h1 := subGo_len (x := x) (y := Str.ofString "\r\n") at2_ok (x.cps.size + 1) 0 (by omega)
    rw [flat_len, hf, List.drop_zero]
    have h2 := hn x.cps.toList false
    have hl : x.cps.toList.length = x.cps.size := Array.length_toList
    omega
  · intro h' tk tk' hk
    rw [str_of_list (join_empty _), hf, List.drop_zero]
    exact hQ h' tk tk' hk
theorem sub_dots {prog : Program} {w : World} {A : Around} {E : Value → Shared → Prop} {s : Shared} {a : Addr} {x : PySem.Str} {t u : Tok} (hx : x.cps.size ≤ 20000) (X : IsPat s.heap a c1) {Q : Value → Shared → Prop}
    (hQ : ∀ h' tk tk', (∀ b o, s.heap.get? b = some o → h'.get? b = some o) → Q (.str ⟨(dots true x.cps.toList).toArray⟩ tk) { s with heap := h', toks := tk' }) :
    wpAny (model prog w) A (call (.builtin "re.Pattern.sub") [.ref a, .str (Str.ofString "..") u, .str x t]) Q E s := by
  have hf := spells_flat (x := x) (y := Str.ofString "..") (dots_spells x.cps) at1_ok (x.cps.size + 1) 0 (by omega) (by omega)
  have hn : ∀ (l : List Nat) (b : Bool), (dots b l).length ≤ 2 * l.length := by
    intro l
    induction l with
    | nil => intro b; simp [dots]
    | cons c r ih =>
      intro b
      rw [dots]
      have h1 := ih (c == 10); have h2 := ih false
      split <;> simp only [List.length_cons] <;> omega
  refine call_sub (P := at1 x.cps) (K := 3 * x.cps.size + 10) (by omega) (by omega) at1_ok (fun s must h => search1 h) X (by decide +kernel) rfl ?_ ?_
  · have h1 := subGo_len (x := x) (y := Str.ofString "..") at1_ok (x.cps.size + 1) 0 (by omega)
    rw [flat_len, hf, List.drop_zero]
    have h2 := hn x.cps.toList true
    have hl : x.cps.toList.length = x.cps.size := Array.length_toList
    show (dots true _).length + _ ≤ _
    omega
  · intro h' tk tk' hk
    rw [str_of_list (join_empty _), hf, List.drop_zero]
    exact hQ h' tk tk' hk
set_option maxRecDepth 100000 in
set_option maxHeartbeats 4000000 in
theorem quote_c {w : World} {p : Program} {loose : List Str} {mean : ExcName → Option Value} {mg mb : Str → Option Value} {fr : Option (List Env)} {gd : Option (List Code)} {s : Shared}
  (X : (Mine.KK w.params).In s.heap) (T : Top p loose mean mg mb s.heap)
  (x : Str) (t : Tok) (hx : x.cps.size ≤ 10000) (hx2 : (nls false x.cps.toList).length ≤ 20000) :
  codeAny (model PySem.Challenge.rw_tl0015_01.row.prog w) (Ac 1 fr gd) (.call (.ref 69) ⟨[.str x t], []⟩) (Ret s fun v own => own = [] ∧ ∃ tk, v = .str ⟨(dots true (nls false x.cps.toList)).toArray⟩ tk) s := by
  revert X; k_fill; intro X
  k_extra "m enter"
  k_steps
  refine Stop.mk (pat_method (pat_57 (X.keeps (Fr.keep (by k_asm)))) ?_)
  k_steps
  refine Stop.mk (pat_method (pat_62 (X.keeps (Fr.keep (by k_asm)))) ?_)
  k_steps
  rename_i L1 h1 F1 N1
  refine sub_nl hx (pat_62 (X.keeps (Fr.keep (by k_asm)))) ?_
  intro h2 tk2 tk2' hk2
  have F2 := F1.keeps hk2
  have N2 : News s.heap L1 h2 [] := fun p hp => by cases hp
  clear F1 N1
  k_steps
  refine sub_dots (by simpa using hx2) (pat_57 (X.keeps (Fr.keep (by k_asm)))) ?_
  intro h3 tk3 tk3' hk3
  have F3 := F2.keeps hk3
  have N3 : News s.heap L1 h3 [] := fun p hp => by cases hp
  clear F2 N2
  (try k_unmd); (try k_unfold)
  exact Ret.intro [] F3 N3 (fun p hp => by cases hp) ⟨rfl, tk3, rfl⟩
end
end
section
open PySem PySem.W PyProof.Rows PySem.Spec PySem.Calls
section
open StrLaws Builtin.Str
def crlf : PySem.Str := Str.ofString "\r\n"
theorem crlf_at {x : PySem.Str} {k : Nat} : At x crlf x.length k ↔ ∃ r, x.cps.toList.drop k = 13 :: 10 :: r := by
  have hl : x.length = x.cps.toList.length := Array.length_toList.symm
  have hy : crlf.cps.toList = [13, 10] := by decide +kernel
  have hy2 : crlf.length = 2 := by decide +kernel
  unfold At subAt
  rw [hy2, hl, beq_iff_eq, ← Array.toList_inj, hy, Array.toList_extract, List.extract_eq_take_drop, Nat.add_sub_cancel_left]
  constructor
  · rintro ⟨h1, h2⟩
    refine ⟨(x.cps.toList.drop k).drop 2, ?_⟩
    have := List.take_append_drop 2 (x.cps.toList.drop k)
    rw [h2] at this
    exact this.symm
  · rintro ⟨r, h⟩
    refine ⟨?_, by rw [h]; rfl⟩
    have := congrArg List.length h
    rw [List.length_drop, List.length_cons, List.length_cons] at this
    omega
theorem cut_rows {x : PySem.Str} : ∀ (rows : List (List Nat)) (a : Nat) (cuts : List Nat) (f : Nat), (∀ r ∈ rows, 13 ∉ r) → x.cps.toList.drop a = (rows.map (· ++ [13, 10])).flatten → ChainG x crlf x.length a cuts f → (∀ k, f ≤ k → ¬ At x crlf x.length k) →
    partsFrom x 2 a cuts = rows.map (fun r => ⟨r.toArray⟩) ++ [⟨#[]⟩] ∧ (rows ≠ [] → cuts ≠ [])
  | [], a, cuts, f, _, he, hG, hn => by
    rw [List.map_nil, List.flatten_nil] at he
    cases cuts with
    | nil =>
      refine ⟨?_, fun h => absurd rfl h⟩
      show [strSub x a x.length] = [⟨#[]⟩]
      congr 1
      apply Str.ext'
      apply Array.toList_inj.mp
      rw [strSub_toList, he, List.take_nil]
    | cons c r =>
      obtain ⟨h1, h2, _⟩ := hG
      obtain ⟨r', h⟩ := crlf_at.mp h2
      have : x.cps.toList.drop c = [] := by
        rw [show c = a + (c - a) by omega, ← List.drop_drop, he, List.drop_nil]
      rw [this] at h; cases h
  | row :: rows, a, cuts, f, hr, he, hG, hn => by
    rw [List.map_cons, List.flatten_cons, List.append_assoc] at he
    have hat : At x crlf x.length (a + row.length) := by
      refine crlf_at.mpr ⟨(rows.map (· ++ [13, 10])).flatten, ?_⟩
      rw [← List.drop_drop, he, List.drop_left]; rfl
    cases cuts with
    | nil =>
      have e : f = a := hG
      exact absurd hat (hn _ (by omega))
    | cons c r =>
      obtain ⟨h1, h2, h3, h4⟩ := hG
      have hc : c = a + row.length := by
        rcases Nat.lt_trichotomy c (a + row.length) with h | h | h
        · exfalso
          obtain ⟨r', g⟩ := crlf_at.mp h2
          rw [show c = a + (c - a) by omega, ← List.drop_drop, he, List.drop_append_of_le_length (by omega)] at g
          have hm : 13 ∈ row.drop (c - a) := by
            cases hd : row.drop (c - a) with
            | nil =>
              have := congrArg List.length hd
              rw [List.length_drop, List.length_nil] at this
              omega
            | cons b q =>
              rw [hd, List.cons_append] at g
              rw [(List.cons.inj g).1]
              exact .head _
          exact hr row (.head _) (List.mem_of_mem_drop hm)
        · exact h
        · exact absurd hat (h3 _ (by omega) h)
      have h2l : crlf.length = 2 := by decide +kernel
      rw [h2l] at h4
      have ih := cut_rows rows (c + 2) r f (fun r h => hr r (.tail _ h)) (by
        rw [hc, Nat.add_assoc, ← List.drop_drop, he, ← List.drop_drop, List.drop_left]; rfl) h4 hn
      refine ⟨?_, fun _ e => by cases e⟩
      show strSub x a c :: partsFrom x 2 (c + 2) r = _ :: _
      rw [ih.1]
      congr 1
      apply Str.ext'
      apply Array.toList_inj.mp
      rw [strSub_toList, he, hc, Nat.add_sub_cancel_left, List.take_left]
theorem split_rows {x : PySem.Str} {rows : List (List Nat)} (hne : rows ≠ []) (hr : ∀ r ∈ rows, 13 ∉ r) (he : x.cps.toList = (rows.map (· ++ [13, 10])).flatten) :
    Txt.split x crlf = rows.map (fun r => ⟨r.toArray⟩) ++ [⟨#[]⟩] := by
  have h2l : crlf.length = 2 := by decide +kernel
  obtain ⟨f, hG, hn⟩ := occ_tight x crlf (by rw [h2l]; decide)
  have h := cut_rows rows 0 _ f hr he hG hn
  have hlen : 2 ≤ x.length := by
    show 2 ≤ x.cps.size
    rw [← Array.length_toList, he]
    cases rows with
    | nil => exact absurd rfl hne
    | cons r q => rw [List.map_cons, List.flatten_cons, List.length_append, List.length_append]; simp; omega
  have hk : ¬ Builtin.Str.strKind x < Builtin.Str.strKind crlf := by
    have h1 : Builtin.Str.strKind crlf = 1 := by decide +kernel
    rw [h1]
    unfold Builtin.Str.strKind
    split
    · omega
    · split <;> omega
  unfold Txt.split
  rw [if_neg (by rw [Bool.or_eq_true, decide_eq_true_eq, decide_eq_true_eq, h2l]; omega)]
  rw [if_neg (by rw [List.isEmpty_iff]; exact h.2 hne)]
  rw [partsBetween_eq, h2l]
  exact h.1
def endAt (e : Nat) : List Nat := ([[10], [13], [13, 10]] : List (List Nat)).getD e []
def sentAt (d k e : Nat) : List Nat := List.replicate d 46 ++ nameAt k ++ endAt e
theorem nls_plain : ∀ (l m : List Nat), (∀ c ∈ l, c ≠ 13 ∧ c ≠ 10) → nls false (l ++ m) = l ++ nls false m
  | [], _, _ => rfl
  | c :: r, m, h => by
    have hc := h c (.head _)
    rw [List.cons_append, nls, if_neg hc.1, if_neg hc.2, nls_plain r m fun c g => h c (.tail _ g)]; rfl
theorem dots_plain : ∀ (l m : List Nat), (∀ c ∈ l, c ≠ 10) → dots false (l ++ m) = l ++ dots false m
  | [], _, _ => rfl
  | c :: r, m, h => by
    have hc := h c (.head _)
    rw [List.cons_append, dots, if_neg (fun g => by cases g.1), show (c == 10) = false from beq_false_of_ne hc, dots_plain r m fun c g => h c (.tail _ g)]; rfl
theorem name_plain : ∀ k < 8, (∀ c ∈ nameAt k, c ≠ 13 ∧ c ≠ 10 ∧ c ≠ 46) ∧ nameAt k ≠ [] := by decide
theorem sent_row {d k e : Nat} (hd : d < 4) (hk : k < 8) (he : e < 3) (rest : List Nat) (hrest : ∀ r, rest ≠ 10 :: r) :
    dots true (nls false (sentAt d k e ++ rest)) = ((rowAt d k).cps.toList ++ [13, 10]) ++ dots true (nls false rest) := by
  have hn := name_plain k hk
  unfold sentAt
  rw [List.append_assoc, nls_plain _ _ (fun c hc => by
    rcases List.mem_append.mp hc with h | h
    · rw [(List.mem_replicate.mp h).2]; decide
    · exact ⟨(hn.1 c h).1, (hn.1 c h).2.1⟩)]
  have hE : nls false (endAt e ++ rest) = 13 :: 10 :: nls false rest := by
    have : e = 0 ∨ e = 1 ∨ e = 2 := lt3 _ (by omega)
    rcases this with rfl | rfl | rfl
    · rfl
    · show 13 :: 10 :: nls true rest = _
      rw [nls_cr hrest]
    · rfl
  rw [hE]
  have hD : ∀ m, dots false (13 :: 10 :: m) = 13 :: 10 :: dots true m := fun m => rfl
  have hS : ∀ m, dots true (nameAt k ++ m) = nameAt k ++ dots false m := by
    intro m
    cases hx : nameAt k with
    | nil => exact absurd hx hn.2
    | cons c r =>
      have hc := hn.1 c (by rw [hx]; exact .head _)
      rw [List.cons_append, dots, if_neg (fun g => hc.2.2 g.2), show (c == 10) = false from beq_false_of_ne hc.2.1, dots_plain r m fun c g => (hn.1 c (by rw [hx]; exact .tail _ g)).2.1]
      rfl
  have hR : (rowAt d k).cps.toList = List.replicate (roomAt d) 46 ++ nameAt k := rfl
  rw [hR]
  have : d = 0 ∨ d = 1 ∨ d = 2 ∨ d = 3 := lt4 _ (by omega)
  rcases this with rfl | rfl | rfl | rfl
  · show dots true ([] ++ nameAt k ++ _) = ([] ++ nameAt k) ++ [13, 10] ++ _
    rw [List.nil_append, hS, hD]; simp
  · show 46 :: 46 :: dots false (nameAt k ++ 13 :: 10 :: nls false rest) = _
    rw [dots_plain _ _ (fun c hc => (hn.1 c hc).2.1), hD]; simp [roomAt, List.replicate]
  · show 46 :: 46 :: dots false ((46 :: nameAt k) ++ 13 :: 10 :: nls false rest) = _
    rw [dots_plain _ _ (fun c hc => by
      rcases List.mem_cons.mp hc with h | h
      · rw [h]; decide
      · exact (hn.1 c h).2.1), hD]; simp [roomAt, List.replicate]
  · show 46 :: 46 :: dots false ((46 :: 46 :: nameAt k) ++ 13 :: 10 :: nls false rest) = _
    rw [dots_plain _ _ (fun c hc => by
      rcases List.mem_cons.mp hc with h | h
      · rw [h]; decide
      · rcases List.mem_cons.mp h with h | h
        · rw [h]; decide
        · exact (hn.1 c h).2.1), hD]; simp [roomAt, List.replicate]
theorem sent_head {d k e : Nat} (hk : k < 8) (m : List Nat) : ∀ r, sentAt d k e ++ m ≠ 10 :: r := by
  intro r h
  unfold sentAt at h
  have hn := name_plain k hk
  cases d with
  | zero =>
    cases hx : nameAt k with
    | nil => exact hn.2 hx
    | cons c q =>
      rw [hx] at h
      have : c = 10 := (List.cons.inj h).1
      exact (hn.1 c (by rw [hx]; exact .head _)).2.1 this
  | succ n => exact absurd (List.cons.inj h).1 (by decide)
theorem sent_all (D E : Nat → Nat) (hD : ∀ k, D k < 4) (hE : ∀ k, E k < 3) : ∀ (ks : List Nat), (∀ k ∈ ks, k < 8) →
    dots true (nls false (ks.map fun k => sentAt (D k) k (E k)).flatten) = (ks.map fun k => (rowAt (D k) k).cps.toList ++ [13, 10]).flatten
  | [], _ => rfl
  | k :: ks, h => by
    rw [List.map_cons, List.flatten_cons, List.map_cons, List.flatten_cons, sent_row (hD k) (h k (.head _)) (hE k) _ ?_, sent_all D E hD hE ks fun k g => h k (.tail _ g)]
    cases ks with
    | nil => intro r g; cases g
    | cons j js =>
      rw [List.map_cons, List.flatten_cons]
      exact sent_head (h j (.tail _ (.head _))) _
end
end
section
open PySem PySem.W PyProof.Rows PySem.Spec PySem.Calls
section
def bitN (b : Bool) : Nat := if b = true then 1 else 0
def sideOf (i0 i1 i2 i3 i4 : Bool) : Nat := bitN (i0 != i4) + 2 * bitN (i1 != i4) + 4 * bitN (i2 != i4) + 8 * bitN (i3 != i4)
theorem sideOf_lt (i0 i1 i2 i3 i4 : Bool) : sideOf i0 i1 i2 i3 i4 < 16 := by
  cases i0 <;> cases i1 <;> cases i2 <;> cases i3 <;> cases i4 <;> decide
theorem cutB_side (rooms : List Int) (inn : Int → Bool) : cutB rooms inn = cutOf rooms (sideOf (inn 0) (inn 1) (inn 2) (inn 3) (inn 4)) := by
  unfold cutB
  simp only [PA, PB, List.range, List.range.loop, List.map_cons, List.map_nil, List.getD_cons_zero, List.getD_cons_succ]
  generalize inn 0 = i0
  generalize inn 1 = i1
  generalize inn 2 = i2
  generalize inn 3 = i3
  generalize inn 4 = i4
  cases i0 <;> cases i1 <;> cases i2 <;> cases i3 <;> cases i4 <;> rfl
/-- the two ends of the first good on two sides -/
def apart (side i j : Nat) : Bool := (side >>> i) % 2 != (side >>> j) % 2
theorem apart01 (i0 i1 i2 i3 i4 : Bool) : apart (sideOf i0 i1 i2 i3 i4) 0 1 = (i0 != i1) := by
  cases i0 <;> cases i1 <;> cases i2 <;> cases i3 <;> cases i4 <;> decide
theorem apart23 (i0 i1 i2 i3 i4 : Bool) : apart (sideOf i0 i1 i2 i3 i4) 2 3 = (i2 != i3) := by
  cases i0 <;> cases i1 <;> cases i2 <;> cases i3 <;> cases i4 <;> decide
theorem cutOf_nonneg {rooms : List Int} (h : ∀ k, k < 8 → 0 ≤ rooms.getD k 0) (side : Nat) : 0 ≤ cutOf rooms side := by
  unfold cutOf
  have : ∀ l : List Nat, (∀ k ∈ l, k < 8) → 0 ≤ (l.map fun k => if ((side >>> (PA k).toNat) % 2 == (side >>> (PB k).toNat) % 2) then 0 else rooms.getD k 0).sum := by
    intro l
    induction l with
    | nil => intro _; exact Int.le_refl _
    | cons k l ih =>
      intro hl
      rw [List.map_cons, List.sum_cons]
      have h1 := ih fun k hk => hl k (.tail _ hk)
      have h2 := h k (hl k (.head _))
      split <;> omega
  exact this _ fun k hk => List.mem_range.mp hk
structure Firsts (rooms : List Int) (f g : Int) : Prop where
  rb : ∀ k, k < 8 → 0 ≤ rooms.getD k 0 ∧ rooms.getD k 0 ≤ 4
  f0 : 0 ≤ f
  g0 : 0 ≤ g
  h1 : ∀ s, s < 16 → apart s 0 1 = true → f ≤ cutOf rooms s
  h2 : ∀ s, s < 16 → apart s 2 3 = true → g ≤ cutOf rooms s - f * (if apart s 0 1 = true then 1 else 0)
theorem pair_le (a b : Bool) (x : Int) (hx : 0 ≤ x) : (if a = true then x else 0) + (if b = true then -x else 0) ≤ (if (a != b) = true then x else 0) := by
  cases a <;> cases b <;> simp <;> omega
theorem pair_le' (a b : Bool) (x : Int) (hx : 0 ≤ x) : (if a = true then -x else 0) + (if b = true then x else 0) ≤ (if (a != b) = true then x else 0) := by
  cases a <;> cases b <;> simp <;> omega
theorem both_le (c d : Bool) (f g C : Int) (c0 : 0 ≤ C) (c1 : c = true → f ≤ C) (c2 : d = true → g ≤ C - f * (if c = true then 1 else 0)) : (if c = true then f else 0) + (if d = true then g else 0) ≤ C := by
  cases c <;> cases d <;> simp at c1 c2 ⊢ <;> omega
theorem need_five (a b c d : Int) (inn : Int → Bool) : needB [a, b, c, d, 0] inn = ((if inn 0 = true then a else 0) + (if inn 1 = true then b else 0)) + ((if inn 2 = true then c else 0) + (if inn 3 = true then d else 0)) := by
  show SumF 5 _ = _
  rw [five]
  show (if inn 0 = true then a else 0) + (if inn 1 = true then b else 0) + (if inn 2 = true then c else 0) + (if inn 3 = true then d else 0) + (if inn 4 = true then (0 : Int) else 0) = _
  rw [ite_self, Int.add_zero, Int.add_assoc]
theorem need_cut {rooms : List Int} {f g g' : Int} (H : Firsts rooms f g) (hg : g' = g ∨ g' = -g) (inn : Int → Bool) : needB [f, -f, g', -g', 0] inn ≤ cutB rooms inn := by
  have hs := sideOf_lt (inn 0) (inn 1) (inn 2) (inn 3) (inn 4)
  have c1 := H.h1 _ hs
  have c2 := H.h2 _ hs
  have c0 := cutOf_nonneg (fun k hk => (H.rb k hk).1) (sideOf (inn 0) (inn 1) (inn 2) (inn 3) (inn 4))
  rw [apart01] at c1 c2
  rw [apart23] at c2
  rw [cutB_side, need_five]
  refine Int.le_trans (Int.add_le_add (pair_le _ _ f H.f0) ?_) (both_le _ _ f g _ c0 c1 c2)
  rcases hg with rfl | rfl
  · exact pair_le _ _ _ H.g0
  · rw [Int.neg_neg]; exact pair_le' _ _ _ H.g0
theorem cut_twelve {rooms : List Int} (hb : ∀ k, k < 8 → 0 ≤ rooms.getD k 0 ∧ rooms.getD k 0 ≤ 4) : cutOf rooms 1 ≤ 12 ∧ cutOf rooms 4 ≤ 12 := by
  have b0 := hb 0 (by decide); have b1 := hb 1 (by decide); have b3 := hb 3 (by decide); have b4 := hb 4 (by decide); have b6 := hb 6 (by decide)
  have e1 : cutOf rooms 1 = rooms.getD 0 0 + (0 + (0 + (rooms.getD 3 0 + (rooms.getD 4 0 + (0 + (0 + (0 + 0))))))) := rfl
  have e2 : cutOf rooms 4 = rooms.getD 0 0 + (rooms.getD 1 0 + (0 + (0 + (0 + (0 + (rooms.getD 6 0 + (0 + 0))))))) := rfl
  omega
theorem Firsts.twelve {rooms : List Int} {f g : Int} (H : Firsts rooms f g) : f ≤ 12 ∧ g ≤ 12 := by
  have h1 := H.h1 1 (by decide) (by decide)
  have h2 := H.h2 4 (by decide) (by decide)
  have h3 := cut_twelve H.rb
  rw [if_neg (by decide)] at h2
  omega
/-- what the two flows say of the goods -/
theorem sum_first {one two a : List Int} {f g : Int} (h1 : ∀ v, v < 5 → outF one (v : Nat) = ([f, -f, g, -g, 0] : List Int).getD v 0) (h2 : ∀ v, v < 5 → outF two (v : Nat) = ([f, -f, -g, g, 0] : List Int).getD v 0) (ha : ∀ k, k < 8 → a.getD k 0 = one.getD k 0 + two.getD k 0) :
    ((List.range 8).map fun k => a.getD k 0 * (4096 ^ (([0, 1, 2, 3, 4] : List Int).getD (PB k).toNat 0).toNat - 4096 ^ (([0, 1, 2, 3, 4] : List Int).getD (PA k).toNat 0).toNat)).sum = 8190 * f := by
  obtain ⟨o0, o1, o2, o3, o4⟩ := outF_at one
  obtain ⟨p0, p1, p2, p3, p4⟩ := outF_at two
  have e0 := h1 0 (by decide); have e1 := h1 1 (by decide); have e2 := h1 2 (by decide); have e3 := h1 3 (by decide); have e4 := h1 4 (by decide)
  have q0 := h2 0 (by decide); have q1 := h2 1 (by decide); have q2 := h2 2 (by decide); have q3 := h2 3 (by decide); have q4 := h2 4 (by decide)
  have r0 : outF one 0 = f := e0; have r1 : outF one 1 = -f := e1; have r2 : outF one 2 = g := e2; have r3 : outF one 3 = -g := e3; have r4 : outF one 4 = 0 := e4
  have s0 : outF two 0 = f := q0; have s1 : outF two 1 = -f := q1; have s2 : outF two 2 = -g := q2; have s3 : outF two 3 = g := q3; have s4 : outF two 4 = 0 := q4
  rw [o0] at r0; rw [o1] at r1; rw [o2] at r2; rw [o3] at r3; rw [o4] at r4
  rw [p0] at s0; rw [p1] at s1; rw [p2] at s2; rw [p3] at s3; rw [p4] at s4
  show a.getD 0 0 * (4096 ^ 2 - 4096 ^ 0) + (a.getD 1 0 * (4096 ^ 1 - 4096 ^ 2) + (a.getD 2 0 * (4096 ^ 3 - 4096 ^ 1) + (a.getD 3 0 * (4096 ^ 0 - 4096 ^ 3) + (a.getD 4 0 * (4096 ^ 4 - 4096 ^ 0) + (a.getD 5 0 * (4096 ^ 4 - 4096 ^ 1) + (a.getD 6 0 * (4096 ^ 4 - 4096 ^ 2) + (a.getD 7 0 * (4096 ^ 4 - 4096 ^ 3) + 0))))))) = 8190 * f
  rw [ha 0 (by decide), ha 1 (by decide), ha 2 (by decide), ha 3 (by decide), ha 4 (by decide), ha 5 (by decide), ha 6 (by decide), ha 7 (by decide)]
  clear e0 e1 e2 e3 e4 q0 q1 q2 q3 q4 h1 h2 ha o0 o1 o2 o3 o4 p0 p1 p2 p3 p4
  omega
theorem sum_second {one two b : List Int} {f g : Int} (h1 : ∀ v, v < 5 → outF one (v : Nat) = ([f, -f, g, -g, 0] : List Int).getD v 0) (h2 : ∀ v, v < 5 → outF two (v : Nat) = ([f, -f, -g, g, 0] : List Int).getD v 0) (hb : ∀ k, k < 8 → b.getD k 0 = one.getD k 0 - two.getD k 0) :
    ((List.range 8).map fun k => b.getD k 0 * (4096 ^ (([2, 3, 0, 1, 4] : List Int).getD (PB k).toNat 0).toNat - 4096 ^ (([2, 3, 0, 1, 4] : List Int).getD (PA k).toNat 0).toNat)).sum = 8190 * g := by
  obtain ⟨o0, o1, o2, o3, o4⟩ := outF_at one
  obtain ⟨p0, p1, p2, p3, p4⟩ := outF_at two
  have r0 : outF one 0 = f := h1 0 (by decide); have r1 : outF one 1 = -f := h1 1 (by decide); have r2 : outF one 2 = g := h1 2 (by decide); have r3 : outF one 3 = -g := h1 3 (by decide); have r4 : outF one 4 = 0 := h1 4 (by decide)
  have s0 : outF two 0 = f := h2 0 (by decide); have s1 : outF two 1 = -f := h2 1 (by decide); have s2 : outF two 2 = -g := h2 2 (by decide); have s3 : outF two 3 = g := h2 3 (by decide); have s4 : outF two 4 = 0 := h2 4 (by decide)
  rw [o0] at r0; rw [o1] at r1; rw [o2] at r2; rw [o3] at r3; rw [o4] at r4
  rw [p0] at s0; rw [p1] at s1; rw [p2] at s2; rw [p3] at s3; rw [p4] at s4
  show b.getD 0 0 * (4096 ^ 0 - 4096 ^ 2) + (b.getD 1 0 * (4096 ^ 3 - 4096 ^ 0) + (b.getD 2 0 * (4096 ^ 1 - 4096 ^ 3) + (b.getD 3 0 * (4096 ^ 2 - 4096 ^ 1) + (b.getD 4 0 * (4096 ^ 4 - 4096 ^ 2) + (b.getD 5 0 * (4096 ^ 4 - 4096 ^ 3) + (b.getD 6 0 * (4096 ^ 4 - 4096 ^ 0) + (b.getD 7 0 * (4096 ^ 4 - 4096 ^ 1) + 0))))))) = 8190 * g
  rw [hb 0 (by decide), hb 1 (by decide), hb 2 (by decide), hb 3 (by decide), hb 4 (by decide), hb 5 (by decide), hb 6 (by decide), hb 7 (by decide)]
  clear h1 h2 hb o0 o1 o2 o3 o4 p0 p1 p2 p3 p4
  omega
end
end
section
open PySem PySem.W PyProof.Rows PySem.Spec PySem.Calls
section
/-- what a contract over a part of the heap hands back -/
def RetB (hb : Heap) (s : Shared) (P : Value → List (Addr × Obj) → Prop) (r : Result) (s' : Shared) : Prop :=
  ∃ v own h' tk, r = .ok (.ret v) ∧ s' = { s with heap := h', toks := tk } ∧ (∀ b o, hb.get? b = some o → h'.get? b = some o) ∧
    (∀ p ∈ own, h'.get? p.1 = some p.2 ∧ s.heap.get? p.1 = none) ∧ P v own
def tup2 (a b : Value) (n : Nat) : Obj := { cls := .type "tuple", data := .seq #[a, b] n }
def PairsIn (tups : List (Addr × Obj)) : List Value → Way → Prop
  | [], [] => True
  | v :: vs, x :: xs => (∃ q n t1 t2, v = .ref q ∧ (q, tup2 (.int (x.1 : Int) t1) (.int x.2 t2) n) ∈ tups) ∧ PairsIn tups vs xs
  | _, _ => False
theorem PairsIn.mono {own own' : List (Addr × Obj)} (hs : ∀ p ∈ own, p ∈ own') : ∀ {vs : List Value} {xs : Way}, PairsIn own vs xs → PairsIn own' vs xs
  | [], [], _ => trivial
  | _ :: _, _ :: _, ⟨⟨q, n, t1, t2, e, hm⟩, h⟩ => ⟨⟨q, n, t1, t2, e, hs _ hm⟩, PairsIn.mono hs h⟩
  | [], _ :: _, h => h.elim
  | _ :: _, [], h => h.elim
theorem PairsIn.length {own : List (Addr × Obj)} : ∀ {vs : List Value} {xs : Way}, PairsIn own vs xs → vs.length = xs.length
  | [], [], _ => rfl
  | _ :: _, _ :: _, h => congrArg (· + 1) (PairsIn.length h.2)
  | [], _ :: _, h => h.elim
  | _ :: _, [], h => h.elim
theorem PairsIn.snoc {own : List (Addr × Obj)} {x : Nat × Int} {q : Addr} {n : Nat} {t1 t2 : Tok} (hm : (q, tup2 (.int (x.1 : Int) t1) (.int x.2 t2) n) ∈ own) : ∀ {vs : List Value} {xs : Way}, PairsIn own vs xs → PairsIn own (vs ++ [.ref q]) (xs ++ [x])
  | [], [], _ => ⟨⟨q, n, t1, t2, rfl, hm⟩, trivial⟩
  | _ :: _, _ :: _, ⟨a, h⟩ => ⟨a, PairsIn.snoc hm h⟩
  | [], _ :: _, h => h.elim
  | _ :: _, [], h => h.elim
theorem PairsIn.get {own : List (Addr × Obj)} : ∀ {vs : List Value} {xs : Way}, PairsIn own vs xs → ∀ {i : Nat} {v : Value}, vs[i]? = some v → ∃ x q n t1 t2, xs[i]? = some x ∧ v = .ref q ∧ (q, tup2 (.int (x.1 : Int) t1) (.int x.2 t2) n) ∈ own
  | [], [], _, i, v, h => by cases h
  | _ :: _, x :: _, ⟨⟨q, n, t1, t2, e, hm⟩, h⟩, 0, v, g => ⟨x, q, n, t1, t2, rfl, by cases g; exact e, hm⟩
  | _ :: _, _ :: _, ⟨_, h⟩, i + 1, v, g => PairsIn.get h g
  | [], _ :: _, h, _, _, _ => h.elim
  | _ :: _, [], h, _, _, _ => h.elim
def KvOk (tups : List (Addr × Obj)) : List (Int × Value) → List (Int × Way) → Prop
  | [], [] => True
  | (a, v) :: r, (b, way) :: ws => (a = b ∧ ∃ q vals n, v = .ref q ∧ (q, W.listOf (vals : List Value).toArray n) ∈ tups ∧ PairsIn tups vals way) ∧ KvOk tups r ws
  | _, _ => False
theorem KvOk.mono {own own' : List (Addr × Obj)} (hs : ∀ p ∈ own, p ∈ own') : ∀ {vs : List (Int × Value)} {xs : List (Int × Way)}, KvOk own vs xs → KvOk own' vs xs
  | [], [], _ => trivial
  | (_, _) :: _, (_, _) :: _, ⟨⟨e0, q, vals, n, e, hm, hp⟩, h⟩ => ⟨⟨e0, q, vals, n, e, hs _ hm, hp.mono hs⟩, KvOk.mono hs h⟩
  | [], _ :: _, h => h.elim
  | _ :: _, [], h => h.elim
theorem KvOk.keys {own : List (Addr × Obj)} : ∀ {vs : List (Int × Value)} {xs : List (Int × Way)}, KvOk own vs xs → vs.map (·.1) = xs.map (·.1)
  | [], [], _ => rfl
  | (_, _) :: _, (_, _) :: _, ⟨⟨e0, _⟩, h⟩ => by rw [List.map_cons, List.map_cons, KvOk.keys h]; simp [e0]
  | [], _ :: _, h => h.elim
  | _ :: _, [], h => h.elim
theorem KvOk.snoc {own : List (Addr × Obj)} {b : Int} {way : Way} {q : Addr} {vals : List Value} {n : Nat} (hm : (q, W.listOf vals.toArray n) ∈ own) (hp : PairsIn own vals way) : ∀ {vs : List (Int × Value)} {xs : List (Int × Way)}, KvOk own vs xs → KvOk own (vs ++ [(b, .ref q)]) (xs ++ [(b, way)])
  | [], [], _ => ⟨⟨rfl, q, vals, n, rfl, hm, hp⟩, trivial⟩
  | (_, _) :: _, (_, _) :: _, ⟨a, h⟩ => ⟨a, KvOk.snoc hm hp h⟩
  | [], _ :: _, h => h.elim
  | _ :: _, [], h => h.elim
theorem KvOk.find {own : List (Addr × Obj)} {u : Int} {way : Way} : ∀ {vs : List (Int × Value)} {xs : List (Int × Way)}, KvOk own vs xs → (xs.map (·.1)).Nodup → (u, way) ∈ xs → ∃ q vals n, valueAt vs u = some (.ref q) ∧ (q, W.listOf vals.toArray n) ∈ own ∧ PairsIn own vals way
  | [], [], _, _, hu => by cases hu
  | (a, v) :: r, (b, w') :: ws, ⟨⟨e0, q, vals, n, e, hm, hp⟩, h⟩, hn, hu => by
    subst e0
    rw [List.map_cons, List.nodup_cons] at hn
    rcases List.mem_cons.mp hu with hu | hu
    · cases hu
      exact ⟨q, vals, n, by subst e; simp [valueAt], hm, hp⟩
    · obtain ⟨q', vals', n', h1, h2, h3⟩ := KvOk.find h hn.2 hu
      refine ⟨q', vals', n', ?_, h2, h3⟩
      have : a ≠ u := fun e => hn.1 (by rw [e]; exact List.mem_map_of_mem (f := (·.1)) hu)
      unfold valueAt at h1 ⊢
      rw [List.find?_cons_of_neg (by simpa using this)]
      exact h1
  | [], _ :: _, h, _, _ => h.elim
  | _ :: _, [], h, _, _ => h.elim
theorem KvOk.none {own : List (Addr × Obj)} {u : Int} {vs : List (Int × Value)} {xs : List (Int × Way)} (h : KvOk own vs xs) (hu : u ∉ xs.map (·.1)) : valueAt vs u = none :=
  valueAt_none_of_not_mem (by rw [h.keys]; exact hu)
def freeL (rooms fl : List Int) (way : Way) : List Int := way.map fun e => rooms.getD e.1 0 - e.2 * fl.getD e.1 0
theorem take_snoc {α : Type} {l : List α} {i : Nat} {x : α} (h : l[i]? = some x) : l.take (i + 1) = l.take i ++ [x] := by
  rw [List.take_succ, h]; rfl
theorem min_pos {M a b : Int} {rooms fl : List Int} {way : Way} (h : M ∈ [a, b] ++ freeL rooms fl way) (ha : 0 < a) (hb : 0 < b) (hc : ∀ e ∈ way, e.2 * fl.getD e.1 0 < rooms.getD e.1 0) : 0 < M := by
  rcases List.mem_append.mp h with h | h
  · rcases List.mem_cons.mp h with rfl | h
    · exact ha
    · rw [List.mem_singleton.mp h]; exact hb
  · obtain ⟨e, he, rfl⟩ := List.mem_map.mp h
    have := hc e he
    omega
structure BfS where
  (lv : List Value)
  (nl spot : Nat)
  (ts : Tok)
  (oc : Obj)
  (kvs : List (Int × Value))
  (ws : List (Int × Way))
  tups : List (Addr × Obj)
theorem bf_add {prog : Program} {w : World} {rooms fl : List Int} {st : Int} {kvs : List (Int × Value)} {ws : List (Int × Way)} {tups : List (Addr × Obj)} {lv wv : List Value} {k : Nat} {far sg u : Int} {way : Way} {spot j : Nat} {o' : Obj} {D2 dt lc ll : Addr} {t1 t2 t3 : Tok}
    (hlv : IntsAre lv (ws.map (·.1))) (hoc : Obj.IsDictOf (PySem.intKind prog w) o' (stored kvs far (.ref D2))) (hvn : valueAt kvs far = none) (hkv : KvOk tups kvs ws) (B : BI rooms fl st ws) (S : Seen rooms fl ws spot j) (hp : ws[spot]? = some (u, way)) (hx : (exOf 8 u.toNat)[j]? = some (k, far, sg))
    (hin : far ∉ ws.map (·.1)) (hcap : sg * fl.getD k 0 < rooms.getD k 0) (hw3 : PairsIn tups wv way) (h1 : ∀ p ∈ tups, @LT.lt Nat _ lc p.1) (h2 : ∀ p ∈ tups, @Ne Nat p.1 ll) (a1 : @LT.lt Nat _ lc D2) (a2 : @LT.lt Nat _ lc dt) (a3 : @LT.lt Nat _ ll D2) (a4 : @LT.lt Nat _ ll dt) :
    IntsAre (lv ++ [Value.int far t2]) ((ws ++ [(far, way ++ [(k, sg)])]).map (·.1)) ∧ Obj.IsDictOf (PySem.intKind prog w) o' (kvs ++ [(far, Value.ref D2)]) ∧
    KvOk ((D2, W.listOf (wv ++ [Value.ref dt]).toArray 0) :: (dt, tup2 (.int (k : Int) t1) (.int sg t3) 0) :: tups) (kvs ++ [(far, Value.ref D2)]) (ws ++ [(far, way ++ [(k, sg)])]) ∧ BI rooms fl st (ws ++ [(far, way ++ [(k, sg)])]) ∧ Seen rooms fl (ws ++ [(far, way ++ [(k, sg)])]) spot (j + 1) ∧ (ws ++ [(far, way ++ [(k, sg)])])[spot]? = some (u, way) ∧
    (∀ p ∈ (D2, W.listOf (wv ++ [Value.ref dt]).toArray 0) :: (dt, tup2 (.int (k : Int) t1) (.int sg t3) 0) :: tups, @LT.lt Nat _ lc p.1) ∧ ∀ p ∈ (D2, W.listOf (wv ++ [Value.ref dt]).toArray 0) :: (dt, tup2 (.int (k : Int) t1) (.int sg t3) 0) :: tups, @Ne Nat p.1 ll := by
  rw [stored_absent hvn] at hoc
  have hmem := List.mem_of_getElem? hp
  have hxm := List.mem_of_getElem? hx
  refine ⟨?_, hoc, ?_, B.add hmem hxm hin hcap, S.add hp hx _, ?_, ?_, ?_⟩
  · rw [List.map_append]
    exact hlv.append (.cons _ _ .nil)
  · exact KvOk.snoc (.head _) (PairsIn.snoc (x := (k, sg)) (.tail _ (.head _)) (hw3.mono fun p hp => .tail _ (.tail _ hp))) (hkv.mono fun p hp => .tail _ (.tail _ hp))
  · rw [List.getElem?_append_left (List.getElem?_eq_some_iff.mp hp).1]; exact hp
  · exact List.forall_mem_cons.mpr ⟨a1, List.forall_mem_cons.mpr ⟨a2, h1⟩⟩
  · exact List.forall_mem_cons.mpr ⟨Nat.ne_of_gt a3, List.forall_mem_cons.mpr ⟨Nat.ne_of_gt a4, h2⟩⟩
/-- the five lists of exits -/
def ExAt (h : Heap) (l1 : Addr) : Prop := ∃ outer : List Value, h.IsList l1 outer.toArray ∧ ∀ v : Nat, v < 5 → ∃ (e : Addr) (vals : List Value), outer[v]? = some (Value.ref e) ∧ h.IsList e vals.toArray ∧ vals.length = (exOf 8 v).length ∧
  ∀ (i : Nat) (x : Nat × Int × Int), (exOf 8 v)[i]? = some x → ∃ (q : Addr) (t1 t2 t3 : Tok), vals[i]? = some (Value.ref q) ∧ IsTup h q #[.int (x.1 : Int) t1, .int x.2.1 t2, .int x.2.2 t3]
theorem sub_baseL {prog : Program} {w : World} {A : Around} {E : Value → Shared → Prop} {s : Shared} {h₀ : Heap} {L : Addr} {m : Str → Option Value} {value slice : Expr} {l : Addr} {its : List Value} {k : Int} {u : Tok} {v : Value} {Q : Value → Shared → Prop} (F : Fr h₀ L s.heap m) (hl : h₀.IsList l its.toArray) (hv : its[k.toNat]? = some v) (h0 : 0 ≤ k) (hb : k < 2 ^ 63) (h : Q v s)
    (hs : subscripted slice false (.ref l) (.int k u) = operate [.ref l, .int k u] (getItem (.ref l) (.int k u)) := by with_unfolding_all rfl) :
    wpAny (model prog w) A (subscriptTail value slice (.ref l) (.int k u)) Q E s := by
  have hl' : s.heap.IsList l its.toArray := hl.at fun o e => F.keep l o e
  exact tail_any hl'.typeIs slot_list_getitem.lookup (wpAny_getItem_list hl' h0 hb (by simpa using hv) h) hs
structure FlS where
  (nv fv : List Value)
  (nn nf : Nat)
  (need fl : List Int)
def GoalP (need : List Int) (ws : List (Int × Way)) (k : Nat) (ys : List Value) : Prop :=
  ∃ zs : List Int, IntsAre ys zs ∧ zs.length ≤ k ∧ (∀ z ∈ zs, z ∈ ws.map (·.1) ∧ need.getD z.toNat 0 < 0) ∧ (zs = [] → ∀ a, a < k → ∀ p, ws[a]? = some p → 0 ≤ need.getD p.1.toNat 0)
theorem GoalP.yes {need : List Int} {ws : List (Int × Way)} {k : Nat} {ys : List Value} {pl : Int} {wy : Way} {t : Tok} (h : GoalP need ws k ys) (hk : ws[k]? = some (pl, wy)) (hp : need.getD pl.toNat 0 < 0) : GoalP need ws (k + 1) (ys ++ [.int pl t]) := by
  obtain ⟨zs, hz, hl, h1, h2⟩ := h
  refine ⟨zs ++ [pl], hz.append (.cons _ _ .nil), by rw [List.length_append, List.length_singleton]; omega, ?_, fun e => by simp at e⟩
  intro z hz
  rcases List.mem_append.mp hz with h | h
  · exact h1 z h
  · rw [List.mem_singleton.mp h]
    exact ⟨List.mem_map_of_mem (f := (·.1)) (List.mem_of_getElem? hk), hp⟩
theorem GoalP.no {need : List Int} {ws : List (Int × Way)} {k : Nat} {ys : List Value} {pl : Int} {wy : Way} (h : GoalP need ws k ys) (hk : ws[k]? = some (pl, wy)) (hp : 0 ≤ need.getD pl.toNat 0) : GoalP need ws (k + 1) ys := by
  obtain ⟨zs, hz, hl, h1, h2⟩ := h
  refine ⟨zs, hz, by omega, h1, fun e a ha p hpa => ?_⟩
  by_cases q : a = k
  · subst q; rw [hk] at hpa; cases hpa; exact hp
  · exact h2 e a (by omega) p hpa
def PosP (need : List Int) (k : Nat) (ys : List Value) : Prop :=
  ∃ zs : List Int, IntsAre ys zs ∧ zs.length ≤ k ∧ (∀ z ∈ zs, ∃ n : Nat, z = n ∧ n < 5 ∧ 0 < need.getD n 0) ∧ (∀ v, v < k → 0 < need.getD v 0 → zs ≠ [])
theorem PosP.yes {need : List Int} {k : Nat} {ys : List Value} {t : Tok} (h : PosP need k ys) (hk : k < 5) (hp : 0 < need.getD k 0) : PosP need (k + 1) (ys ++ [.int (k : Int) t]) := by
  obtain ⟨zs, hz, hl, h1, h2⟩ := h
  refine ⟨zs ++ [(k : Int)], hz.append (.cons _ _ .nil), by rw [List.length_append, List.length_singleton]; omega, ?_, fun v hv hp => by simp⟩
  intro z hz
  rcases List.mem_append.mp hz with h | h
  · exact h1 z h
  · exact ⟨k, List.mem_singleton.mp h, hk, hp⟩
theorem PosP.no {need : List Int} {k : Nat} {ys : List Value} (h : PosP need k ys) (hp : need.getD k 0 ≤ 0) : PosP need (k + 1) ys := by
  obtain ⟨zs, hz, hl, h1, h2⟩ := h
  refine ⟨zs, hz, by omega, h1, fun v hv hq => ?_⟩
  by_cases e : v = k
  · subst e; omega
  · exact h2 v (by omega) hq
theorem pos_first {need zs : List Int} {mx : Int} (h1 : ∀ z ∈ zs, ∃ n : Nat, z = n ∧ n < 5 ∧ 0 < need.getD n 0) (h2 : ∀ v, v < 5 → 0 < need.getD v 0 → zs ≠ []) (hl : need.length = 5) (hm : mx ∈ need) (hp : 0 < mx) :
    ∃ (st : Nat) (zr : List Int), zs = (st : Int) :: zr ∧ st < 5 ∧ 0 < need.getD st 0 := by
  obtain ⟨v, hv⟩ := List.getElem?_of_mem hm
  have hv5 : v < 5 := hl ▸ (List.getElem?_eq_some_iff.mp hv).1
  have hg : need.getD v 0 = mx := by rw [List.getD_eq_getElem?_getD, hv]; rfl
  cases zs with
  | nil => exact absurd rfl (h2 v hv5 (by omega))
  | cons z zr =>
    obtain ⟨n, e, hn, hp⟩ := h1 z (.head _)
    exact ⟨n, zr, by rw [e], hn, hp⟩
theorem words_on_F2 : True := by
  k_with_none
  (k_with "m cj" => with_reducible first | assumption | exact And.left (by assumption) | exact And.left (And.right (by assumption)) | exact And.right (by assumption) | exact And.left (And.right (And.right (by assumption))) | exact And.right (And.right (by assumption)) | exact And.left (And.right (And.right (And.right (by assumption)))) | exact And.right (And.right (And.right (by assumption))) | exact And.left (r4 (by assumption)) | exact r4 (by assumption) | exact And.left (r4 (And.right (by assumption))) | exact r4 (And.right (by assumption)) | exact And.left (r4 (And.right (And.right (by assumption)))) | exact r4 (And.right (And.right (by assumption))) | exact And.left (r4 (And.right (And.right (And.right (by assumption))))) | exact r4 (And.right (And.right (And.right (by assumption)))) | exact And.left (r4 (r4 (by assumption))) | exact r4 (r4 (by assumption)) | exact And.left (r4 (r4 (And.right (by assumption)))) | exact r4 (r4 (And.right (by assumption))) | exact And.left (r4 (r4 (And.right (And.right (by assumption))))) | exact r4 (r4 (And.right (And.right (by assumption)))) | exact And.left (r4 (r4 (And.right (And.right (And.right (by assumption)))))) | exact r4 (r4 (And.right (And.right (And.right (by assumption))))) | exact And.left (r4 (r4 (r4 (by assumption)))) | exact r4 (r4 (r4 (by assumption))) | exact And.left (r4 (r4 (r4 (And.right (by assumption))))) | exact r4 (r4 (r4 (And.right (by assumption)))) | exact And.left (r4 (r4 (r4 (And.right (And.right (by assumption)))))) | exact r4 (r4 (r4 (And.right (And.right (by assumption))))) | exact And.left (r4 (r4 (r4 (And.right (And.right (And.right (by assumption))))))) | exact r4 (r4 (r4 (And.right (And.right (And.right (by assumption)))))))
  (k_with "m le" => first | exact Nat.le_refl _ | (with_reducible refine le_s ?_; k_extra "m le") | (refine Nat.le_of_lt ?_; k_extra "m cj"))
  (k_with "m off" => first | (with_reducible refine ne_ss ?_; k_extra "m off") | (with_reducible refine ne_ls ?_; k_extra "m le") | (with_reducible refine ne_rs ?_; k_extra "m le"))
  (k_with "m enter" => (k_dflt (refine' enter (by assumption) (by assumption) (by exact Nat.le_of_ble_eq_true rfl) (by k_is) (by k_is) (by exact BindsTo.of_eq rfl) (by exact locs rfl) ?_ (by exact rfl) (by exact rfl) (by exact rfl) (by decide); k_whole; intro _ _ _ _; (try dsimp only); (try k_fold))))
  (k_with "m enterC" => (k_dflt (refine' enterC (by assumption) (by assumption) (by exact Nat.le_of_ble_eq_true rfl) (by k_is) (by k_is) (by exact BindsTo.of_eq rfl) (by exact rfl) (by decide +kernel) ?_ (by exact rfl) (by exact rfl) (by exact rfl); k_whole; intro _ _ _ _ _ _ Y'; k_cells Y'; (try dsimp only); (try k_fold))))
  (k_with "m ints" => first | assumption | (repeat' (first | exact IntsAre.nil | refine IntsAre.cons _ _ ?_)))
  (k_with "m len" => first | omega | (simp only [List.length_cons, List.length_nil, List.length_append, List.length_replicate, List.length_take, List.length_map, List.length_flatten, List.map_replicate, List.sum_replicate_nat, Int.toNat]; omega) | (simp; omega))
  (k_with "CompSrc" => refine Stop.out ?_)
  (k_with "CompEnd" => refine Stop.out ?_)
  (k_with "m range" => (refine Stop.mk ?_; k_dflt (refine LCg.CompSrc.range (by rfl) (by k_asm) (by k_asm) (by assumption) (by decide) (by rfl) (by size_fits) ?_); intro _))
  (k_with "m end" => (refine Stop.mk ?_; refine LCg.CompEnd.intro (by assumption) (by assumption) _ (by kcf_all) (by first | assumption | (simp only [LCg.Off3, and_true]; done) | (simp only [LCg.Off3, and_true]; assumption)) (by first | lcg_src | assumption) ⟨rfl, ?_⟩))
  (k_with "m base" => first | exact base_list (by k_asm) (by assumption) | exact News.isList (by k_asm) (by k_mem))
  (k_with "assign Tuple" => (k_here; (with_reducible show wpAny _ _ (assign (Expr.Tuple _ _ _) _ (Value.ref _)) _ _ _); k_dflt (refine' kun_list (by k_asm) (by k_asm) (by k_extra "m base") (by exact rfl) (by exact rfl) (by exact rfl) ?_; k_whole); intro _ _ _; (try k_sweep)))
  (k_with "subscriptTail Name Name ref int" => k_extra "m sub")
  (k_with "subscriptTail Name Subscript ref int" => k_extra "m sub")
  (k_with "subscriptTail Name Call ref int" => k_extra "m sub")
  (k_with "subscriptTail Attribute Name ref int" => k_extra "m sub")
  (k_with "m sub" => (k_here; (with_reducible show wpAny _ _ (subscriptTail _ _ (Value.ref _) (Value.int _ _)) _ _ _); first | ((with_reducible show wpAny _ _ (subscriptTail _ _ (Value.ref _) (Value.int (Nat.cast _) _)) _ _ _); first | (k_dflt (refine' sub_pairs (by k_asm) (by with_reducible assumption) (by omega) ?_; k_whole); intro _ _ _ _) | (k_dflt (refine' sub_intsN (by k_asm) (by k_mem) (by k_extra "m ints") (by k_extra "m len") (by k_extra "m len") ?_; k_whole); intro _) | (k_dflt (refine' sub_baseN (by k_asm) (by with_reducible assumption) (by k_extra "m ints") (by k_extra "m len") (by k_extra "m len") ?_; k_whole); intro _)) | (k_dflt (refine' sub_ints (by k_asm) (by k_mem) (by k_extra "m ints") (by omega) (by k_extra "m len") (by k_extra "m len") ?_; k_whole); intro _) | (k_dflt (refine' sub_base (by k_asm) (by with_reducible assumption) (by k_extra "m ints") (by omega) (by k_extra "m len") (by k_extra "m len") ?_; k_whole); intro _)))
  (k_with "call ref" => refine Stop.out ?_)
  (k_with "exec While Compare cons nil" => refine Stop.out ?_)
  (k_with "pyIter ref" => refine Stop.out ?_)
  (k_with "exec For Name Call cons nil" => (k_dflt (refine wpAny_For ?_); (try k_unmd); (try k_fold)))
  (k_with "exec For Tuple Subscript cons nil" => (k_dflt (refine wpAny_For ?_); (try k_unmd); (try k_fold)))
  (k_with "exec For Tuple Name cons nil" => (k_dflt (refine wpAny_For ?_); (try k_unmd); (try k_fold)))
  (k_with "binaryOp RShift int int" => (with_reducible refine rsh6 ?_))
  (k_with "binaryOp LShift int int" => (with_reducible refine lsh6 (by k_dflt omega) ?_))
  (k_with "m ret" => ((try k_unmd); (try k_unfold); refine' Ret.intro [_] (by k_asm) (by k_asm) (fun p hp => by rw [List.mem_singleton.mp hp]; exact List.mem_cons_self) ?_))
  (k_with "binaryOp Mult int int" => ((with_reducible refine mul_int ?_ (by k_dflt (first | exact IntMulOk.of_left (intBits_le_64 (by omega) (by omega)) | exact IntMulOk.of_right (intBits_le_64 (by omega) (by omega)))))))
  (k_with "call builtin:max" => ((with_reducible show wpAny _ _ (call (Value.builtin _) [Value.float _ _, Value.float _ _, Value.float _ _]) _ _ _); k_dflt (refine' float_max3 (by exact rfl) (by k_asm) (by k_asm) ?_; k_whole); intro _ _ _ _ _))
  (k_with "call builtin:min" => ((with_reducible show wpAny _ _ (call (Value.builtin _) [Value.float _ _, Value.float _ _, Value.float _ _]) _ _ _); k_dflt (refine' float_min3 (by exact rfl) (by k_asm) (by k_asm) ?_; k_whole); intro _ _ _ _ _))
  (k_with "call builtin:min" => ((with_reducible show wpAny _ _ (call (Value.builtin _) [Value.float _ _, Value.float _ _]) _ _ _); k_dflt (refine' float_min2 (by exact rfl) (by k_asm) (by k_asm) ?_; k_whole); intro _ _ _ _ _))
  (k_with "binaryOp Div float float" => ((with_reducible refine AutoFloatOps.truediv_1 (by k_dflt (first | assumption | decide | exact Nz.out (by assumption) (by assumption))) ?_); (try dsimp only [Made.post])))
  (k_with "binaryOp Mod float float" => ((with_reducible refine AutoFloatOps.mod_1 (by k_dflt (first | assumption | decide | exact Nz.out (by assumption) (by assumption))) ?_); (try dsimp only [Made.post])))
  (k_with "ite" => first | refine ite_t (by assumption) ?_ | refine ite_f (by assumption) ?_ | refine ite_t (Ng.out (by assumption) (by assumption)) ?_)
  (k_with "eval ListComp" => ((with_reducible refine' ListComp_if (by with_unfolding_all rfl) (by with_unfolding_all rfl) (by k_dflt decide) ?_ (by (intro _; with_unfolding_all rfl))); (try k_unmd); (try k_fold)))
  (k_with "exec Assign cons ListComp" => ((with_reducible refine' Assign_if (by with_unfolding_all rfl) (by with_unfolding_all rfl) (by with_unfolding_all rfl) (by k_dflt decide) ?_ (by (intro _; with_unfolding_all rfl))); (try k_unmd); (try k_fold)))
  (k_with "IfGo" => refine Stop.out ?_)
  (k_with "IfTurn" => refine Stop.out ?_)
  (k_with "IfDone" => refine Stop.out ?_)
  (k_with "ForEnd2" => refine Stop.out ?_)
  (k_with "call builtin:max" => ((with_reducible show wpAny _ _ (call (Value.builtin _) [Value.ref _]) _ _ _); k_dflt (refine' max_list_N (by exact rfl) (by k_asm) (by k_asm) (by k_extra "m base") (by k_extra "m ints") (by (first | assumption | omega | exact ne_dec (by assumption))) ?_; k_whole); intro _ _ _ _ _ _ _ _))
  (k_with "m ledger" => (refine Stop.mk ?_; k_dflt (refine LCg.CompSrc.ledger (by rfl) (by k_asm) (by k_asm) (by k_mem) (by size_fits) ?_); intro _))
  (k_with "getMethod ref" => ((with_reducible show wpAny _ _ (getMethod (Value.ref _) (Str.ofString "sub") _) _ _ _); refine Stop.out ?_))
  (k_with "m tl" => first | assumption | (refine' List.Mem.tail _ ?_; k_extra "m tl") | exact (by assumption : ∀ q : Addr × Obj, q ∈ (_ : List (Addr × Obj)) → q ∈ (_ : List (Addr × Obj))) _ (by assumption))
  (k_with "m inc" => first | exact List.forall_mem_nil _ | (refine' List.forall_mem_cons.mpr ⟨(by k_mem), (by k_extra "m inc")⟩) | (intro _ _; k_extra "m tl"))
  (k_with "SrcLP" => refine Stop.out ?_)
  (k_with "compareOp NotIn int ref" => (k_dflt (refine' kdg_notin (knd := PySem.intKind _ _) (by k_asm) (by k_mem) (by with_reducible assumption) (by with_reducible assumption) (intKind_is _ _ _ _) _ (by with_reducible assumption) ?_; k_whole)))
  (k_with "subscriptTail Name Subscript ref int" => (k_dflt (refine' kda_item (knd := PySem.intKind _ _) (by k_asm) (by k_mem) (by with_reducible assumption) (intKind_is _ _ _ _) (by with_reducible assumption) ?_; k_whole)))
  trivial
local macro_rules | `(tactic| walk_at "eval Dict") => `(tactic| (k_dflt (refine' kdn_eval (knd := PySem.intKind _ _) ?F ?N ?b ?a ?l ?e ?n ?_; (case F => k_asm); (case N => k_asm); (case b => exact Top.nolimit (by k_asm)); (case a => rfl); (case l => rfl); (case e => exact List.cons_ne_nil _ _); (case n => exact Nat.le_of_ble_eq_true rfl)); intro d' h' o' F' N' l1 lo' hd'; (try k_lt l1)))
local macro_rules | `(tactic| walk_at "setItem ref int") => `(tactic| ((with_reducible show wpAny _ _ (PySem.setItem (Value.ref _) (Value.int _ _) (Value.ref _)) _ _ _); k_dflt (refine' kda_set (knd := PySem.intKind _ _) ?F ?N ?U ?d (intKind_is _ _ _ _) ?z ?_; (case F => k_asm); (case N => k_asm); (case U => k_updF); (case d => with_reducible assumption); (case z => (rw [sizeLine_eq]; omega))); intro h' o' F' N' hd'; (try dsimp only at N')))
local macro_rules | `(tactic| k_all) => `(tactic| assumption)
local macro_rules | `(tactic| k_mem) => `(tactic| with_reducible assumption)
set_option maxRecDepth 100000 in
set_option maxHeartbeats 4000000 in
theorem flow_c {w : World} {p : Program} {loose : List Str} {mean : ExcName → Option Value} {mg mb : Str → Option Value} {fr : Option (List Env)} {gd : Option (List Code)} {s : Shared} {hb : Heap}
  (X : (Mine.KK w.params).In hb) (T : Top p loose mean mg mb hb) (hk : ∀ b o, hb.get? b = some o → s.heap.get? b = some o) (hsz : hb.objs.size ≤ s.heap.objs.size)
  (l1 l2 l3 : Addr) (nv : List Value) (nn : Nat) (h3 : s.heap.get? l3 = some (W.listOf nv.toArray nn)) (h3b : hb.get? l3 = none) (need : List Int) (hni : IntsAre nv need) (hnl : need.length = 5) (rooms : List Int) (rv : List Value) (hr : hb.IsList l2 rv.toArray) (hri : IntsAre rv rooms) (hrl : rooms.length = 8) (hrb : ∀ k, k < 8 → 0 ≤ rooms.getD k 0 ∧ rooms.getD k 0 ≤ 100)
  (hex : ExAt hb l1) (hnb : ∀ v, v < 5 → -1000 ≤ need.getD v 0 ∧ need.getD v 0 ≤ 1000) (hsu : need.getD 0 0 + need.getD 1 0 + need.getD 2 0 + need.getD 3 0 + need.getD 4 0 = 0) (cut : ∀ inn, needB need inn ≤ cutB rooms inn) :
  codeAny (model PySem.Challenge.rw_tl0015_01.row.prog w) (Ac 1 fr gd) (.call (.ref 111) ⟨[.ref l1, .ref l2, .ref l3], []⟩) (RetB hb s fun v own => ∃ r vals n fl, v = .ref r ∧ own = [(r, W.listOf (vals : List Value).toArray n)] ∧ IntsAre vals fl ∧ fl.length = 8 ∧ (∀ k, k < 8 → -(rooms.getD k 0) ≤ fl.getD k 0 ∧ fl.getD k 0 ≤ rooms.getD k 0) ∧ ∀ v, v < 5 → outF fl (v : Nat) = need.getD v 0) s := by
  revert X; k_fill; intro X
  have Xs := X.keeps hk
  have Ts := T.keeps hk
  k_extra "m enterC"
  rename_i L' h1 tk1 F1 o2 o3 o4 d2 d3 d4 N1
  have F2 : Fr hb L' h1 _ := ⟨F1.ns, fun b o e => F1.keep b o (hk b o e), Nat.le_trans hsz F1.above⟩
  have l3L : @LT.lt Nat _ l3 L' := Nat.lt_of_lt_of_le (Heap.lt_size h3) F1.above
  have N2 : News hb L' h1 [(L' + 1 + 1 + 1, o2), (L' + 1 + 1, o3), (L' + 1, o4), (l3, W.listOf nv.toArray nn)] := by
    intro p hp
    simp only [List.mem_cons, List.not_mem_nil, or_false] at hp
    have hn : ∀ q ∈ [(L' + 1 + 1 + 1, o2), (L' + 1 + 1, o3), (L' + 1, o4)], h1.get? q.1 = some q.2 ∧ q.1 ≠ L' ∧ hb.get? q.1 = none := fun q hq => by
      obtain ⟨a, b, c⟩ := N1 q hq
      refine ⟨a, b, ?_⟩
      cases e : hb.get? q.1 with
      | none => rfl
      | some o => rw [hk _ _ e] at c; cases c
    rcases hp with rfl | rfl | rfl | rfl
    · exact hn _ (.head _)
    · exact hn _ (.tail _ (.head _))
    · exact hn _ (.tail _ (.tail _ (.head _)))
    · exact ⟨F1.keep _ _ h3, Nat.ne_of_lt l3L, h3b⟩
  have hLs : @LE.le Nat _ s.heap.objs.size L' := F1.above
  clear N1 F1 Xs Ts
  k_steps
  rename_i l' h' ll D' h2 i1 n1 s1 e1 e2 e3 ll2 h3' oF F9 N9 dF
  refine Stop.mk (while_fr (L := L') (σ := FlS) (fun c m₀ y => if y = Str.ofString "exits" then some (.ref l1) else m₀ y) (fun c => [(D', W.listOf c.fv.toArray c.nf), (L' + 1 + 1 + 1, oF), (L' + 1 + 1, o3), (L' + 1, o4), (l3, W.listOf c.nv.toArray c.nn)])
    (fun c => IntsAre c.nv c.need ∧ IntsAre c.fv c.fl ∧ FI rooms need c.need c.fl) (fun c => posN c.need) ⟨nv, _, nn, 0, need, [0, 0, 0, 0, 0, 0, 0, 0]⟩ _ (fr_name F9 rfl) N9 (fun p hp => ?_) ⟨hni, i1, ?_⟩ ?_)
  · simp only [List.mem_cons, List.not_mem_nil, or_false] at hp ⊢
    rcases hp with h | h | h | h | h
    · exact .inl h
    · exact .inr (.inr (.inl h))
    · exact .inr (.inr (.inr (.inl h)))
    · exact .inr (.inr (.inr (.inr (.inl h))))
    · exact .inr (.inr (.inr (.inr (.inr h))))
  · refine ⟨hnl, rfl, hnb, fun k hk => ?_, fun v hv => ?_, hsu⟩
    · have := hrb k hk
      show -(rooms.getD k 0) ≤ ([0, 0, 0, 0, 0, 0, 0, 0] : List Int).getD k 0 ∧ ([0, 0, 0, 0, 0, 0, 0, 0] : List Int).getD k 0 ≤ rooms.getD k 0
      have : ([0, 0, 0, 0, 0, 0, 0, 0] : List Int).getD k 0 = 0 := by
        have : k = 0 ∨ k = 1 ∨ k = 2 ∨ k = 3 ∨ k = 4 ∨ k = 5 ∨ k = 6 ∨ k = 7 := lt8 _ (by omega)
        rcases this with rfl | rfl | rfl | rfl | rfl | rfl | rfl | rfl <;> rfl
      omega
    · show _ = need.getD v 0 - need.getD v 0
      have : v = 0 ∨ v = 1 ∨ v = 2 ∨ v = 3 ∨ v = 4 := lt5 _ (by omega)
      rw [Int.sub_self]
      rcases this with rfl | rfl | rfl | rfl | rfl <;> rfl
  clear N9 F9 i1 s1 e1 e2 e3
  rintro ⟨nv', fv', nn', nf', need', fl'⟩ m₁ h tk E' ⟨hnI, hfI, FII⟩ F N
  dsimp only at hnI hfI FII F N
  have d3' : o3.data = .cell (some (.ref l3)) := d3
  have d4' : o4.data = .cell (some (.ref l2)) := d4
  clear d3 d4 d2
  have hnl' := FII.ln
  have hfl' := FII.lf
  have hnb' := FII.nb
  (try k_unmd); (try k_fold)
  k_steps
  · rename_i tk2 qk2 ek2 h4 mx t4 tk4 F4 N4 hmx hle hpos h5 tk5 t5 u5 v5 R5 F5 N5 K5
    refine Stop.mk (IfGo.range (n := 5) rfl R5 (by decide) (by decide) (by decide) (by decide) rfl rfl F5 N5 (PosP need') ⟨[], .nil, Nat.le_refl _, (fun _ h => nomatch h), fun v hv => absurd hv (Nat.not_lt_zero _)⟩ ?_ ?_)
    · rintro k t' I' oI' C oC D m₂ ys s₂ E2 hk ⟨zs, hz, hzl, hz1, hz2⟩ hC hx' F2 N2 off ne
      dsimp only [LCg.Off3] at off
      (try k_unmd); (try k_fold)
      k_steps
      refine Stop.mk (IfTurn.intro (by k_asm) (by k_asm) ?_ ?_)
      · intro hb
        (try k_unmd); (try k_fold)
        k_steps
        refine Stop.mk ⟨_, _, rfl, by k_asm, by k_asm, ?_⟩
        exact PosP.yes ⟨zs, hz, hzl, hz1, hz2⟩ hk (by simpa using hb)
      · intro hb
        exact PosP.no ⟨zs, hz, hzl, hz1, hz2⟩ (by simpa using hb)
    · intro g
      refine rr_none ?_
      rintro D h tk ys F N off ⟨zs, hz, hzl, hz1, hz2⟩
      simp only [List.forall_mem_cons, List.not_mem_nil, false_imp_iff, implies_true, and_true] at off
      obtain ⟨st, zr, e, hst, hst0⟩ := pos_first hz1 hz2 FII.ln hmx hpos
      subst e
      (try k_unmd); (try k_fold)
      k_steps
      rename_i t6 h6 tk6 lc h7 o7 lo7 hd7 l7 q0 h8 l8 h9 oc hd9 h10 tk10 ll2 h11 l11 h12 h13 F13 N13
      have F14 : Fr hb L' h13 (fun y => if y = Str.ofString "spot" then some (Value.int ((0 : Nat) : Int) _) else if y = Str.ofString "line" then some (Value.ref ll2) else if y = Str.ofString "came" then some (Value.ref lc) else if y = Str.ofString "start" then some (Value.int (st : Int) t6) else if y = Str.ofString "exits" then some (.ref l1) else m₁ y) := F13
      have N14 : News hb L' h13 [(ll2, W.listOf #[Value.int (st : Int) t6] 0), (q0, W.listOf #[] 0), (lc, oc), (D, LCg.lst ys), (D', W.listOf fv'.toArray nf'), (L' + 1 + 1 + 1, oF), (L' + 1 + 1, o3), (L' + 1, o4), (l3, W.listOf nv'.toArray nn')] := N13
      have hd14 : Obj.IsDictOf (PySem.intKind PySem.Challenge.rw_tl0015_01.row.prog w) oc [((st : Int), Value.ref q0)] := hd9
      clear F13 N13 hd9 hd7
      refine Stop.mk (while_fr (L := L') (σ := BfS) (fun c m₀ y => if y = Str.ofString "spot" then some (Value.int (c.spot : Int) c.ts) else if y = Str.ofString "line" then some (Value.ref ll2) else if y = Str.ofString "came" then some (Value.ref lc) else if y = Str.ofString "start" then some (Value.int (st : Int) t6) else if y = Str.ofString "exits" then some (.ref l1) else m₀ y)
        (fun c => (ll2, W.listOf c.lv.toArray c.nl) :: (lc, c.oc) :: (D', W.listOf fv'.toArray nf') :: (L' + 1 + 1 + 1, oF) :: (L' + 1 + 1, o3) :: (L' + 1, o4) :: (l3, W.listOf nv'.toArray nn') :: c.tups)
        (fun c => IntsAre c.lv (c.ws.map (·.1)) ∧ Obj.IsDictOf (PySem.intKind PySem.Challenge.rw_tl0015_01.row.prog w) c.oc c.kvs ∧ KvOk c.tups c.kvs c.ws ∧ BI rooms fl' st c.ws ∧ Seen rooms fl' c.ws c.spot 0 ∧ c.spot ≤ c.ws.length ∧ (∀ p ∈ c.tups, @LT.lt Nat _ lc p.1) ∧ ∀ p ∈ c.tups, @Ne Nat p.1 ll2)
        (fun c => 6 - c.spot) ⟨[Value.int (st : Int) t6], 0, 0, _, oc, [((st : Int), Value.ref q0)], [((st : Int), [])], [(q0, W.listOf #[] 0)]⟩ m₁ F14 N14 ?_ ⟨.cons _ _ .nil, hd14, ⟨⟨rfl, q0, [], 0, rfl, .head _, trivial⟩, trivial⟩, BI.start (by omega), Seen.zero, Nat.zero_le _, ?_, ?_⟩ ?_)
      · k_extra "m inc"
      · intro p hp
        rw [List.mem_singleton.mp hp]; exact l8.1
      · intro p hp
        rw [List.mem_singleton.mp hp]; exact Nat.ne_of_lt l11.1
      rintro ⟨lv, nl, spot, ts, oc2, kvs, ws, tups⟩ m₂ h tk E2 ⟨hlv, hoc, hkv, B, S, hsp, ht1, ht2⟩ F N
      dsimp only at hlv hoc hkv B S hsp ht1 ht2 F N
      have hlvl : lv.length = ws.length := by rw [hlv.length, List.length_map]
      have hwl : ws.length ≤ 5 := B.le5
      have zc : ∀ p ∈ tups, @Ne Nat p.1 lc := fun p hp => by have := ht1 p hp; omega
      (try k_unmd); (try k_fold)
      k_steps
      · rename_i tkA hA tkB qkB ekB hB tkC qkC ekC tkD qkE ekE hlt tE
        rw [List.length_map] at hlt
        have hsl : spot < ws.length := by omega
        obtain ⟨u, way, hp⟩ : ∃ u way, ws[spot]? = some (u, way) := ⟨_, _, List.getElem?_eq_getElem hsl⟩
        have hgu : (List.map (fun x => x.1) ws).getD spot 0 = u := by rw [List.getD_eq_getElem?_getD, List.getElem?_map, hp]; rfl
        have hmem : (u, way) ∈ ws := List.mem_of_getElem? hp
        have hur := B.rng _ hmem
        dsimp only at hur
        obtain ⟨outer, hO, hE⟩ := hex
        obtain ⟨e, vals, ho, hvl, hlen, hit⟩ := hE u.toNat (by omega)
        refine sub_baseL (its := outer) (v := .ref e) (by k_asm) hO (by rw [hgu]; exact ho) (by rw [hgu]; omega) (by rw [hgu]; omega) ?_
        k_steps
        refine Stop.mk (for_list2 (L := L') (σ := BfS) (items := vals.toArray) (fun c m₀ y => if y = Str.ofString "spot" then some (Value.int (spot : Int) ts) else if y = Str.ofString "line" then some (Value.ref ll2) else if y = Str.ofString "came" then some (Value.ref lc) else if y = Str.ofString "start" then some (Value.int (st : Int) t6) else if y = Str.ofString "exits" then some (.ref l1) else m₀ y)
          (fun c => (ll2, W.listOf c.lv.toArray c.nl) :: (lc, c.oc) :: (D', W.listOf fv'.toArray nf') :: (L' + 1 + 1 + 1, oF) :: (L' + 1 + 1, o3) :: (L' + 1, o4) :: (l3, W.listOf nv'.toArray nn') :: c.tups)
          (fun j c => IntsAre c.lv (c.ws.map (·.1)) ∧ Obj.IsDictOf (PySem.intKind PySem.Challenge.rw_tl0015_01.row.prog w) c.oc c.kvs ∧ KvOk c.tups c.kvs c.ws ∧ BI rooms fl' st c.ws ∧ Seen rooms fl' c.ws spot j ∧ c.ws[spot]? = some (u, way) ∧ (∀ p ∈ c.tups, @LT.lt Nat _ lc p.1) ∧ ∀ p ∈ c.tups, @Ne Nat p.1 ll2)
          ⟨lv, nl, spot, ts, oc2, kvs, ws, tups⟩ m₂ rfl rfl (.inl hvl) (by k_asm) (by k_asm) (fun _ h => h) ⟨hlv, hoc, hkv, B, S, hp, ht1, ht2⟩ ?_ ?_)
        · rintro j v ⟨lv, nl, sp', ts', oc2, kvs, ws, tups⟩ m₃ s₁ I oI E3 hj hv ⟨hlv, hoc, hkv, B, S, hp, ht1, ht2⟩ hI F₁ N₁
          dsimp only at hlv hoc hkv B S hp ht1 ht2 hI F₁ N₁
          simp only [List.forall_mem_cons] at hI
          obtain ⟨i1, i2, i3, i4, i5, i6, i7, i8⟩ := hI
          have hlvl : lv.length = ws.length := by rw [hlv.length, List.length_map]
          have hkl : kvs.length = ws.length := by simpa using congrArg List.length hkv.keys
          have hwl : ws.length ≤ 5 := B.le5
          have hll : lv.length ≤ 5 := by omega
          have zc : ∀ p ∈ tups, @Ne Nat p.1 lc := fun p hp => by have := ht1 p hp; omega
          have hsl : spot < ws.length := (List.getElem?_eq_some_iff.mp hp).1
          have hgu : (List.map (fun x => x.1) ws).getD spot 0 = u := by rw [List.getD_eq_getElem?_getD, List.getElem?_map, hp]; rfl
          have hmem : (u, way) ∈ ws := List.mem_of_getElem? hp
          have hj' : j < (exOf 8 u.toNat).length := by rw [← hlen]; simpa using hj
          obtain ⟨⟨k, far, sg⟩, hx⟩ : ∃ x, (exOf 8 u.toNat)[j]? = some x := ⟨_, List.getElem?_eq_getElem hj'⟩
          obtain ⟨q, t1, t2, t3, hq1, hq2⟩ := hit j _ hx
          dsimp only at hq1 hq2
          have : v = .ref q := by
            rw [List.getElem?_toArray, hq1] at hv
            exact (Option.some.inj hv).symm
          subst this
          have hxm := List.mem_of_getElem? hx
          have hx2 := mem_exOf.mp hxm
          dsimp only at hx2
          obtain ⟨hk8, hx2⟩ := hx2
          have hfk : -100 ≤ fl'.getD k 0 ∧ fl'.getD k 0 ≤ 100 := by
            have h1 := hrb k hk8
            have h2 := FII.fb k hk8
            omega
          by_cases hin : far ∈ ws.map (·.1)
          · have hvs : (valueAt kvs far).isSome = true := by
              obtain ⟨p0, hp0, e0⟩ := List.mem_map.mp hin
              obtain ⟨_, _, _, h1, _⟩ := hkv.find B.nd (u := far) (way := p0.2) (by rw [← e0]; exact hp0)
              rw [h1]; rfl
            (try k_unmd); (try k_fold)
            k_steps
            rename Fr _ _ _ _ => F8
            refine Stop.mk (ForEnd2.intro ⟨lv, nl, sp', ts', oc2, kvs, ws, tups⟩ _ (fr_name (fr_name (fr_name (fr_name (fr_name F8 rfl) rfl) rfl) rfl) rfl) (by k_asm) (fun p hp => .tail _ hp) (.head _) ?_ ⟨hlv, hoc, hkv, B, S.skip hp hx (.inl hin), hp, ht1, ht2⟩)
            exact List.forall_mem_cons.mpr ⟨i1, List.forall_mem_cons.mpr ⟨i2, List.forall_mem_cons.mpr ⟨i3, List.forall_mem_cons.mpr ⟨i4, List.forall_mem_cons.mpr ⟨i5, List.forall_mem_cons.mpr ⟨i6, List.forall_mem_cons.mpr ⟨i7, i8⟩⟩⟩⟩⟩⟩⟩
          · have hvn := hkv.none hin
            have hvs : (valueAt kvs far).isSome = false := by rw [hvn]; rfl
            obtain ⟨qw, wv, wn, hw1, hw2, hw3⟩ := hkv.find B.nd hmem
            have hw1' : valueAt kvs ((List.map (fun x => x.1) ws).getD spot 0) = some (.ref qw) := by rw [hgu]; exact hw1
            have hw2' : List.Mem (qw, W.listOf wv.toArray wn) tups := hw2
            have hwvl : wv.length ≤ 5 := by
              have := B.len _ hmem
              dsimp only at this
              rw [hw3.length]; omega
            have hkl5 : kvs.length ≤ 5 := by omega
            rcases hx2 with ⟨hPA, hfar, rfl⟩ | ⟨hPB, hfar, rfl⟩
            · (try k_unmd); (try k_fold)
              k_steps
              · rename_i tkF tF tG hcap tH dt hF1 lF1 lt hF2 F8 N8 lF2
                k_dflt (refine' kmk_add_lit (a := qw) (b := lt) (its := wv.toArray) (its2 := #[Value.ref dt]) (zs := wv ++ [Value.ref dt]) F8 N8 ⟨_, (N8 (qw, W.listOf wv.toArray wn) ?m1).1, rfl, wn, rfl⟩ ⟨_, (N8 (lt, W.listOf #[Value.ref dt] 0) ?m2).1, rfl, 0, rfl⟩ rfl ?_ ?z1)
                case m1 => k_mem
                case m2 => k_mem
                case z1 =>
                  show wv.length + 1 ≤ sizeLine
                  rw [sizeLine_eq]; omega
                intro D2 h2 F2 N2 lD
                (try k_lt lD)
                clear F8 N8
                k_steps
                simp only [List.push_toArray] at *
                rename Fr _ _ _ _ => F9
                rename Obj.IsDictOf _ _ (stored _ _ _) => hst9
                refine Stop.mk (ForEnd2.intro ⟨lv ++ [Value.int far t2], nl + 1, sp', ts', _, kvs ++ [(far, Value.ref D2)], ws ++ [(far, way ++ [(k, 1)])], (D2, W.listOf (wv ++ [Value.ref dt]).toArray 0) :: (dt, tup2 (.int (k : Int) t1) (.int 1 t3) 0) :: tups⟩ _ (fr_name (fr_name (fr_name (fr_name (fr_name F9 rfl) rfl) rfl) rfl) rfl) (by k_asm) ?_ (.tail _ (.tail _ (.tail _ (.head _)))) ?_
                  (bf_add hlv hst9 hvn hkv B S hp hx hin hcap hw3 ht1 ht2 lD.2.2.2.2.1 lF1.2.2.1 lD.2.2.2.1 lF1.2.1))
                · k_extra "m inc"
                · exact List.forall_mem_cons.mpr ⟨i1, List.forall_mem_cons.mpr ⟨i2, List.forall_mem_cons.mpr ⟨i3, List.forall_mem_cons.mpr ⟨i4, List.forall_mem_cons.mpr ⟨i5, List.forall_mem_cons.mpr ⟨i6, List.forall_mem_cons.mpr ⟨i7, List.forall_mem_cons.mpr ⟨Nat.ne_of_gt lD.2.2.1, List.forall_mem_cons.mpr ⟨Nat.ne_of_gt lF1.1, i8⟩⟩⟩⟩⟩⟩⟩⟩⟩
              · rename Fr _ _ _ _ => F9
                rename ¬ _ => hcap
                refine Stop.mk (ForEnd2.intro ⟨lv, nl, sp', ts', oc2, kvs, ws, tups⟩ _ (fr_name (fr_name (fr_name (fr_name (fr_name F9 rfl) rfl) rfl) rfl) rfl) (by k_asm) (fun p hp => .tail _ hp) (.head _) ?_ ⟨hlv, hoc, hkv, B, S.skip hp hx (.inr hcap), hp, ht1, ht2⟩)
                exact List.forall_mem_cons.mpr ⟨i1, List.forall_mem_cons.mpr ⟨i2, List.forall_mem_cons.mpr ⟨i3, List.forall_mem_cons.mpr ⟨i4, List.forall_mem_cons.mpr ⟨i5, List.forall_mem_cons.mpr ⟨i6, List.forall_mem_cons.mpr ⟨i7, i8⟩⟩⟩⟩⟩⟩⟩
            · (try k_unmd); (try k_fold)
              k_steps
              · rename_i tkF tF tG hcap tH dt hF1 lF1 lt hF2 F8 N8 lF2
                k_dflt (refine' kmk_add_lit (a := qw) (b := lt) (its := wv.toArray) (its2 := #[Value.ref dt]) (zs := wv ++ [Value.ref dt]) F8 N8 ⟨_, (N8 (qw, W.listOf wv.toArray wn) ?m1).1, rfl, wn, rfl⟩ ⟨_, (N8 (lt, W.listOf #[Value.ref dt] 0) ?m2).1, rfl, 0, rfl⟩ rfl ?_ ?z1)
                case m1 => k_mem
                case m2 => k_mem
                case z1 =>
                  show wv.length + 1 ≤ sizeLine
                  rw [sizeLine_eq]; omega
                intro D2 h2 F2 N2 lD
                (try k_lt lD)
                clear F8 N8
                k_steps
                simp only [List.push_toArray] at *
                rename Fr _ _ _ _ => F9
                rename Obj.IsDictOf _ _ (stored _ _ _) => hst9
                refine Stop.mk (ForEnd2.intro ⟨lv ++ [Value.int far t2], nl + 1, sp', ts', _, kvs ++ [(far, Value.ref D2)], ws ++ [(far, way ++ [(k, -1)])], (D2, W.listOf (wv ++ [Value.ref dt]).toArray 0) :: (dt, tup2 (.int (k : Int) t1) (.int (-1) t3) 0) :: tups⟩ _ (fr_name (fr_name (fr_name (fr_name (fr_name F9 rfl) rfl) rfl) rfl) rfl) (by k_asm) ?_ (.tail _ (.tail _ (.tail _ (.head _)))) ?_
                  (bf_add hlv hst9 hvn hkv B S hp hx hin hcap hw3 ht1 ht2 lD.2.2.2.2.1 lF1.2.2.1 lD.2.2.2.1 lF1.2.1))
                · k_extra "m inc"
                · exact List.forall_mem_cons.mpr ⟨i1, List.forall_mem_cons.mpr ⟨i2, List.forall_mem_cons.mpr ⟨i3, List.forall_mem_cons.mpr ⟨i4, List.forall_mem_cons.mpr ⟨i5, List.forall_mem_cons.mpr ⟨i6, List.forall_mem_cons.mpr ⟨i7, List.forall_mem_cons.mpr ⟨Nat.ne_of_gt lD.2.2.1, List.forall_mem_cons.mpr ⟨Nat.ne_of_gt lF1.1, i8⟩⟩⟩⟩⟩⟩⟩⟩⟩
              · rename Fr _ _ _ _ => F9
                rename ¬ _ => hcap
                refine Stop.mk (ForEnd2.intro ⟨lv, nl, sp', ts', oc2, kvs, ws, tups⟩ _ (fr_name (fr_name (fr_name (fr_name (fr_name F9 rfl) rfl) rfl) rfl) rfl) (by k_asm) (fun p hp => .tail _ hp) (.head _) ?_ ⟨hlv, hoc, hkv, B, S.skip hp hx (.inr hcap), hp, ht1, ht2⟩)
                exact List.forall_mem_cons.mpr ⟨i1, List.forall_mem_cons.mpr ⟨i2, List.forall_mem_cons.mpr ⟨i3, List.forall_mem_cons.mpr ⟨i4, List.forall_mem_cons.mpr ⟨i5, List.forall_mem_cons.mpr ⟨i6, List.forall_mem_cons.mpr ⟨i7, i8⟩⟩⟩⟩⟩⟩⟩
        · rintro ⟨lv, nl, sp', ts', oc2, kvs, ws, tups⟩ m₃ h tk ⟨hlv, hoc, hkv, B, S, hp, ht1, ht2⟩ F N
          dsimp only at hlv hoc hkv B S hp ht1 ht2 F N
          have hsl : spot < ws.length := (List.getElem?_eq_some_iff.mp hp).1
          have hwl : ws.length ≤ 5 := B.le5
          (try k_unmd); (try k_fold)
          k_steps
          rename Fr _ _ _ _ => F8
          refine TurnEnd.intro ⟨lv, nl, spot + 1, _, oc2, kvs, ws, tups⟩ _ (fr_name (fr_name (fr_name (fr_name (fr_name F8 rfl) rfl) rfl) rfl) rfl) (by k_asm) (fun p hp => hp) (fun _ h => nomatch h) ⟨⟨hlv, hoc, hkv, B, S.next hp (by rw [← hlen]; simp), hsl, ht1, ht2⟩, by dsimp only; omega⟩
      · rename_i tkA hA tkB qkB ekB hB tkC qkC ekC tkD qkE ekE hge
        rw [List.length_map] at hge
        have hse : spot = ws.length := by omega
        refine Stop.mk ?_
        k_unmd; (try k_unfold)
        refine IfGo.list (items := lv.toArray) rfl (.inr ⟨nl, by k_mem⟩) (by rw [List.size_toArray, sizeLine_eq]; omega) (by decide) rfl rfl F N (fun k ys => GoalP need' ws k ys) ⟨[], .nil, Nat.le_refl _, (fun _ h => nomatch h), fun _ a ha => absurd ha (Nat.not_lt_zero _)⟩ ?_ ?_
        · rintro k v I' oI' C oC D m₂ ys s₂ E3 hk hv ⟨zs, hz, hzl, hz1, hz2⟩ hC hx' F2 N2 off ne
          dsimp only [LCg.Off3] at off
          have hk5 : k < ws.length := by rw [List.size_toArray] at hk; omega
          obtain ⟨pl, wy, hpl⟩ : ∃ pl wy, ws[k]? = some (pl, wy) := ⟨_, _, List.getElem?_eq_getElem hk5⟩
          have hplr := B.rng _ (List.mem_of_getElem? hpl)
          dsimp only at hplr
          obtain ⟨tv, hv2⟩ := hlv.get k pl (by rw [List.getElem?_map, hpl]; rfl)
          have : v = .int pl tv := by
            rw [List.getElem?_toArray, hv2] at hv
            exact (Option.some.inj hv).symm
          subst this
          obtain ⟨hpl0, hpl5⟩ := hplr
          (try k_unmd); (try k_fold)
          k_steps
          refine Stop.mk (IfTurn.intro (by k_asm) (by k_asm) ?_ ?_)
          · intro hb
            (try k_unmd); (try k_fold)
            k_steps
            refine Stop.mk ⟨_, _, rfl, by k_asm, by k_asm, ?_⟩
            exact GoalP.yes ⟨zs, hz, hzl, hz1, hz2⟩ hpl (by simpa using hb)
          · intro hb
            exact GoalP.no ⟨zs, hz, hzl, hz1, hz2⟩ hpl (by simpa using hb)
        · intro g
          refine' rr_some ?ha ?hb ?hc ?_
          case ha => exact rfl
          case hb => exact rfl
          case hc => exact rfl
          rintro G h tk ys F N off ⟨zs, hz, hzl, hz1, hz2⟩
          rw [List.size_toArray] at hzl hz2
          have hne : zs ≠ [] := fun e => by
            refine stuck FII B (hse ▸ S) (fun p hp => ?_) hst0 cut
            obtain ⟨a, ha⟩ := List.getElem?_of_mem hp
            exact hz2 e a (by have := (List.getElem?_eq_some_iff.mp ha).1; omega) p ha
          obtain ⟨go, zr, rfl⟩ : ∃ go zr, zs = go :: zr := by
            cases zs with
            | nil => exact absurd rfl hne
            | cons a b => exact ⟨a, b, rfl⟩
          obtain ⟨hg1, hg2⟩ := hz1 go (.head _)
          obtain ⟨⟨go', way⟩, hg3, e⟩ := List.mem_map.mp hg1
          dsimp only at e
          subst e
          have hgr := B.rng _ hg3
          dsimp only at hgr
          obtain ⟨hgr0, hgr5⟩ := hgr
          obtain ⟨qg, wv, wn, hw1, hw2, hw3⟩ := hkv.find B.nd hg3
          have hw1' : valueAt kvs ((go' :: zr).getD (Int.toNat 0) 0) = some (.ref qg) := hw1
          have hw2' : List.Mem (qg, W.listOf wv.toArray wn) tups := hw2
          have hwl5 : wv.length ≤ 5 := by
            have := B.len _ hg3
            dsimp only at this
            rw [hw3.length]; omega
          simp only [List.forall_mem_cons] at off
          (try k_unmd); (try k_fold)
          k_steps
          rename_i qkG ekG lG hG llG tG hG2 F8 N8
          refine Stop.mk (LCp.SrcLP.ledger (k := wn) (its := wv.toArray) rfl F8 N8 (by k_mem) (by rw [List.size_toArray, sizeLine_eq]; omega) ?_)
          intro g2
          refine compP_inv (fun i ys => IntsAre ys (freeL rooms fl' (way.take i))) .nil ?_ ?_
          · intro i zs v hi hJ hv
            obtain ⟨⟨k, sg⟩, q, n, t1, t2, hx1, rfl, hq⟩ := hw3.get (i := i) (v := v) (by simpa using hv)
            dsimp only at hq
            have hq' : List.Mem (q, tup2 (.int (k : Int) t1) (.int sg t2) n) tups := hq
            have hk8 := (B.leads _ hg3).lt _ (List.mem_of_getElem? hx1)
            dsimp only at hk8
            have hfk : -100 ≤ fl'.getD k 0 ∧ fl'.getD k 0 ≤ 100 := by
              have h1 := hrb k hk8
              have h2 := FII.fb k hk8
              omega
            refine ⟨q, tup2 (.int (k : Int) t1) (.int sg t2) n, .int (k : Int) t1, .int sg t2, n, rfl, by k_mem, rfl, rfl, ?_⟩
            intro I oI C oC D m₂ h tk E' hC hx hx2 F N off ne
            have hsg := B.sg _ hg3 _ (List.mem_of_getElem? hx1)
            dsimp only at hsg
            dsimp only [LCg.Off3] at off
            rw [List.size_toArray] at hi
            have hJ' : ∀ tt, IntsAre (zs ++ [.int (rooms.getD k 0 - sg * fl'.getD k 0) tt]) (freeL rooms fl' (way.take (i + 1))) := fun tt => by
              rw [take_snoc hx1]
              unfold freeL
              rw [List.map_append]
              exact hJ.append (.cons _ _ .nil)
            clear hJ
            rcases hsg with rfl | rfl
            · (try k_unmd); (try k_fold)
              k_steps
              k_extra "m end"
              exact hJ' _
            · (try k_unmd); (try k_fold)
              k_steps
              k_extra "m end"
              exact hJ' _
          · intro fs hfs
            rw [List.size_toArray, hw3.length, List.take_length] at hfs
            unfold LCg.FinA
            intro FD h tk F N o1
            have hz0 : 0 ≤ (go' :: zr).getD (Int.toNat 0) 0 := hgr0
            have hz5 : (go' :: zr).getD (Int.toNat 0) 0 < 5 := hgr5
            (try k_unmd); (try k_fold)
            k_steps
            rename_i tkH hH ta tb tc lH hH2 F9 N9 llH
            have hfl5 : fs.length ≤ 5 := by rw [hfs.length]; unfold freeL; rw [List.length_map, ← hw3.length]; exact hwl5
            refine kmk_add_ints (vs := [_, _]) (ws := fs) F9 N9 ⟨_, (N9 (lH, W.listOf #[_, _] 0) (.head _)).1, rfl, 0, rfl⟩ ⟨_, (N9 (FD, LCg.lst fs) (.tail _ (.head _))).1, rfl, _, rfl⟩ (.cons _ _ (.cons _ _ .nil)) hfs ?_ ?_
            · intro AD us hA FA NA lA hIA
              (try k_lt lA)
              clear F9 N9
              k_steps
              rename_i tkM qkM ekM tkM2 hM M tM tkM3 hMin hMle hM2 FM NM
              have hM0 : 0 < M := min_pos hMin hst0 (by have : need'.getD go'.toNat 0 < 0 := hg2; show 0 < - need'.getD go'.toNat 0; omega) (B.cap _ hg3)
              have hM1 : M ≤ need'.getD st 0 := hMle _ (.head _)
              have hM2' : M ≤ - need'.getD go'.toNat 0 := hMle _ (.tail _ (.head _))
              have hM3 : ∀ e ∈ way, M ≤ rooms.getD e.1 0 - e.2 * fl'.getD e.1 0 := fun e he => hMle _ (List.mem_append_right _ (List.mem_map_of_mem (f := fun e : Nat × Int => rooms.getD e.1 0 - e.2 * fl'.getD e.1 0) he))
              have hM5 : M ≤ 1000 := by have := (hnb' st hst).2; omega
              refine Stop.mk (for_list2 (L := L') (σ := List Value × Nat × List Int) (items := wv.toArray) (fun c m₀ y => if y = Str.ofString "amount" then some (Value.int M tM) else if y = Str.ofString "goals" then some (Value.ref G) else if y = Str.ofString "start" then some (Value.int (st : Int) t6) else if y = Str.ofString "exits" then some (.ref l1) else m₀ y)
                (fun c => (D', W.listOf c.1.toArray c.2.1) :: (G, LCg.lst ys) :: (L' + 1 + 1 + 1, oF) :: (L' + 1 + 1, o3) :: (L' + 1, o4) :: (l3, W.listOf nv'.toArray nn') :: tups)
                (fun j c => IntsAre c.1 c.2.2 ∧ c.2.2 = pushF fl' (way.take j) M) ⟨fv', nf', fl'⟩ _ rfl rfl (.inr ⟨wn, fun c => .tail _ (.tail _ (.tail _ (.tail _ (.tail _ (.tail _ hw2)))))⟩) (fr_name (fr_name (fr_name (fr_name FM rfl) rfl) rfl) rfl) NM ?_ ⟨hfI, rfl⟩ ?_ ?_)
              · k_extra "m inc"
              · rintro j v ⟨fv, nf, fl⟩ m₃ s₁ I oI E3 hj hv ⟨hf, hfe⟩ hI F₁ N₁
                dsimp only at hf hfe hI F₁ N₁
                subst hfe
                simp only [List.forall_mem_cons] at hI
                obtain ⟨i1, i2, i3, i4, i5, i6, i7⟩ := hI
                obtain ⟨⟨k, sg⟩, q, n, t1, t2, hx1, rfl, hq⟩ := hw3.get (i := j) (v := v) (by simpa using hv)
                dsimp only at hq
                have hq' : List.Mem (q, tup2 (.int (k : Int) t1) (.int sg t2) n) tups := hq
                have hk8 := (B.leads _ hg3).lt _ (List.mem_of_getElem? hx1)
                dsimp only at hk8
                have hsg := B.sg _ hg3 _ (List.mem_of_getElem? hx1)
                dsimp only at hsg
                have hq2 : IsTup s₁.heap q #[.int (k : Int) t1, .int sg t2] := ⟨_, (N₁ (q, tup2 (.int (k : Int) t1) (.int sg t2) n) (.tail _ (.tail _ (.tail _ (.tail _ (.tail _ (.tail _ (.tail _ hq)))))))).1, rfl, n, rfl⟩
                have hpl : (pushF fl' (way.take j) M).length = 8 := by rw [pushF_len]; exact hfl'
                have hpn : pushF fl' (way.take (j + 1)) M = (pushF fl' (way.take j) M).set k ((pushF fl' (way.take j) M).getD k 0 + sg * M) := by rw [take_snoc hx1, pushF_snoc]
                have zD : ∀ p ∈ tups, @Ne Nat p.1 D' := fun p hp => by have := ht1 p hp; omega
                rcases hsg with rfl | rfl
                · (try k_unmd); (try k_fold)
                  k_steps
                  rename Fr _ _ _ _ => F9
                  rename IntsAre (List.set fv _ _) _ => hi9
                  refine Stop.mk (ForEnd2.intro (_, nf, _) _ (fr_name (fr_name (fr_name (fr_name F9 rfl) rfl) rfl) rfl) (by k_asm) ?_ (.head _) ?_ ⟨hi9, hpn.symm⟩)
                  · k_extra "m inc"
                  · exact List.forall_mem_cons.mpr ⟨i1, List.forall_mem_cons.mpr ⟨i2, List.forall_mem_cons.mpr ⟨i3, List.forall_mem_cons.mpr ⟨i4, List.forall_mem_cons.mpr ⟨i5, List.forall_mem_cons.mpr ⟨i6, i7⟩⟩⟩⟩⟩⟩
                · (try k_unmd); (try k_fold)
                  k_steps
                  rename Fr _ _ _ _ => F9
                  rename IntsAre (List.set fv _ _) _ => hi9
                  refine Stop.mk (ForEnd2.intro (_, nf, _) _ (fr_name (fr_name (fr_name (fr_name F9 rfl) rfl) rfl) rfl) (by k_asm) ?_ (.head _) ?_ ⟨hi9, hpn.symm⟩)
                  · k_extra "m inc"
                  · exact List.forall_mem_cons.mpr ⟨i1, List.forall_mem_cons.mpr ⟨i2, List.forall_mem_cons.mpr ⟨i3, List.forall_mem_cons.mpr ⟨i4, List.forall_mem_cons.mpr ⟨i5, List.forall_mem_cons.mpr ⟨i6, i7⟩⟩⟩⟩⟩⟩
              · rintro ⟨fv, nf, fl⟩ m₃ h tk ⟨hf, hfe⟩ F N
                dsimp only at hf hfe F N
                rw [List.size_toArray, hw3.length, List.take_length] at hfe
                have zl3 : ∀ p ∈ tups, @Ne Nat p.1 l3 := fun p hp => by have := ht1 p hp; omega
                (try k_unmd); (try k_fold)
                k_steps
                rename Fr _ _ _ _ => F9
                rename IntsAre (List.set (List.set nv' _ _) _ _) _ => hi9
                obtain ⟨FI2, hlt⟩ := push FII B hg3 hM0 hM1 hM2' hM3 _ rfl
                refine TurnEnd.intro ⟨_, fv, nn', nf, _, fl⟩ _ (fr_name F9 rfl) (by k_asm) ?_ (fun _ h => nomatch h) ⟨⟨hi9, hf, hfe ▸ FI2⟩, hlt⟩
                k_extra "m inc"
            · show 2 + (freeL rooms fl' way).length ≤ sizeLine
              rw [← hfs.length, sizeLine_eq]; omega
  · rename_i tk2 tk3 h4 mx t4 tk4 F4 N4 hmx hle hneg
    (try k_unmd); (try k_unfold)
    refine ⟨.ref D', [(D', W.listOf fv'.toArray nf')], h4, _, rfl, rfl, F4.keep, ?_, D', fv', nf', fl', rfl, rfl, hfI, hfl', FII.fb, ?_⟩
    · intro p hp
      rw [List.mem_singleton.mp hp]
      exact ⟨(N4 (D', W.listOf fv'.toArray nf') (.head _)).1, Heap.get?_none_of_le (by show @LE.le Nat _ _ D'; omega)⟩
    · refine flow_done FII fun v hv => ?_
      have : need'.getD v 0 ≤ mx := hle _ (by rw [List.getD_eq_getElem?_getD, List.getElem?_eq_getElem (by omega)]; exact List.getElem_mem _)
      omega
end
end
section
open PySem PySem.W PyProof.Rows PySem.Spec PySem.Calls
section
noncomputable def lawFd (p : Params) : Option FuncData := match (Mine.KK p).lookup 128 with | some ⟨_, _, .func fd, _⟩ => some fd | _ => none
noncomputable def lawBody (p : Params) : List Stmt := match lawFd p with | some fd => (match fd.body with | .stmts b => b | _ => []) | none => []
noncomputable def lawScope (p : Params) : Scope := match lawFd p with | some fd => fd.scope | none => default
abbrev lawEnv (scope : Scope) (L : Addr) : Env := envOfC (Str.ofString "law") scope L 128 (.ref 127)
section
variable {M : Model} {A : Around} {E : Value → Shared → Prop} {s : Shared} {env : Env}
theorem execs_append : ∀ (a b : List Stmt), execs (a ++ b) env = (execs a env >>= fun f => match f with | .next => execs b env | f => pure f)
  | [], b => rfl
  | st :: a, b => by
    rw [List.cons_append, execs_cons, execs_cons, bind_assoc]
    congr 1
    funext f
    cases f with
    | next => exact execs_append a b
    | ret v => rfl
    | brk => rfl
    | cont => rfl
theorem wpAny_execs_append {a b : List Stmt} {Q : Flow → Shared → Prop} (h : wpAny M A (execs a env) (fun f s' => match f with | .next => wpAny M A (execs b env) Q E s' | f => Q f s') E s) : wpAny M A (execs (a ++ b) env) Q E s := by
  rw [execs_append]
  refine wpAny_bind (wpAny_mono h (fun f s' h' => ?_) fun _ _ e => e)
  cases f with
  | next => exact h'
  | ret v => exact wpAny_pure h'
  | brk => exact wpAny_pure h'
  | cont => exact wpAny_pure h'
end
/-- the eight pairs of places, their objects in own -/
def PairsL (own : List (Addr × Obj)) (pv : List Value) : Prop := pv.length = 8 ∧ ∀ k, k < 8 → ∃ (q : Addr) (n : Nat) (t1 t2 : Tok), pv[k]? = some (Value.ref q) ∧ (q, W.listOf [Value.int (PA k) t1, Value.int (PB k) t2].toArray n) ∈ own
theorem PairsL.at {h₀ h : Heap} {L lp : Addr} {news own : List (Addr × Obj)} {pv : List Value} {n : Nat} (P : PairsL own pv) (N : News h₀ L h news) (hm : (lp, W.listOf pv.toArray n) ∈ news) (hs : ∀ p ∈ own, p ∈ news) : PairsAt h lp := by
  refine ⟨pv, ⟨_, (N _ hm).1, rfl, n, rfl⟩, P.1, fun k hk => ?_⟩
  obtain ⟨q, n, t1, t2, h1, h2⟩ := P.2 k hk
  exact ⟨q, t1, t2, h1, ⟨_, (N _ (hs _ h2)).1, rfl, n, rfl⟩⟩
theorem news_ne {h₀ h : Heap} {L r : Addr} {news : List (Addr × Obj)} (N : News h₀ L h news) (hf : h.get? r = none) : ∀ p ∈ news, @Ne Nat p.1 r := by
  intro p hp e
  have := (N p hp).1
  rw [show p.1 = r from e, hf] at this
  cases this
/-- a stands apart from the law's ten cells -/
def OffC (L a : Nat) : Prop := a ≠ L + 1 ∧ True ∧ a ≠ L + 1 + 1 + 1 ∧ a ≠ L + 1 + 1 + 1 + 1 ∧ a ≠ L + 1 + 1 + 1 + 1 + 1 ∧ a ≠ L + 1 + 1 + 1 + 1 + 1 + 1 ∧ a ≠ L + 1 + 1 + 1 + 1 + 1 + 1 + 1 ∧ a ≠ L + 1 + 1 + 1 + 1 + 1 + 1 + 1 + 1 ∧ a ≠ L + 1 + 1 + 1 + 1 + 1 + 1 + 1 + 1 + 1 ∧ a ≠ L + 1 + 1 + 1 + 1 + 1 + 1 + 1 + 1 + 1 + 1
theorem OffC.gt {L a : Nat} (h : L + 1 + 1 + 1 + 1 + 1 + 1 + 1 + 1 + 1 + 1 < a) : OffC L a :=
  have g : ∀ k, L + 1 + k ≤ L + 1 + 1 + 1 + 1 + 1 + 1 + 1 + 1 + 1 + 1 → a ≠ L + 1 + k := fun _ q => Nat.ne_of_gt (Nat.lt_of_le_of_lt q h)
  ⟨g 0 (Nat.le_add_right (L + 1) 9), trivial, g 2 (Nat.le_add_right (L + 3) 7), g 3 (Nat.le_add_right (L + 4) 6), g 4 (Nat.le_add_right (L + 5) 5), g 5 (Nat.le_add_right (L + 6) 4), g 6 (Nat.le_add_right (L + 7) 3), g 7 (Nat.le_add_right (L + 8) 2), g 8 (Nat.le_add_right (L + 9) 1), g 9 (Nat.le_refl _)⟩
theorem side01 : ∀ i, i < 16 → (Builtin.bitAnd (i : Nat) 1 != Builtin.bitAnd (Int.fdiv (i : Nat) (2 ^ Int.toNat 1)) 1) = apart i 0 1 := by decide +kernel
theorem side23 : ∀ i, i < 16 → (Builtin.bitAnd (Int.fdiv (i : Nat) (2 ^ Int.toNat 2)) 1 != Builtin.bitAnd (Int.fdiv (i : Nat) (2 ^ Int.toNat 3)) 1) = apart i 2 3 := by decide +kernel
end
end
section
open PySem PySem.W PyProof.Rows PySem.Spec PySem.Calls
section
def dAt (ds : List Int) (k : Nat) : Nat := ((ds.getD k 0).fmod 4).toNat
def eAt (ds : List Int) (k : Nat) : Nat := (((ds.getD k 0).fdiv 4).fmod 3).toNat
def sentS (ds : List Int) (k : Nat) : Str := ⟨(sentAt (dAt ds k) k (eAt ds k)).toArray⟩
theorem mul_dots {n : Int} (h0 : 0 ≤ n) (h1 : n < 4) : Txt.mul (Str.ofString ".") n = ⟨(List.replicate n.toNat 46).toArray⟩ := by
  have : n = 0 ∨ n = 1 ∨ n = 2 ∨ n = 3 := by omega
  rcases this with rfl | rfl | rfl | rfl <;> decide +kernel
theorem name_at : ∀ i, i < 8 → ([Str.ofString "([", Str.ofString "[)", Str.ofString ")]", Str.ofString "](", Str.ofString "(h", Str.ofString ")h", Str.ofString "[h", Str.ofString "]h"] : List Str).getD (Int.toNat (i : Nat)) ⟨#[]⟩ = ⟨(nameAt i).toArray⟩ := by decide +kernel
theorem name_len : ∀ i, i < 8 → (⟨(nameAt i).toArray⟩ : Str).length ≤ 2 := by decide +kernel
theorem end_at {e : Int} (h0 : 0 ≤ e) (h1 : e < 3) : ([Str.ofString "\n", Str.ofString "\r", Str.ofString "\r\n"] : List Str).getD e.toNat ⟨#[]⟩ = ⟨(endAt e.toNat).toArray⟩ := by
  have : e = 0 ∨ e = 1 ∨ e = 2 := by omega
  rcases this with rfl | rfl | rfl <;> decide +kernel
theorem end_len {e : Int} (h0 : 0 ≤ e) (h1 : e < 3) : (⟨(endAt e.toNat).toArray⟩ : Str).length ≤ 2 := by
  have : e = 0 ∨ e = 1 ∨ e = 2 := by omega
  rcases this with rfl | rfl | rfl <;> decide +kernel
theorem glue (a b : List Nat) : (⟨a.toArray⟩ : Str) ++ ⟨b.toArray⟩ = ⟨(a ++ b).toArray⟩ := by
  apply Str.ext'
  rw [Str.cps_append]
  simp
theorem lf_str : Str.ofString "\n" = ⟨[10].toArray⟩ := by decide +kernel
theorem cr_str : Str.ofString "\r" = ⟨[13].toArray⟩ := by decide +kernel
theorem crlf_str : Str.ofString "\r\n" = ⟨[13, 10].toArray⟩ := by decide +kernel
theorem cast_strs {a : List Value} {b c : List Str} (h : StrsAre a b) (e : b = c) : StrsAre a c := e ▸ h
def mailL (ds : List Int) : List Nat := ((List.range 8).map fun k => sentAt (dAt ds k) k (eAt ds k)).flatten
theorem dAt_lt (ds : List Int) (k : Nat) : dAt ds k < 4 := by
  have h0 : 0 ≤ (ds.getD k 0).fmod 4 := Int.fmod_nonneg_of_pos _ (by decide)
  have h1 : (ds.getD k 0).fmod 4 < 4 := Int.fmod_lt_of_pos _ (by decide)
  unfold dAt; omega
theorem eAt_lt (ds : List Int) (k : Nat) : eAt ds k < 3 := by
  have h0 : 0 ≤ ((ds.getD k 0).fdiv 4).fmod 3 := Int.fmod_nonneg_of_pos _ (by decide)
  have h1 : ((ds.getD k 0).fdiv 4).fmod 3 < 3 := Int.fmod_lt_of_pos _ (by decide)
  unfold eAt; omega
theorem sent_len {d k e : Nat} (hd : d < 4) (hk : k < 8) (he : e < 3) : (sentAt d k e).length ≤ 7 := by
  have h1 : ∀ k, k < 8 → (nameAt k).length ≤ 2 := by decide
  have h2 : ∀ e, e < 3 → (endAt e).length ≤ 2 := by decide
  have := h1 k hk; have := h2 e he
  unfold sentAt
  rw [List.length_append, List.length_append, List.length_replicate]; omega
theorem sum_le {α : Type} (f : α → Nat) (b : Nat) : ∀ l : List α, (∀ x ∈ l, f x ≤ b) → (l.map f).sum ≤ b * l.length
  | [], _ => Nat.le_refl _
  | x :: l, h => by
    have h1 := sum_le f b l fun y hy => h y (.tail _ hy)
    have h2 := h x (.head _)
    rw [List.map_cons, List.sum_cons, List.length_cons, Nat.mul_succ]; omega
theorem sents_sum (ds : List Int) : ((((List.range 8).map (sentS ds)).map (·.length)).sum) ≤ 56 := by
  rw [List.map_map]
  refine Nat.le_trans (sum_le _ 7 _ fun k hk => ?_) (by rw [List.length_range]; decide)
  show (sentAt (dAt ds k) k (eAt ds k)).toArray.size ≤ 7
  rw [List.size_toArray]
  exact sent_len (dAt_lt ds k) (List.mem_range.mp hk) (eAt_lt ds k)
theorem sents_flat (ds : List Int) : flat ((List.range 8).map (sentS ds)) = mailL ds := by
  unfold flat mailL
  rw [List.map_map]; rfl
theorem sub_strsA {prog : Program} {w : World} {A : Around} {E : Value → Shared → Prop} {s : Shared} {h₀ : Heap} {L : Addr} {news : List (Addr × Obj)} {value slice : Expr} {l : Addr} {its : List Value} {n : Nat} {ys : List Str} {k : Int} {u : Tok} {Q : Value → Shared → Prop} (N : News h₀ L s.heap news) (hm : (l, W.listOf its.toArray n) ∈ news) (hi : StrsAre its ys) (h0 : 0 ≤ k) (h1 : k < ys.length) (hb : k < 2 ^ 63) (h : ∀ t, Q (.str (ys.getD k.toNat ⟨#[]⟩) t) s)
    (hs : subscripted slice false (.ref l) (.int k u) = operate [.ref l, .int k u] (getItem (.ref l) (.int k u)) := by with_unfolding_all rfl) :
    wpAny (model prog w) A (subscriptTail value slice (.ref l) (.int k u)) Q E s := by
  have hl' : s.heap.IsList l its.toArray := ⟨_, (N _ hm).1, rfl, _, rfl⟩
  have hk : k.toNat < ys.length := by omega
  obtain ⟨t, ht⟩ := hi.at (j := k.toNat) (y := ys.getD k.toNat ⟨#[]⟩) (by rw [List.getD_eq_getElem?_getD, List.getElem?_eq_getElem hk]; rfl)
  exact tail_any hl'.typeIs slot_list_getitem.lookup (wpAny_getItem_list hl' h0 hb (by simpa using ht) (h t)) hs
theorem words_on_LA : True := by
  k_with_none
  (k_with "m cj" => with_reducible first | assumption | exact And.left (by assumption) | exact And.left (And.right (by assumption)) | exact And.right (by assumption) | exact And.left (And.right (And.right (by assumption))) | exact And.right (And.right (by assumption)) | exact And.left (And.right (And.right (And.right (by assumption)))) | exact And.right (And.right (And.right (by assumption))) | exact And.left (r4 (by assumption)) | exact r4 (by assumption) | exact And.left (r4 (And.right (by assumption))) | exact r4 (And.right (by assumption)) | exact And.left (r4 (And.right (And.right (by assumption)))) | exact r4 (And.right (And.right (by assumption))) | exact And.left (r4 (And.right (And.right (And.right (by assumption))))) | exact r4 (And.right (And.right (And.right (by assumption)))) | exact And.left (r4 (r4 (by assumption))) | exact r4 (r4 (by assumption)) | exact And.left (r4 (r4 (And.right (by assumption)))) | exact r4 (r4 (And.right (by assumption))) | exact And.left (r4 (r4 (And.right (And.right (by assumption))))) | exact r4 (r4 (And.right (And.right (by assumption)))) | exact And.left (r4 (r4 (And.right (And.right (And.right (by assumption)))))) | exact r4 (r4 (And.right (And.right (And.right (by assumption))))) | exact And.left (r4 (r4 (r4 (by assumption)))) | exact r4 (r4 (r4 (by assumption))) | exact And.left (r4 (r4 (r4 (And.right (by assumption))))) | exact r4 (r4 (r4 (And.right (by assumption)))) | exact And.left (r4 (r4 (r4 (And.right (And.right (by assumption)))))) | exact r4 (r4 (r4 (And.right (And.right (by assumption))))) | exact And.left (r4 (r4 (r4 (And.right (And.right (And.right (by assumption))))))) | exact r4 (r4 (r4 (And.right (And.right (And.right (by assumption)))))))
  (k_with "m le" => first | exact Nat.le_refl _ | (with_reducible refine le_s ?_; k_extra "m le") | (refine Nat.le_of_lt ?_; k_extra "m cj"))
  (k_with "m off" => first | (with_reducible refine ne_ss ?_; k_extra "m off") | (with_reducible refine ne_ls ?_; k_extra "m le") | (with_reducible refine ne_rs ?_; k_extra "m le"))
  (k_with "m enter" => (k_dflt (refine' enter (by assumption) (by assumption) (by exact Nat.le_of_ble_eq_true rfl) (by k_is) (by k_is) (by exact BindsTo.of_eq rfl) (by exact locs rfl) ?_ (by exact rfl) (by exact rfl) (by exact rfl) (by decide); k_whole; intro _ _ _ _; (try dsimp only); (try k_fold))))
  (k_with "m enterC" => (k_dflt (refine' enterC (by assumption) (by assumption) (by exact Nat.le_of_ble_eq_true rfl) (by k_is) (by k_is) (by exact BindsTo.of_eq rfl) (by exact rfl) (by decide +kernel) ?_ (by exact rfl) (by exact rfl) (by exact rfl); k_whole; intro _ _ _ _ _ _ Y'; k_cells Y'; (try dsimp only); (try k_fold))))
  (k_with "m ints" => first | assumption | (repeat' (first | exact IntsAre.nil | refine IntsAre.cons _ _ ?_)))
  (k_with "m len" => first | omega | (simp only [List.length_cons, List.length_nil, List.length_append, List.length_replicate, List.length_take, List.length_map, List.length_flatten, List.map_replicate, List.sum_replicate_nat, Int.toNat]; omega) | (simp; omega))
  (k_with "CompSrc" => refine Stop.out ?_)
  (k_with "CompEnd" => refine Stop.out ?_)
  (k_with "m range" => (refine Stop.mk ?_; k_dflt (refine LCg.CompSrc.range (by rfl) (by k_asm) (by k_asm) (by assumption) (by decide) (by rfl) (by size_fits) ?_); intro _))
  (k_with "m end" => (refine Stop.mk ?_; refine LCg.CompEnd.intro (by assumption) (by assumption) _ (by kcf_all) (by first | assumption | (simp only [LCg.Off3, and_true]; done) | (simp only [LCg.Off3, and_true]; assumption)) (by first | lcg_src | assumption) ⟨rfl, ?_⟩))
  (k_with "m base" => first | exact base_list (by k_asm) (by assumption) | exact News.isList (by k_asm) (by k_mem))
  (k_with "assign Tuple" => (k_here; (with_reducible show wpAny _ _ (assign (Expr.Tuple _ _ _) _ (Value.ref _)) _ _ _); k_dflt (refine' kun_list (by k_asm) (by k_asm) (by k_extra "m base") (by exact rfl) (by exact rfl) (by exact rfl) ?_; k_whole); intro _ _ _; (try k_sweep)))
  (k_with "subscriptTail Name Name ref int" => k_extra "m sub")
  (k_with "subscriptTail Name Subscript ref int" => k_extra "m sub")
  (k_with "subscriptTail Name Call ref int" => k_extra "m sub")
  (k_with "subscriptTail Attribute Name ref int" => k_extra "m sub")
  (k_with "m sub" => (k_here; (with_reducible show wpAny _ _ (subscriptTail _ _ (Value.ref _) (Value.int _ _)) _ _ _); first | ((with_reducible show wpAny _ _ (subscriptTail _ _ (Value.ref _) (Value.int (Nat.cast _) _)) _ _ _); first | (k_dflt (refine' sub_pairs (by k_asm) (by with_reducible assumption) (by omega) ?_; k_whole); intro _ _ _ _) | (k_dflt (refine' sub_intsN (by k_asm) (by k_mem) (by k_extra "m ints") (by k_extra "m len") (by k_extra "m len") ?_; k_whole); intro _) | (k_dflt (refine' sub_baseN (by k_asm) (by with_reducible assumption) (by k_extra "m ints") (by k_extra "m len") (by k_extra "m len") ?_; k_whole); intro _)) | (k_dflt (refine' sub_ints (by k_asm) (by k_mem) (by k_extra "m ints") (by omega) (by k_extra "m len") (by k_extra "m len") ?_; k_whole); intro _) | (k_dflt (refine' sub_base (by k_asm) (by with_reducible assumption) (by k_extra "m ints") (by omega) (by k_extra "m len") (by k_extra "m len") ?_; k_whole); intro _)))
  (k_with "call ref" => refine Stop.out ?_)
  (k_with "exec While Compare cons nil" => refine Stop.out ?_)
  (k_with "pyIter ref" => refine Stop.out ?_)
  (k_with "exec For Name Call cons nil" => (k_dflt (refine wpAny_For ?_); (try k_unmd); (try k_fold)))
  (k_with "exec For Tuple Subscript cons nil" => (k_dflt (refine wpAny_For ?_); (try k_unmd); (try k_fold)))
  (k_with "exec For Tuple Name cons nil" => (k_dflt (refine wpAny_For ?_); (try k_unmd); (try k_fold)))
  (k_with "binaryOp RShift int int" => (with_reducible refine rsh6 ?_))
  (k_with "binaryOp LShift int int" => (with_reducible refine lsh6 (by k_dflt omega) ?_))
  (k_with "m ret" => ((try k_unmd); (try k_unfold); refine' Ret.intro [_] (by k_asm) (by k_asm) (fun p hp => by rw [List.mem_singleton.mp hp]; exact List.mem_cons_self) ?_))
  (k_with "binaryOp Mult int int" => ((with_reducible refine mul_int ?_ (by k_dflt (first | exact IntMulOk.of_left (intBits_le_64 (by omega) (by omega)) | exact IntMulOk.of_right (intBits_le_64 (by omega) (by omega)))))))
  (k_with "call builtin:max" => ((with_reducible show wpAny _ _ (call (Value.builtin _) [Value.float _ _, Value.float _ _, Value.float _ _]) _ _ _); k_dflt (refine' float_max3 (by exact rfl) (by k_asm) (by k_asm) ?_; k_whole); intro _ _ _ _ _))
  (k_with "call builtin:min" => ((with_reducible show wpAny _ _ (call (Value.builtin _) [Value.float _ _, Value.float _ _, Value.float _ _]) _ _ _); k_dflt (refine' float_min3 (by exact rfl) (by k_asm) (by k_asm) ?_; k_whole); intro _ _ _ _ _))
  (k_with "call builtin:min" => ((with_reducible show wpAny _ _ (call (Value.builtin _) [Value.float _ _, Value.float _ _]) _ _ _); k_dflt (refine' float_min2 (by exact rfl) (by k_asm) (by k_asm) ?_; k_whole); intro _ _ _ _ _))
  (k_with "binaryOp Div float float" => ((with_reducible refine AutoFloatOps.truediv_1 (by k_dflt (first | assumption | decide | exact Nz.out (by assumption) (by assumption))) ?_); (try dsimp only [Made.post])))
  (k_with "binaryOp Mod float float" => ((with_reducible refine AutoFloatOps.mod_1 (by k_dflt (first | assumption | decide | exact Nz.out (by assumption) (by assumption))) ?_); (try dsimp only [Made.post])))
  (k_with "ite" => first | refine ite_t (by assumption) ?_ | refine ite_f (by assumption) ?_ | refine ite_t (Ng.out (by assumption) (by assumption)) ?_)
  (k_with "eval ListComp" => ((with_reducible refine' ListComp_if (by with_unfolding_all rfl) (by with_unfolding_all rfl) (by k_dflt decide) ?_ (by (intro _; with_unfolding_all rfl))); (try k_unmd); (try k_fold)))
  (k_with "exec Assign cons ListComp" => ((with_reducible refine' Assign_if (by with_unfolding_all rfl) (by with_unfolding_all rfl) (by with_unfolding_all rfl) (by k_dflt decide) ?_ (by (intro _; with_unfolding_all rfl))); (try k_unmd); (try k_fold)))
  (k_with "IfGo" => refine Stop.out ?_)
  (k_with "IfTurn" => refine Stop.out ?_)
  (k_with "IfDone" => refine Stop.out ?_)
  (k_with "ForEnd2" => refine Stop.out ?_)
  (k_with "call builtin:max" => ((with_reducible show wpAny _ _ (call (Value.builtin _) [Value.ref _]) _ _ _); k_dflt (refine' max_list_N (by exact rfl) (by k_asm) (by k_asm) (by k_extra "m base") (by k_extra "m ints") (by (first | assumption | omega | exact ne_dec (by assumption))) ?_; k_whole); intro _ _ _ _ _ _ _ _))
  (k_with "m ledger" => (refine Stop.mk ?_; k_dflt (refine LCg.CompSrc.ledger (by rfl) (by k_asm) (by k_asm) (by k_mem) (by size_fits) ?_); intro _))
  (k_with "getMethod ref" => ((with_reducible show wpAny _ _ (getMethod (Value.ref _) (Str.ofString "sub") _) _ _ _); refine Stop.out ?_))
  (k_with "m tl" => first | assumption | (refine' List.Mem.tail _ ?_; k_extra "m tl") | exact (by assumption : ∀ q : Addr × Obj, q ∈ (_ : List (Addr × Obj)) → q ∈ (_ : List (Addr × Obj))) _ (by assumption))
  (k_with "m inc" => first | exact List.forall_mem_nil _ | (refine' List.forall_mem_cons.mpr ⟨(by k_mem), (by k_extra "m inc")⟩) | (intro _ _; k_extra "m tl"))
  (k_with "subscriptTail Name Name ref int" => refine Stop.out ?_)
  (k_with "subscriptTail List BinOp ref int" => refine Stop.out ?_)
  trivial
local macro_rules | `(tactic| k_all) => `(tactic| assumption)
set_option maxRecDepth 100000 in
set_option maxHeartbeats 4000000 in
theorem seg_a {w : World} {p : Program} {loose : List Str} {mean : ExcName → Option Value} {mg mb : Str → Option Value} {fr : Option (List Env)} {gd : Option (List Code)} {s : Shared} {h₀ : Heap} {L : Addr} {m₀ : Str → Option Value} {Q : Flow → Shared → Prop} {E : Value → Shared → Prop}
  (X : (Mine.KK w.params).In h₀) (T : Top p loose mean mg mb h₀) {body : List Stmt} {scope : Scope} (hb : ((lawBody w.params).drop 0).take 3 = body) (hs : lawScope w.params = scope)
  (o1 o2 o3 o4 o5 o6 o7 o8 o9 o10 : Obj) (l : Addr) (vs : List Value) (script : List Int) (hl : h₀.IsList l vs.toArray) (hsi : IntsAre vs script) (hlen : script.length ≤ 63)
  (F : Fr h₀ L s.heap (fun y => if y = Str.ofString "script" then some (.ref l) else m₀ y)) (N : News h₀ L s.heap [(L + 1 + 1 + 1 + 1 + 1 + 1 + 1 + 1 + 1 + 1, o10), (L + 1 + 1 + 1 + 1 + 1 + 1 + 1 + 1 + 1, o9), (L + 1 + 1 + 1 + 1 + 1 + 1 + 1 + 1, o8), (L + 1 + 1 + 1 + 1 + 1 + 1 + 1, o7), (L + 1 + 1 + 1 + 1 + 1 + 1, o6), (L + 1 + 1 + 1 + 1 + 1, o5), (L + 1 + 1 + 1 + 1, o4), (L + 1 + 1 + 1, o3), (L + 1 + 1, o2), (L + 1, o1)])
  (e1 : o1.data = .cell none) (e2 : o2.data = .cell none)
  (next : ∀ h tk (m₁ : Str → Option Value) (o1' : Obj) (ld : Addr) (dn : Nat) (dv : List Value) (ds : List Int) (tm : Tok), Fr h₀ L h (fun y => if y = Str.ofString "mail" then some (.str ⟨(mailL ds).toArray⟩ tm) else m₁ y) → News h₀ L h ((ld, W.listOf dv.toArray dn) :: [(L + 1 + 1 + 1 + 1 + 1 + 1 + 1 + 1 + 1 + 1, o10), (L + 1 + 1 + 1 + 1 + 1 + 1 + 1 + 1 + 1, o9), (L + 1 + 1 + 1 + 1 + 1 + 1 + 1 + 1, o8), (L + 1 + 1 + 1 + 1 + 1 + 1 + 1, o7), (L + 1 + 1 + 1 + 1 + 1 + 1, o6), (L + 1 + 1 + 1 + 1 + 1, o5), (L + 1 + 1 + 1 + 1, o4), (L + 1 + 1 + 1, o3), (L + 1, o1')]) →
    o1'.data = .cell (some (.ref ld)) → IntsAre dv ds → ds.length = 9 → (∀ d ∈ ds, 0 ≤ d ∧ d < 60) → OffC L ld → Q .next { s with heap := h, toks := tk }) :
  wpAny (model PySem.Challenge.rw_tl0015_01.row.prog w) ((Ac 0 fr gd).deeper (lawEnv scope L)) (execs body (lawEnv scope L)) Q E s := by
  (conv at hb => lhs; whnf)
  (conv at hs => lhs; whnf)
  subst hb
  subst hs
  revert X; k_fill; intro X
  (try k_unmd); (try k_fold)
  k_steps
  refine Stop.mk (call_by (by k_asm) (by k_asm) (draws_c l vs script (X.keeps (Fr.keep (by k_asm))) (T.keeps (Fr.keep (by k_asm))) (hl.at fun o e => F.keep _ _ e) hsi hlen) ?_)
  rintro v own h1 tk1 ⟨ld, dn, dv, ds, rfl, rfl, hdv, hdl, hdb⟩ F1 N1 hk1 hf1
  have hne := news_ne N (hf1 _ (.head _))
  simp only [List.forall_mem_cons, List.not_mem_nil, false_imp_iff, implies_true, and_true] at hne
  dsimp only [List.cons_append, List.nil_append] at N1
  (try k_unmd); (try k_fold)
  k_steps
  k_extra "m range"
  refine comp_range0 (n := 8) (fun i ys => StrsAre ys ((List.range i).map (sentS ds))) .nil ?_ ?_
  · intro i ys t I oI C oC D m₂ h tk E' hi hj hC hx F N off ne
    dsimp only [LCg.Off3] at off
    have hdi : 0 ≤ ds.getD i 0 ∧ ds.getD i 0 < 60 := hdb _ (by rw [List.getD_eq_getElem?_getD, List.getElem?_eq_getElem (by omega)]; exact List.getElem_mem _)
    (try k_unmd); (try k_fold)
    k_steps
    refine Stop.mk ?_
    k_extra "m sub"
    k_steps
    refine Stop.mk ?_
    refine sub_strsA (its := [_, _, _, _, _, _, _, _]) (ys := [_, _, _, _, _, _, _, _]) (by k_asm) (by k_mem) (.cons _ _ (.cons _ _ (.cons _ _ (.cons _ _ (.cons _ _ (.cons _ _ (.cons _ _ (.cons _ _ .nil)))))))) (by omega) (by simp only [List.length_cons, List.length_nil]; omega) (by omega) ?_
    intro tn
    have hf0 : 0 ≤ (ds.getD i 0).fmod 4 := Int.fmod_nonneg_of_pos _ (by decide)
    have hf1 : (ds.getD i 0).fmod 4 < 4 := Int.fmod_lt_of_pos _ (by decide)
    have he0 : 0 ≤ ((ds.getD i 0).fdiv 4).fmod 3 := Int.fmod_nonneg_of_pos _ (by decide)
    have he1 : ((ds.getD i 0).fdiv 4).fmod 3 < 3 := Int.fmod_lt_of_pos _ (by decide)
    rename 0 ≤ (ds.getD i 0).fmod 4 → _ => hml
    have hml' := hml hf0
    rw [name_at i hi]
    refine KXadd.add (K := 3) (L := 2) (by omega) (name_len i hi) (by decide) ?_
    intro t5 k5 hl5
    have hnl := name_len i hi
    (try k_unmd); (try k_fold)
    k_steps
    refine Stop.mk ?_
    k_extra "m sub"
    k_steps
    all_goals
      k_extra "m end"
      rw [List.range_succ, List.map_append, List.map_singleton]
      refine cast_strs (strs_push hj _ _) ?_
      rename Int.fmod _ 3 = _ => hec
      congr 2
      unfold sentS sentAt dAt eAt
      rw [hec, mul_dots hf0 hf1, glue]
      first | rw [lf_str] | rw [crlf_str] | rw [cr_str]
      rw [glue]; rfl
  intro ys hj
  unfold LCg.FinE
  intro lm h2 tk2 F2 N2 of1
  dsimp only [LCg.Off1] at of1
  (try k_unmd); (try k_fold)
  k_steps
  have hnil : Str.ofString "" = ⟨#[]⟩ := by decide +kernel
  rw [hnil]
  refine join_listC (items := ys.toArray) ⟨_, (N2 (lm, LCg.lst ys) (.head _)).1, rfl, _, rfl⟩ hj (by decide) (by have := sents_sum ds; rw [List.length_map, List.length_range]; omega) ?_
  intro tm km
  rw [str_of_list (join_empty _), sents_flat]
  (try k_unmd); (try k_fold)
  k_steps
  refine wpAny_execs_nil ?_
  (try k_unmd); (try k_unfold)
  rename Fr _ _ _ _ => F8
  rename News _ _ _ _ => N8
  rename Obj.data _ = Data.cell (some (Value.ref ld)) => dd1
  refine next _ _ _ _ ld dn dv ds _ F8 (sub_news N8 ?_) dd1 hdv hdl hdb ⟨hne.2.2.2.2.2.2.2.2.2.symm, trivial, hne.2.2.2.2.2.2.2.1.symm, hne.2.2.2.2.2.2.1.symm, hne.2.2.2.2.2.1.symm, hne.2.2.2.2.1.symm, hne.2.2.2.1.symm, hne.2.2.1.symm, hne.2.1.symm, hne.1.symm⟩
  k_extra "m inc"
end
end
section
open PySem PySem.W PyProof.Rows PySem.Spec PySem.Calls
section
theorem nls_len : ∀ (l : List Nat) (b : Bool), (nls b l).length ≤ 2 * l.length := by
  intro l
  induction l with
  | nil => intro b; simp [nls]
  | cons c r ih =>
    intro b
    rw [nls]
    have h1 := ih true; have h2 := ih false
    split
    · simp only [List.length_cons]; omega
    · split
      · split
        · simp only [List.length_cons]; omega
        · simp only [List.length_cons]; omega
      · simp only [List.length_cons]; omega
theorem mail_len (ds : List Int) : (mailL ds).length ≤ 56 := by
  rw [← sents_flat, ← flat_len]; exact sents_sum ds
def rowL (ds : List Int) (k : Nat) : List Nat := (rowAt (dAt ds k) k).cps.toList
def heardL (ds : List Int) : List Nat := (((List.range 8).map (rowL ds)).map (· ++ [13, 10])).flatten
theorem heard_eq (ds : List Int) : dots true (nls false (mailL ds)) = heardL ds := by
  have := sent_all (dAt ds) (eAt ds) (dAt_lt ds) (eAt_lt ds) (List.range 8) (fun k hk => List.mem_range.mp hk)
  unfold mailL heardL
  rw [this, List.map_map]; rfl
theorem row_plain : ∀ d, d < 4 → ∀ k, k < 8 → 13 ∉ (rowAt d k).cps.toList ∧ (rowAt d k).length ≤ 6 := by decide +kernel
def rowsS (ds : List Int) : List Str := (List.range 8).map fun k => rowAt (dAt ds k) k
theorem heard_split (ds : List Int) : Txt.split ⟨(heardL ds).toArray⟩ crlf = rowsS ds ++ [⟨#[]⟩] := by
  rw [split_rows (x := ⟨(heardL ds).toArray⟩) (rows := (List.range 8).map (rowL ds)) (by intro e; have := congrArg List.length e; simp at this) ?_ rfl]
  · rw [List.map_map]; rfl
  · intro r hr
    obtain ⟨k, hk, rfl⟩ := List.mem_map.mp hr
    exact (row_plain _ (dAt_lt ds k) k (List.mem_range.mp hk)).1
theorem heard_len (ds : List Int) : (heardL ds).length ≤ 64 := by
  unfold heardL
  rw [List.map_map, List.length_flatten, List.map_map]
  refine Nat.le_trans (sum_le _ 8 _ fun k hk => ?_) (by rw [List.length_range]; decide)
  have := (row_plain _ (dAt_lt ds k) k (List.mem_range.mp hk)).2
  show (rowL ds k ++ [13, 10]).length ≤ 8
  rw [List.length_append]
  have e : (rowL ds k).length = (rowAt (dAt ds k) k).length := Array.length_toList
  simp only [List.length_cons, List.length_nil]; omega
theorem sb_to8 {n : Nat} (h : 8 ≤ n) : sliceBounds none (some 8) none n = (((0 : Nat) : Int), ((8 : Nat) : Int), 1) := by
  show ((0 : Int), (max 0 (min 8 (n : Int))), (1 : Int)) = _
  rw [Int.min_eq_left (by omega)]; rfl
theorem sb_from8 {n : Nat} (h : 8 ≤ n) : sliceBounds (some 8) none none n = (((8 : Nat) : Int), (n : Int), 1) := by
  show ((max 0 (min 8 (n : Int))), (n : Int), (1 : Int)) = _
  rw [Int.min_eq_left (by omega)]; rfl
def tupR (r : Int) (u : Tok) (le : Addr) (n : Nat) : Obj := { cls := .type "tuple", data := .seq #[.int r u, .ref le] n }
def RoadsIn (tl : List (Addr × Obj)) (ds : List Int) (i : Nat) (ys : List Value) : Prop :=
  ys.length = i ∧ ∀ k, k < i → ∃ (q le : Addr) (n1 n2 : Nat) (u : Tok) (vals : List Value), ys[k]? = some (Value.ref q) ∧ (q, tupR (roomAt (dAt ds k)) u le n1) ∈ tl ∧ (le, W.listOf vals.toArray n2) ∈ tl ∧ IntsAre vals [PA k, PB k]
theorem RoadsIn.more {tl : List (Addr × Obj)} {ds : List Int} {i : Nat} {ys : List Value} {q le : Addr} {n1 n2 : Nat} {u : Tok} {vals : List Value} (h : RoadsIn tl ds i ys) (hv : IntsAre vals [PA i, PB i]) :
    RoadsIn ((q, tupR (roomAt (dAt ds i)) u le n1) :: (le, W.listOf vals.toArray n2) :: tl) ds (i + 1) (ys ++ [.ref q]) := by
  refine ⟨by rw [List.length_append, h.1, List.length_singleton], fun k hk => ?_⟩
  by_cases e : k = i
  · subst e
    exact ⟨q, le, n1, n2, u, vals, by rw [List.getElem?_append_right (by rw [h.1]; exact Nat.le_refl _), h.1, Nat.sub_self]; rfl, .head _, .tail _ (.head _), hv⟩
  · obtain ⟨q', le', m1, m2, u', vals', h1, h2, h3, h4⟩ := h.2 k (by omega)
    exact ⟨q', le', m1, m2, u', vals', by rw [List.getElem?_append_left (by rw [h.1]; omega)]; exact h1, .tail _ (.tail _ h2), .tail _ (.tail _ h3), h4⟩
theorem strs_split : ∀ {vs : List Value} {a b : List Str}, StrsAre vs (a ++ b) → StrsAre (vs.take a.length) a ∧ StrsAre (vs.drop a.length) b
  | vs, [], b, h => ⟨.nil, h⟩
  | _, y :: a, b, .cons _ t h => by
    have ih := strs_split h
    exact ⟨.cons y t ih.1, ih.2⟩
section
variable {prog : Program} {w : World} {A : Around} {E : Value → Shared → Prop} {s : Shared} {h₀ : Heap} {L : Addr} {m : Str → Option Value} {news : List (Addr × Obj)} {value slice : Expr} {l : Addr} {hv : List Value} {n : Nat} {ys zs : List Str} {t8 : Tok} {Q : Value → Shared → Prop}
theorem slice_to8 (F : Fr h₀ L s.heap m) (N : News h₀ L s.heap news) (hm : (l, W.listOf hv.toArray n) ∈ news) (hi : StrsAre hv (ys ++ zs)) (hy : ys.length = 8)
    (h : ∀ D ws h', Fr h₀ L h' m → News h₀ L h' ((D, W.listOf (List.toArray ws) 0) :: news) → (∀ p ∈ news, p.1 < D) → StrsAre ws ys → Q (.ref D) { s with heap := h' })
    (hs : subscripted slice false (.ref l) (.ref s.heap.objs.size) = operate [.ref s.heap.objs.size, .ref l] (getItem (.ref l) (.ref s.heap.objs.size))) (ht : ∀ r, letTemporaryGo value (.ref l) r = pure ()) (hz : hv.length ≤ 9 := by assumption) :
    wpAny (model prog w) A (subscriptTail value slice (.ref l) (.ref s.heap.objs.size)) Q E { s with heap := s.heap.push { cls := .type "slice", data := .fields #[.none, .int 8 t8, .none] } } := by
  have hl : s.heap.IsList l hv.toArray := ⟨_, (N _ hm).1, rfl, n, rfl⟩
  have hlen := hi.len_eq
  rw [List.length_append, hy] at hlen
  refine kmk_slice F N hl (lo := none) (hi := some 8) .none (.int _ _) (fun D h' F' N' l1 => ?_) hs ht (by rw [List.size_toArray, sizeLine_eq]; omega)
  have e : slicePick hv.toArray none (some 8) none = (hv.take 8).toArray := by
    rw [kmk_pick_nat hv.toArray (a := 0) (b := 8) (by rw [List.size_toArray]; exact sb_to8 (by omega))]
    simp
  rw [e] at N'
  have hsp := (strs_split hi).1
  rw [hy] at hsp
  exact h D _ h' F' N' l1 hsp
theorem slice_from8 (F : Fr h₀ L s.heap m) (N : News h₀ L s.heap news) (hm : (l, W.listOf hv.toArray n) ∈ news) (hi : StrsAre hv (ys ++ zs)) (hy : ys.length = 8)
    (h : ∀ D ws h', Fr h₀ L h' m → News h₀ L h' ((D, W.listOf (List.toArray ws) 0) :: news) → (∀ p ∈ news, p.1 < D) → StrsAre ws zs → Q (.ref D) { s with heap := h' })
    (hs : subscripted slice false (.ref l) (.ref s.heap.objs.size) = operate [.ref s.heap.objs.size, .ref l] (getItem (.ref l) (.ref s.heap.objs.size))) (ht : ∀ r, letTemporaryGo value (.ref l) r = pure ()) (hz : hv.length ≤ 9 := by assumption) :
    wpAny (model prog w) A (subscriptTail value slice (.ref l) (.ref s.heap.objs.size)) Q E { s with heap := s.heap.push { cls := .type "slice", data := .fields #[.int 8 t8, .none, .none] } } := by
  have hl : s.heap.IsList l hv.toArray := ⟨_, (N _ hm).1, rfl, n, rfl⟩
  have hlen := hi.len_eq
  rw [List.length_append, hy] at hlen
  refine kmk_slice F N hl (lo := some 8) (hi := none) (.int _ _) .none (fun D h' F' N' l1 => ?_) hs ht (by rw [List.size_toArray, sizeLine_eq]; omega)
  have e : slicePick hv.toArray (some 8) none none = (hv.drop 8).toArray := by
    rw [kmk_pick_nat hv.toArray (a := 8) (b := hv.length) (by rw [List.size_toArray]; exact sb_from8 (by omega))]
    simp
    exact List.take_of_length_le (by rw [List.length_drop]; exact Nat.le_refl _)
  rw [e] at N'
  have hsp := (strs_split hi).2
  rw [hy] at hsp
  exact h D _ h' F' N' l1 hsp
end
theorem words_on_LA2 : True := by
  k_with_none
  (k_with "m cj" => with_reducible first | assumption | exact And.left (by assumption) | exact And.left (And.right (by assumption)) | exact And.right (by assumption) | exact And.left (And.right (And.right (by assumption))) | exact And.right (And.right (by assumption)) | exact And.left (And.right (And.right (And.right (by assumption)))) | exact And.right (And.right (And.right (by assumption))) | exact And.left (r4 (by assumption)) | exact r4 (by assumption) | exact And.left (r4 (And.right (by assumption))) | exact r4 (And.right (by assumption)) | exact And.left (r4 (And.right (And.right (by assumption)))) | exact r4 (And.right (And.right (by assumption))) | exact And.left (r4 (And.right (And.right (And.right (by assumption))))) | exact r4 (And.right (And.right (And.right (by assumption)))) | exact And.left (r4 (r4 (by assumption))) | exact r4 (r4 (by assumption)) | exact And.left (r4 (r4 (And.right (by assumption)))) | exact r4 (r4 (And.right (by assumption))) | exact And.left (r4 (r4 (And.right (And.right (by assumption))))) | exact r4 (r4 (And.right (And.right (by assumption)))) | exact And.left (r4 (r4 (And.right (And.right (And.right (by assumption)))))) | exact r4 (r4 (And.right (And.right (And.right (by assumption))))) | exact And.left (r4 (r4 (r4 (by assumption)))) | exact r4 (r4 (r4 (by assumption))) | exact And.left (r4 (r4 (r4 (And.right (by assumption))))) | exact r4 (r4 (r4 (And.right (by assumption)))) | exact And.left (r4 (r4 (r4 (And.right (And.right (by assumption)))))) | exact r4 (r4 (r4 (And.right (And.right (by assumption))))) | exact And.left (r4 (r4 (r4 (And.right (And.right (And.right (by assumption))))))) | exact r4 (r4 (r4 (And.right (And.right (And.right (by assumption)))))))
  (k_with "m le" => first | exact Nat.le_refl _ | (with_reducible refine le_s ?_; k_extra "m le") | (refine Nat.le_of_lt ?_; k_extra "m cj"))
  (k_with "m off" => first | (with_reducible refine ne_ss ?_; k_extra "m off") | (with_reducible refine ne_ls ?_; k_extra "m le") | (with_reducible refine ne_rs ?_; k_extra "m le"))
  (k_with "m enter" => (k_dflt (refine' enter (by assumption) (by assumption) (by exact Nat.le_of_ble_eq_true rfl) (by k_is) (by k_is) (by exact BindsTo.of_eq rfl) (by exact locs rfl) ?_ (by exact rfl) (by exact rfl) (by exact rfl) (by decide); k_whole; intro _ _ _ _; (try dsimp only); (try k_fold))))
  (k_with "m enterC" => (k_dflt (refine' enterC (by assumption) (by assumption) (by exact Nat.le_of_ble_eq_true rfl) (by k_is) (by k_is) (by exact BindsTo.of_eq rfl) (by exact rfl) (by decide +kernel) ?_ (by exact rfl) (by exact rfl) (by exact rfl); k_whole; intro _ _ _ _ _ _ Y'; k_cells Y'; (try dsimp only); (try k_fold))))
  (k_with "m ints" => first | assumption | (repeat' (first | exact IntsAre.nil | refine IntsAre.cons _ _ ?_)))
  (k_with "m len" => first | omega | (simp only [List.length_cons, List.length_nil, List.length_append, List.length_replicate, List.length_take, List.length_map, List.length_flatten, List.map_replicate, List.sum_replicate_nat, Int.toNat]; omega) | (simp; omega))
  (k_with "CompSrc" => refine Stop.out ?_)
  (k_with "CompEnd" => refine Stop.out ?_)
  (k_with "m range" => (refine Stop.mk ?_; k_dflt (refine LCg.CompSrc.range (by rfl) (by k_asm) (by k_asm) (by assumption) (by decide) (by rfl) (by size_fits) ?_); intro _))
  (k_with "m end" => (refine Stop.mk ?_; refine LCg.CompEnd.intro (by assumption) (by assumption) _ (by kcf_all) (by first | assumption | (simp only [LCg.Off3, and_true]; done) | (simp only [LCg.Off3, and_true]; assumption)) (by first | lcg_src | assumption) ⟨rfl, ?_⟩))
  (k_with "m base" => first | exact base_list (by k_asm) (by assumption) | exact News.isList (by k_asm) (by k_mem))
  (k_with "assign Tuple" => (k_here; (with_reducible show wpAny _ _ (assign (Expr.Tuple _ _ _) _ (Value.ref _)) _ _ _); k_dflt (refine' kun_list (by k_asm) (by k_asm) (by k_extra "m base") (by exact rfl) (by exact rfl) (by exact rfl) ?_; k_whole); intro _ _ _; (try k_sweep)))
  (k_with "subscriptTail Name Name ref int" => k_extra "m sub")
  (k_with "subscriptTail Name Subscript ref int" => k_extra "m sub")
  (k_with "subscriptTail Name Call ref int" => k_extra "m sub")
  (k_with "subscriptTail Attribute Name ref int" => k_extra "m sub")
  (k_with "m sub" => (k_here; (with_reducible show wpAny _ _ (subscriptTail _ _ (Value.ref _) (Value.int _ _)) _ _ _); first | ((with_reducible show wpAny _ _ (subscriptTail _ _ (Value.ref _) (Value.int (Nat.cast _) _)) _ _ _); first | (k_dflt (refine' sub_pairs (by k_asm) (by with_reducible assumption) (by omega) ?_; k_whole); intro _ _ _ _) | (k_dflt (refine' sub_intsN (by k_asm) (by k_mem) (by k_extra "m ints") (by k_extra "m len") (by k_extra "m len") ?_; k_whole); intro _) | (k_dflt (refine' sub_baseN (by k_asm) (by with_reducible assumption) (by k_extra "m ints") (by k_extra "m len") (by k_extra "m len") ?_; k_whole); intro _)) | (k_dflt (refine' sub_ints (by k_asm) (by k_mem) (by k_extra "m ints") (by omega) (by k_extra "m len") (by k_extra "m len") ?_; k_whole); intro _) | (k_dflt (refine' sub_base (by k_asm) (by with_reducible assumption) (by k_extra "m ints") (by omega) (by k_extra "m len") (by k_extra "m len") ?_; k_whole); intro _)))
  (k_with "call ref" => refine Stop.out ?_)
  (k_with "exec While Compare cons nil" => refine Stop.out ?_)
  (k_with "pyIter ref" => refine Stop.out ?_)
  (k_with "exec For Name Call cons nil" => (k_dflt (refine wpAny_For ?_); (try k_unmd); (try k_fold)))
  (k_with "exec For Tuple Subscript cons nil" => (k_dflt (refine wpAny_For ?_); (try k_unmd); (try k_fold)))
  (k_with "exec For Tuple Name cons nil" => (k_dflt (refine wpAny_For ?_); (try k_unmd); (try k_fold)))
  (k_with "binaryOp RShift int int" => (with_reducible refine rsh6 ?_))
  (k_with "binaryOp LShift int int" => (with_reducible refine lsh6 (by k_dflt omega) ?_))
  (k_with "m ret" => ((try k_unmd); (try k_unfold); refine' Ret.intro [_] (by k_asm) (by k_asm) (fun p hp => by rw [List.mem_singleton.mp hp]; exact List.mem_cons_self) ?_))
  (k_with "binaryOp Mult int int" => ((with_reducible refine mul_int ?_ (by k_dflt (first | exact IntMulOk.of_left (intBits_le_64 (by omega) (by omega)) | exact IntMulOk.of_right (intBits_le_64 (by omega) (by omega)))))))
  (k_with "call builtin:max" => ((with_reducible show wpAny _ _ (call (Value.builtin _) [Value.float _ _, Value.float _ _, Value.float _ _]) _ _ _); k_dflt (refine' float_max3 (by exact rfl) (by k_asm) (by k_asm) ?_; k_whole); intro _ _ _ _ _))
  (k_with "call builtin:min" => ((with_reducible show wpAny _ _ (call (Value.builtin _) [Value.float _ _, Value.float _ _, Value.float _ _]) _ _ _); k_dflt (refine' float_min3 (by exact rfl) (by k_asm) (by k_asm) ?_; k_whole); intro _ _ _ _ _))
  (k_with "call builtin:min" => ((with_reducible show wpAny _ _ (call (Value.builtin _) [Value.float _ _, Value.float _ _]) _ _ _); k_dflt (refine' float_min2 (by exact rfl) (by k_asm) (by k_asm) ?_; k_whole); intro _ _ _ _ _))
  (k_with "binaryOp Div float float" => ((with_reducible refine AutoFloatOps.truediv_1 (by k_dflt (first | assumption | decide | exact Nz.out (by assumption) (by assumption))) ?_); (try dsimp only [Made.post])))
  (k_with "binaryOp Mod float float" => ((with_reducible refine AutoFloatOps.mod_1 (by k_dflt (first | assumption | decide | exact Nz.out (by assumption) (by assumption))) ?_); (try dsimp only [Made.post])))
  (k_with "ite" => first | refine ite_t (by assumption) ?_ | refine ite_f (by assumption) ?_ | refine ite_t (Ng.out (by assumption) (by assumption)) ?_)
  (k_with "eval ListComp" => ((with_reducible refine' ListComp_if (by with_unfolding_all rfl) (by with_unfolding_all rfl) (by k_dflt decide) ?_ (by (intro _; with_unfolding_all rfl))); (try k_unmd); (try k_fold)))
  (k_with "exec Assign cons ListComp" => ((with_reducible refine' Assign_if (by with_unfolding_all rfl) (by with_unfolding_all rfl) (by with_unfolding_all rfl) (by k_dflt decide) ?_ (by (intro _; with_unfolding_all rfl))); (try k_unmd); (try k_fold)))
  (k_with "IfGo" => refine Stop.out ?_)
  (k_with "IfTurn" => refine Stop.out ?_)
  (k_with "IfDone" => refine Stop.out ?_)
  (k_with "ForEnd2" => refine Stop.out ?_)
  (k_with "call builtin:max" => ((with_reducible show wpAny _ _ (call (Value.builtin _) [Value.ref _]) _ _ _); k_dflt (refine' max_list_N (by exact rfl) (by k_asm) (by k_asm) (by k_extra "m base") (by k_extra "m ints") (by (first | assumption | omega | exact ne_dec (by assumption))) ?_; k_whole); intro _ _ _ _ _ _ _ _))
  (k_with "m ledger" => (refine Stop.mk ?_; k_dflt (refine LCg.CompSrc.ledger (by rfl) (by k_asm) (by k_asm) (by k_mem) (by size_fits) ?_); intro _))
  (k_with "getMethod ref" => ((with_reducible show wpAny _ _ (getMethod (Value.ref _) (Str.ofString "sub") _) _ _ _); refine Stop.out ?_))
  (k_with "m tl" => first | assumption | (refine' List.Mem.tail _ ?_; k_extra "m tl") | exact (by assumption : ∀ q : Addr × Obj, q ∈ (_ : List (Addr × Obj)) → q ∈ (_ : List (Addr × Obj))) _ (by assumption))
  (k_with "m inc" => first | exact List.forall_mem_nil _ | (refine' List.forall_mem_cons.mpr ⟨(by k_mem), (by k_extra "m inc")⟩) | (intro _ _; k_extra "m tl"))
  trivial
local macro_rules | `(tactic| k_all) => `(tactic| assumption)
local macro_rules | `(tactic| walk_at "subscriptTail Name Slice ref ref") => `(tactic| (k_here; k_dflt (refine' slice_to8 ?F ?N ?m ?i ?y ?_ ?s ?t; (case F => k_asm); (case N => k_asm); (case m => k_mem); (case i => with_reducible assumption); (case y => with_reducible assumption); (case s => with_unfolding_all rfl); (case t => (intro _; with_unfolding_all rfl))); intro D' ws' h' F' N' l1 hs'; (try k_lt l1)))
set_option maxRecDepth 100000 in
set_option maxHeartbeats 4000000 in
theorem seg_a2 {w : World} {p : Program} {loose : List Str} {mean : ExcName → Option Value} {mg mb : Str → Option Value} {fr : Option (List Env)} {gd : Option (List Code)} {s : Shared} {h₀ : Heap} {L : Addr} {m₀ : Str → Option Value} {Q : Flow → Shared → Prop} {E : Value → Shared → Prop}
  (X : (Mine.KK w.params).In h₀) (T : Top p loose mean mg mb h₀) {body : List Stmt} {scope : Scope} (hb : ((lawBody w.params).drop 3).take 2 = body) (hs : lawScope w.params = scope)
  (o1 o3 o4 o5 o6 o7 o8 o9 o10 : Obj) (ld : Addr) (dn : Nat) (dv : List Value) (ds : List Int) (tm : Tok)
  (F : Fr h₀ L s.heap (fun y => if y = Str.ofString "mail" then some (.str ⟨(mailL ds).toArray⟩ tm) else m₀ y)) (N : News h₀ L s.heap ((ld, W.listOf dv.toArray dn) :: (L + 1 + 1 + 1 + 1 + 1 + 1 + 1 + 1 + 1 + 1, o10) :: (L + 1 + 1 + 1 + 1 + 1 + 1 + 1 + 1 + 1, o9) :: (L + 1 + 1 + 1 + 1 + 1 + 1 + 1 + 1, o8) :: (L + 1 + 1 + 1 + 1 + 1 + 1 + 1, o7) :: (L + 1 + 1 + 1 + 1 + 1 + 1, o6) :: (L + 1 + 1 + 1 + 1 + 1, o5) :: (L + 1 + 1 + 1 + 1, o4) :: (L + 1 + 1 + 1, o3) :: (L + 1, o1) :: []))
  (next : ∀ h tk (m₁ : Str → Option Value) (lh : Addr) (hv : List Value) (lr0 : Addr) (rv : List Value) (tl : List (Addr × Obj)), Fr h₀ L h (fun y => if y = Str.ofString "roads" then some (.ref lr0) else if y = Str.ofString "heard" then some (.ref lh) else m₁ y) →
    News h₀ L h ((lr0, LCg.lst rv) :: (lh, W.listOf hv.toArray 0) :: (ld, W.listOf dv.toArray dn) :: (L + 1 + 1 + 1 + 1 + 1 + 1 + 1 + 1 + 1 + 1, o10) :: (L + 1 + 1 + 1 + 1 + 1 + 1 + 1 + 1 + 1, o9) :: (L + 1 + 1 + 1 + 1 + 1 + 1 + 1 + 1, o8) :: (L + 1 + 1 + 1 + 1 + 1 + 1 + 1, o7) :: (L + 1 + 1 + 1 + 1 + 1 + 1, o6) :: (L + 1 + 1 + 1 + 1 + 1, o5) :: (L + 1 + 1 + 1 + 1, o4) :: (L + 1 + 1 + 1, o3) :: (L + 1, o1) :: tl) → StrsAre hv (rowsS ds ++ [⟨#[]⟩]) → OffC L lr0 → OffC L lh → (∀ p ∈ tl, OffC L p.1) → RoadsIn tl ds 8 rv → Q .next { s with heap := h, toks := tk }) :
  wpAny (model PySem.Challenge.rw_tl0015_01.row.prog w) ((Ac 0 fr gd).deeper (lawEnv scope L)) (execs body (lawEnv scope L)) Q E s := by
  (conv at hb => lhs; whnf)
  (conv at hs => lhs; whnf)
  subst hb
  subst hs
  revert X; k_fill; intro X
  (try k_unmd); (try k_fold)
  k_steps
  have hml := mail_len ds
  refine Stop.mk (call_by (by k_asm) (by k_asm) (quote_c (X.keeps (Fr.keep (by k_asm))) (T.keeps (Fr.keep (by k_asm))) ⟨(mailL ds).toArray⟩ _ (by show (mailL ds).toArray.size ≤ 10000; rw [List.size_toArray]; omega) (by have := nls_len (mailL ds) false; show (nls false (mailL ds)).length ≤ 20000; omega)) ?_)
  rintro v own h1 tk1 ⟨rfl, t1, rfl⟩ F1 N1 hk1 hf1
  have hve : (⟨(dots true (nls false (⟨(mailL ds).toArray⟩ : Str).cps.toList)).toArray⟩ : Str) = ⟨(heardL ds).toArray⟩ := by
    show (⟨(dots true (nls false (mailL ds))).toArray⟩ : Str) = _
    rw [heard_eq]
  rw [hve]
  simp only [List.nil_append] at N1
  (try k_unmd); (try k_fold)
  k_steps
  refine KSpl.split1 (by k_asm) (by k_asm) (by decide +kernel) ?_ (by show (heardL ds).toArray.size + 2 ≤ sizeLine; rw [List.size_toArray, sizeLine_eq]; have := heard_len ds; omega)
  intro lh hl h2 k2 e2 a2 F2 N2 l2
  (try k_lt l2)
  have e3 : List.map (fun x => x.1) hl = rowsS ds ++ [⟨#[]⟩] := e2.trans (heard_split ds)
  rw [e3] at a2
  clear e2 e3
  generalize strValues hl = hv at *
  have hyl : (rowsS ds).length = 8 := by unfold rowsS; rw [List.length_map, List.length_range]
  have hvl : hv.length ≤ 9 := by rw [a2.len_eq, List.length_append, hyl]; decide
  (try k_unmd); (try k_fold)
  k_steps
  rename_i qkA ekA hA FA NA lw ws hB FB NB hws lws
  have hwl : ws.length = 8 := by rw [hws.len_eq]; exact hyl
  k_extra "m ledger"
  refine comp_inv (n := ws.toArray.size) (fun i ys nw => ∃ tl, nw = ((lw, W.listOf ws.toArray 0) :: (lh, W.listOf hv.toArray 0) :: (ld, W.listOf dv.toArray dn) :: (L + 1 + 1 + 1 + 1 + 1 + 1 + 1 + 1 + 1 + 1, o10) :: (L + 1 + 1 + 1 + 1 + 1 + 1 + 1 + 1 + 1, o9) :: (L + 1 + 1 + 1 + 1 + 1 + 1 + 1 + 1, o8) :: (L + 1 + 1 + 1 + 1 + 1 + 1 + 1, o7) :: (L + 1 + 1 + 1 + 1 + 1 + 1, o6) :: (L + 1 + 1 + 1 + 1 + 1, o5) :: (L + 1 + 1 + 1 + 1, o4) :: (L + 1 + 1 + 1, o3) :: (L + 1, o1) :: tl) ∧ (∀ p ∈ tl, OffC L p.1) ∧ RoadsIn tl ds i ys) ⟨[], rfl, (fun _ h => nomatch h), rfl, fun k hk => absurd hk (Nat.not_lt_zero _)⟩ ?_ ?_
  · rintro i ys nw v I oI C oC D m₂ h tk E' hi ⟨tl, rfl, hz, hg⟩ hv' hC hx F N off ne
    have hi8 : i < 8 := by rw [List.size_toArray, hwl] at hi; exact hi
    obtain ⟨y, t, rfl, hy⟩ := hws.item i v (by simpa using hv')
    have hye : y = rowAt (dAt ds i) i := by
      unfold rowsS at hy
      rw [List.getElem?_map, List.getElem?_range hi8] at hy
      exact (Option.some.inj hy).symm
    subst hye
    have hok := rows_ok (dAt ds i) (dAt_lt ds i) i hi8
    have hlen6 := (row_plain (dAt ds i) (dAt_lt ds i) i hi8).2
    (try k_unmd); (try k_fold)
    k_steps
    refine Stop.mk (call_by (by k_asm) (by k_asm) (road_c (X.keeps (Fr.keep (by k_asm))) (T.keeps (Fr.keep (by k_asm))) (rowAt (dAt ds i) i) _ (by omega)) ?_)
    rintro v own h' tk' ⟨q, le, n1, n2, u, vals, rfl, rfl, hva⟩ F1 N1 hk1 hf1
    rw [hok.1] at N1 hf1
    rw [hok.2] at hva
    have hne1 := news_ne N (hf1 _ (.head _))
    have hne2 := news_ne N (hf1 _ (.tail _ (.head _)))
    simp only [List.forall_mem_cons] at hne1 hne2
    dsimp only [List.cons_append, List.nil_append] at N1
    (try k_unmd); (try k_fold)
    k_steps
    dsimp only [LCg.Off3] at off
    obtain ⟨a1, a2', a3, a4, a5, a6, a7, a8, a9, a10, a11, a12, a13⟩ := off
    refine Stop.mk (LCg.CompEnd.intro F1 N1 ((lw, W.listOf ws.toArray 0) :: (lh, W.listOf hv.toArray 0) :: (ld, W.listOf dv.toArray dn) :: (L + 1 + 1 + 1 + 1 + 1 + 1 + 1 + 1 + 1 + 1, o10) :: (L + 1 + 1 + 1 + 1 + 1 + 1 + 1 + 1 + 1, o9) :: (L + 1 + 1 + 1 + 1 + 1 + 1 + 1 + 1, o8) :: (L + 1 + 1 + 1 + 1 + 1 + 1 + 1, o7) :: (L + 1 + 1 + 1 + 1 + 1 + 1, o6) :: (L + 1 + 1 + 1 + 1 + 1, o5) :: (L + 1 + 1 + 1 + 1, o4) :: (L + 1 + 1 + 1, o3) :: (L + 1, o1) :: (q, tupR (roomAt (dAt ds i)) u le n1) :: (le, W.listOf vals.toArray n2) :: tl) ?_ ?_ (.inr ⟨_, .head _, rfl, _, rfl⟩) ⟨_, rfl, ?_, hg.more hva⟩)
    · k_extra "m inc"
    · dsimp only [LCg.Off3]
      exact ⟨a1, a2', a3, a4, a5, a6, a7, a8, a9, a10, a11, a12, ⟨hne1.1.symm, hne1.2.1.symm, hne1.2.2.1.symm⟩, ⟨hne2.1.symm, hne2.2.1.symm, hne2.2.2.1.symm⟩, a13⟩
    · simp only [List.forall_mem_cons]
      obtain ⟨_, _, _, _, _, _, b10, b9, b8, b7, b6, b5, b4, b3, b1, _⟩ := hne1
      obtain ⟨_, _, _, _, _, _, c10, c9, c8, c7, c6, c5, c4, c3, c1, _⟩ := hne2
      exact ⟨⟨b1.symm, trivial, b3.symm, b4.symm, b5.symm, b6.symm, b7.symm, b8.symm, b9.symm, b10.symm⟩, ⟨c1.symm, trivial, c3.symm, c4.symm, c5.symm, c6.symm, c7.symm, c8.symm, c9.symm, c10.symm⟩, hz⟩
  rintro rv nw ⟨tl, rfl, hz, hg⟩
  rw [List.size_toArray, hwl] at hg
  unfold LCg.FinA
  intro lr0 h tk F N o1
  dsimp only [LCg.Off1] at o1
  obtain ⟨_, _, _, b10, b9, b8, b7, b6, b5, b4, b3, b1, _⟩ := o1
  (try k_unmd); (try k_fold)
  (try k_steps)
  refine wpAny_execs_nil ?_
  (try k_unmd); (try k_unfold)
  refine next _ _ _ lh hv lr0 rv tl F (sub_news N ?_) a2 ⟨b1.symm, trivial, b3.symm, b4.symm, b5.symm, b6.symm, b7.symm, b8.symm, b9.symm, b10.symm⟩
    (OffC.gt l2.2.1) hz hg
  k_extra "m inc"
end
end
section
open PySem PySem.W PyProof.Rows PySem.Spec PySem.Calls
section
def roomsL (ds : List Int) : List Int := (List.range 8).map fun k => (roomAt (dAt ds k) : Int)
theorem room_at {x : Int} (h0 : 0 ≤ x.fmod 4) (h1 : x.fmod 4 < 4) : ([0, 2, 3, 4] : List Int).getD (x.fmod 4).toNat 0 = (roomAt (x.fmod 4).toNat : Int) := by
  generalize x.fmod 4 = y at *
  have : y = 0 ∨ y = 1 ∨ y = 2 ∨ y = 3 := by omega
  rcases this with rfl | rfl | rfl | rfl <;> rfl
theorem strs_dat {n : List (Addr × Obj)} : ∀ {vs : List Value} {ys : List Str}, StrsAre vs ys → DatAll n vs (ys.map Dat.str)
  | _, _, .nil => .nil
  | _, _, .cons y t h => .cons (.str y t) (strs_dat h)
theorem ne_same {prog : Program} {w : World} {A : Around} {E : Value → Shared → Prop} {s : Shared} {h₀ : Heap} {L a b : Addr} {news n₁ n₂ : List (Addr × Obj)} {xs ys : List Value} {ka kb : Nat} {ds : List Dat} {Q : Value → Shared → Prop}
    (N : News h₀ L s.heap news) (ma : (a, W.listOf xs.toArray ka) ∈ news) (Da : DatAll n₁ xs ds) (sa : ∀ p ∈ n₁, p ∈ news) (mb : (b, W.listOf ys.toArray kb) ∈ news) (Db : DatAll n₂ ys ds) (sb : ∀ p ∈ n₂, p ∈ news)
    (ha : ∀ d ∈ ds, kqdOk 8 d = true) (hu : A.units + 64 < cLine) (h : Q (.bool false) s) : wpAny (model prog w) A (compareOp .NotEq (.ref a) (.ref b)) Q E s :=
  kqd_ne N ma rfl rfl Da sa mb rfl rfl Db sb ha ha hu (by simpa using h)
theorem eight_of (k : Nat) (hk : k < 8) : k = 0 ∨ k = 1 ∨ k = 2 ∨ k = 3 ∨ k = 4 ∨ k = 5 ∨ k = 6 ∨ k = 7 := lt8 _ (by omega)
theorem prs_of {h₀ h : Heap} {L : Addr} {a b c q1 q2 q3 q4 q5 q6 q7 q8 : Addr × Obj} {rest : List (Addr × Obj)} (_ : News h₀ L h (a :: b :: c :: q8 :: q7 :: q6 :: q5 :: q4 :: q3 :: q2 :: q1 :: rest)) :
    ∃ prs, prs = [q8, q7, q6, q5, q4, q3, q2, q1] ∧ ∀ p ∈ prs, p ∈ a :: b :: c :: q8 :: q7 :: q6 :: q5 :: q4 :: q3 :: q2 :: q1 :: rest := by
  refine ⟨_, rfl, fun p hp => ?_⟩
  exact .tail _ (.tail _ (.tail _ (List.mem_append_left (as := [q8, q7, q6, q5, q4, q3, q2, q1]) rest hp)))
theorem sub_ledW {prog : Program} {w : World} {A : Around} {E : Value → Shared → Prop} {s : Shared} {h₀ : Heap} {L : Addr} {news : List (Addr × Obj)} {value slice : Expr} {l : Addr} {its : List Value} {n : Nat} {k : Int} {u : Tok} {v : Value} {Q : Value → Shared → Prop} (N : News h₀ L s.heap news) (hm : (l, W.listOf its.toArray n) ∈ news) (hv : its[k.toNat]? = some v) (h0 : 0 ≤ k) (hb : k < 2 ^ 63) (h : Q v s)
    (hs : subscripted slice false (.ref l) (.int k u) = operate [.ref l, .int k u] (getItem (.ref l) (.int k u)) := by with_unfolding_all rfl) :
    wpAny (model prog w) A (subscriptTail value slice (.ref l) (.int k u)) Q E s := by
  have hl' : s.heap.IsList l its.toArray := ⟨_, (N _ hm).1, rfl, _, rfl⟩
  exact tail_any hl'.typeIs slot_list_getitem.lookup (wpAny_getItem_list hl' h0 hb (by simpa using hv) h) hs
theorem RoadsIn.more1 {tl : List (Addr × Obj)} {ds : List Int} {i : Nat} {ys : List Value} {q le : Addr} {n1 n2 : Nat} {u : Tok} {vals : List Value} (h : RoadsIn tl ds i ys) (hm : (le, W.listOf vals.toArray n2) ∈ tl) (hv : IntsAre vals [PA i, PB i]) :
    RoadsIn ((q, tupR (roomAt (dAt ds i)) u le n1) :: tl) ds (i + 1) (ys ++ [.ref q]) := by
  refine ⟨by rw [List.length_append, h.1, List.length_singleton], fun k hk => ?_⟩
  by_cases e : k = i
  · subst e
    exact ⟨q, le, n1, n2, u, vals, by rw [List.getElem?_append_right (by rw [h.1]; exact Nat.le_refl _), h.1, Nat.sub_self]; rfl, .head _, .tail _ hm, hv⟩
  · obtain ⟨q', le', m1, m2, u', vals', h1, h2, h3, h4⟩ := h.2 k (by omega)
    exact ⟨q', le', m1, m2, u', vals', by rw [List.getElem?_append_left (by rw [h.1]; omega)]; exact h1, .tail _ h2, .tail _ h3, h4⟩
theorem datAll_of {n : List (Addr × Obj)} : ∀ {vs : List Value} {ds : List Dat}, vs.length = ds.length → (∀ (k : Nat) (v : Value) (d : Dat), vs[k]? = some v → ds[k]? = some d → DatIn n v d) → DatAll n vs ds
  | [], [], _, _ => .nil
  | v :: vs, d :: ds, hl, h => .cons (h 0 v d rfl rfl) (datAll_of (Nat.succ.inj hl) fun k v' d' a b => h (k + 1) v' d' a b)
theorem ints_dat {n : List (Addr × Obj)} : ∀ {vs : List Value} {ns : List Int}, IntsAre vs ns → DatAll n vs (ns.map Dat.int)
  | _, _, .nil => .nil
  | _, _, .cons i t h => .cons (.int i t) (ints_dat h)
def roadsD (ds : List Int) : List Dat := (List.range 8).map fun k => Dat.tuple [Dat.int (roomAt (dAt ds k)), Dat.list [Dat.int (PA k), Dat.int (PB k)]]
theorem roads_dat {tl : List (Addr × Obj)} {ds : List Int} {ys : List Value} (h : RoadsIn tl ds 8 ys) : DatAll tl ys (roadsD ds) := by
  refine datAll_of (by unfold roadsD; rw [h.1, List.length_map, List.length_range]) fun k v d hv hd => ?_
  have hk : k < 8 := by
    have := (List.getElem?_eq_some_iff.mp hv).1
    rw [h.1] at this; exact this
  obtain ⟨q, le, n1, n2, u, vals, h1, h2, h3, h4⟩ := h.2 k hk
  unfold roadsD at hd
  rw [List.getElem?_map, List.getElem?_range hk] at hd
  have hd' := (Option.some.inj hd).symm
  have hv' : v = .ref q := by rw [h1] at hv; exact (Option.some.inj hv).symm
  rw [hd', hv']
  exact .tuple (vs := [_, _]) h2 (.cons (.int _ _) (.cons (.list h3 (ints_dat h4)) .nil))
theorem roads_ok (ds : List Int) : ∀ d ∈ roadsD ds, kqdOk 8 d = true := by
  intro d hd
  obtain ⟨k, _, rfl⟩ := List.mem_map.mp hd
  rfl
local macro_rules | `(tactic| walk_at "m pad1") => `(tactic| skip)
theorem words_on_LBB : True := by
  k_with_none
  (k_with "m cj" => with_reducible first | assumption | exact And.left (by assumption) | exact And.left (And.right (by assumption)) | exact And.right (by assumption) | exact And.left (And.right (And.right (by assumption))) | exact And.right (And.right (by assumption)) | exact And.left (And.right (And.right (And.right (by assumption)))) | exact And.right (And.right (And.right (by assumption))) | exact And.left (r4 (by assumption)) | exact r4 (by assumption) | exact And.left (r4 (And.right (by assumption))) | exact r4 (And.right (by assumption)) | exact And.left (r4 (And.right (And.right (by assumption)))) | exact r4 (And.right (And.right (by assumption))) | exact And.left (r4 (And.right (And.right (And.right (by assumption))))) | exact r4 (And.right (And.right (And.right (by assumption)))) | exact And.left (r4 (r4 (by assumption))) | exact r4 (r4 (by assumption)) | exact And.left (r4 (r4 (And.right (by assumption)))) | exact r4 (r4 (And.right (by assumption))) | exact And.left (r4 (r4 (And.right (And.right (by assumption))))) | exact r4 (r4 (And.right (And.right (by assumption)))) | exact And.left (r4 (r4 (And.right (And.right (And.right (by assumption)))))) | exact r4 (r4 (And.right (And.right (And.right (by assumption))))) | exact And.left (r4 (r4 (r4 (by assumption)))) | exact r4 (r4 (r4 (by assumption))) | exact And.left (r4 (r4 (r4 (And.right (by assumption))))) | exact r4 (r4 (r4 (And.right (by assumption)))) | exact And.left (r4 (r4 (r4 (And.right (And.right (by assumption)))))) | exact r4 (r4 (r4 (And.right (And.right (by assumption))))) | exact And.left (r4 (r4 (r4 (And.right (And.right (And.right (by assumption))))))) | exact r4 (r4 (r4 (And.right (And.right (And.right (by assumption)))))))
  (k_with "m le" => first | exact Nat.le_refl _ | (with_reducible refine le_s ?_; k_extra "m le") | (refine Nat.le_of_lt ?_; k_extra "m cj"))
  (k_with "m off" => first | (with_reducible refine ne_ss ?_; k_extra "m off") | (with_reducible refine ne_ls ?_; k_extra "m le") | (with_reducible refine ne_rs ?_; k_extra "m le"))
  (k_with "m enter" => (k_dflt (refine' enter (by assumption) (by assumption) (by exact Nat.le_of_ble_eq_true rfl) (by k_is) (by k_is) (by exact BindsTo.of_eq rfl) (by exact locs rfl) ?_ (by exact rfl) (by exact rfl) (by exact rfl) (by decide); k_whole; intro _ _ _ _; (try dsimp only); (try k_fold))))
  (k_with "m enterC" => (k_dflt (refine' enterC (by assumption) (by assumption) (by exact Nat.le_of_ble_eq_true rfl) (by k_is) (by k_is) (by exact BindsTo.of_eq rfl) (by exact rfl) (by decide +kernel) ?_ (by exact rfl) (by exact rfl) (by exact rfl); k_whole; intro _ _ _ _ _ _ Y'; k_cells Y'; (try dsimp only); (try k_fold))))
  (k_with "m ints" => first | assumption | (repeat' (first | exact IntsAre.nil | refine IntsAre.cons _ _ ?_)))
  (k_with "m len" => first | omega | (simp only [List.length_cons, List.length_nil, List.length_append, List.length_replicate, List.length_take, List.length_map, List.length_flatten, List.map_replicate, List.sum_replicate_nat, Int.toNat]; omega) | (simp; omega))
  (k_with "CompSrc" => refine Stop.out ?_)
  (k_with "CompEnd" => refine Stop.out ?_)
  (k_with "m range" => (refine Stop.mk ?_; k_dflt (refine LCg.CompSrc.range (by rfl) (by k_asm) (by k_asm) (by assumption) (by decide) (by rfl) (by size_fits) ?_); intro _))
  (k_with "m end" => (refine Stop.mk ?_; refine LCg.CompEnd.intro (by assumption) (by assumption) _ (by kcf_all) (by first | assumption | (simp only [LCg.Off3, and_true]; done) | (simp only [LCg.Off3, and_true]; assumption)) (by first | lcg_src | assumption) ⟨rfl, ?_⟩))
  (k_with "m base" => first | exact base_list (by k_asm) (by assumption) | exact News.isList (by k_asm) (by k_mem))
  (k_with "assign Tuple" => (k_here; (with_reducible show wpAny _ _ (assign (Expr.Tuple _ _ _) _ (Value.ref _)) _ _ _); k_dflt (refine' kun_list (by k_asm) (by k_asm) (by k_extra "m base") (by exact rfl) (by exact rfl) (by exact rfl) ?_; k_whole); intro _ _ _; (try k_sweep)))
  (k_with "subscriptTail Name Name ref int" => k_extra "m sub")
  (k_with "subscriptTail Name Subscript ref int" => k_extra "m sub")
  (k_with "subscriptTail Name Call ref int" => k_extra "m sub")
  (k_with "subscriptTail Attribute Name ref int" => k_extra "m sub")
  (k_with "m sub" => (k_here; (with_reducible show wpAny _ _ (subscriptTail _ _ (Value.ref _) (Value.int _ _)) _ _ _); first | ((with_reducible show wpAny _ _ (subscriptTail _ _ (Value.ref _) (Value.int (Nat.cast _) _)) _ _ _); first | (k_dflt (refine' sub_pairs (by k_asm) (by with_reducible assumption) (by omega) ?_; k_whole); intro _ _ _ _) | (k_dflt (refine' sub_intsN (by k_asm) (by k_mem) (by k_extra "m ints") (by k_extra "m len") (by k_extra "m len") ?_; k_whole); intro _) | (k_dflt (refine' sub_baseN (by k_asm) (by with_reducible assumption) (by k_extra "m ints") (by k_extra "m len") (by k_extra "m len") ?_; k_whole); intro _)) | (k_dflt (refine' sub_ints (by k_asm) (by k_mem) (by k_extra "m ints") (by omega) (by k_extra "m len") (by k_extra "m len") ?_; k_whole); intro _) | (k_dflt (refine' sub_base (by k_asm) (by with_reducible assumption) (by k_extra "m ints") (by omega) (by k_extra "m len") (by k_extra "m len") ?_; k_whole); intro _)))
  (k_with "call ref" => refine Stop.out ?_)
  (k_with "exec While Compare cons nil" => refine Stop.out ?_)
  (k_with "pyIter ref" => refine Stop.out ?_)
  (k_with "exec For Name Call cons nil" => (k_dflt (refine wpAny_For ?_); (try k_unmd); (try k_fold)))
  (k_with "exec For Tuple Subscript cons nil" => (k_dflt (refine wpAny_For ?_); (try k_unmd); (try k_fold)))
  (k_with "exec For Tuple Name cons nil" => (k_dflt (refine wpAny_For ?_); (try k_unmd); (try k_fold)))
  (k_with "binaryOp RShift int int" => (with_reducible refine rsh6 ?_))
  (k_with "binaryOp LShift int int" => (with_reducible refine lsh6 (by k_dflt omega) ?_))
  (k_with "m ret" => ((try k_unmd); (try k_unfold); refine' Ret.intro [_] (by k_asm) (by k_asm) (fun p hp => by rw [List.mem_singleton.mp hp]; exact List.mem_cons_self) ?_))
  (k_with "binaryOp Mult int int" => ((with_reducible refine mul_int ?_ (by k_dflt (first | exact IntMulOk.of_left (intBits_le_64 (by omega) (by omega)) | exact IntMulOk.of_right (intBits_le_64 (by omega) (by omega)))))))
  (k_with "call builtin:max" => ((with_reducible show wpAny _ _ (call (Value.builtin _) [Value.float _ _, Value.float _ _, Value.float _ _]) _ _ _); k_dflt (refine' float_max3 (by exact rfl) (by k_asm) (by k_asm) ?_; k_whole); intro _ _ _ _ _))
  (k_with "call builtin:min" => ((with_reducible show wpAny _ _ (call (Value.builtin _) [Value.float _ _, Value.float _ _, Value.float _ _]) _ _ _); k_dflt (refine' float_min3 (by exact rfl) (by k_asm) (by k_asm) ?_; k_whole); intro _ _ _ _ _))
  (k_with "call builtin:min" => ((with_reducible show wpAny _ _ (call (Value.builtin _) [Value.float _ _, Value.float _ _]) _ _ _); k_dflt (refine' float_min2 (by exact rfl) (by k_asm) (by k_asm) ?_; k_whole); intro _ _ _ _ _))
  (k_with "binaryOp Div float float" => ((with_reducible refine AutoFloatOps.truediv_1 (by k_dflt (first | assumption | decide | exact Nz.out (by assumption) (by assumption))) ?_); (try dsimp only [Made.post])))
  (k_with "binaryOp Mod float float" => ((with_reducible refine AutoFloatOps.mod_1 (by k_dflt (first | assumption | decide | exact Nz.out (by assumption) (by assumption))) ?_); (try dsimp only [Made.post])))
  (k_with "ite" => first | refine ite_t (by assumption) ?_ | refine ite_f (by assumption) ?_ | refine ite_t (Ng.out (by assumption) (by assumption)) ?_)
  (k_with "eval ListComp" => ((with_reducible refine' ListComp_if (by with_unfolding_all rfl) (by with_unfolding_all rfl) (by k_dflt decide) ?_ (by (intro _; with_unfolding_all rfl))); (try k_unmd); (try k_fold)))
  (k_with "exec Assign cons ListComp" => ((with_reducible refine' Assign_if (by with_unfolding_all rfl) (by with_unfolding_all rfl) (by with_unfolding_all rfl) (by k_dflt decide) ?_ (by (intro _; with_unfolding_all rfl))); (try k_unmd); (try k_fold)))
  (k_with "IfGo" => refine Stop.out ?_)
  (k_with "IfTurn" => refine Stop.out ?_)
  (k_with "IfDone" => refine Stop.out ?_)
  (k_with "ForEnd2" => refine Stop.out ?_)
  (k_with "call builtin:max" => ((with_reducible show wpAny _ _ (call (Value.builtin _) [Value.ref _]) _ _ _); k_dflt (refine' max_list_N (by exact rfl) (by k_asm) (by k_asm) (by k_extra "m base") (by k_extra "m ints") (by (first | assumption | omega | exact ne_dec (by assumption))) ?_; k_whole); intro _ _ _ _ _ _ _ _))
  (k_with "m ledger" => (refine Stop.mk ?_; k_dflt (refine LCg.CompSrc.ledger (by rfl) (by k_asm) (by k_asm) (by k_mem) (by size_fits) ?_); intro _))
  (k_with "getMethod ref" => ((with_reducible show wpAny _ _ (getMethod (Value.ref _) (Str.ofString "sub") _) _ _ _); refine Stop.out ?_))
  (k_with "m tl" => first | assumption | (refine' List.Mem.tail _ ?_; k_extra "m tl") | exact (by assumption : ∀ q : Addr × Obj, q ∈ (_ : List (Addr × Obj)) → q ∈ (_ : List (Addr × Obj))) _ (by assumption))
  (k_with "m inc" => first | exact List.forall_mem_nil _ | (refine' List.forall_mem_cons.mpr ⟨(by k_mem), (by k_extra "m inc")⟩) | (intro _ _; k_extra "m tl"))
  (k_with "subscriptTail Name Name ref int" => (k_dflt (refine' sub_ledW (by k_asm) (by k_mem) (by with_reducible assumption) (by omega) (by omega) ?_; k_whole)))
  (k_with "compareOp NotEq ref ref" => refine Stop.out ?_)
  trivial
local macro_rules | `(tactic| k_all) => `(tactic| assumption)
local macro_rules | `(tactic| walk_at "subscriptTail Name Slice ref ref") => `(tactic| (k_here; k_dflt (refine' slice_from8 ?F ?N ?m ?i ?y ?_ ?s ?t; (case F => k_asm); (case N => k_asm); (case m => k_mem); (case i => with_reducible assumption); (case y => with_reducible assumption); (case s => with_unfolding_all rfl); (case t => (intro _; with_unfolding_all rfl))); intro D' ws' h' F' N' l1 hs'; (try k_lt l1)))
set_option maxRecDepth 100000 in
set_option maxHeartbeats 4000000 in
theorem seg_b {w : World} {p : Program} {loose : List Str} {mean : ExcName → Option Value} {mg mb : Str → Option Value} {fr : Option (List Env)} {gd : Option (List Code)} {s : Shared} {h₀ : Heap} {L : Addr} {m₀ : Str → Option Value} {Q : Flow → Shared → Prop} {E : Value → Shared → Prop}
  (X : (Mine.KK w.params).In h₀) (T : Top p loose mean mg mb h₀) {body : List Stmt} {scope : Scope} (hb : ((lawBody w.params).drop 5).take 3 = body) (hs : lawScope w.params = scope)
  (o1 o3 o4 o5 o6 o7 o8 o9 o10 : Obj) (ld lh lr0 : Addr) (dn : Nat) (dv hv rv0 : List Value) (ds : List Int) (tl : List (Addr × Obj))
  (F : Fr h₀ L s.heap (fun y => if y = Str.ofString "roads" then some (.ref lr0) else if y = Str.ofString "heard" then some (.ref lh) else m₀ y)) (N : News h₀ L s.heap ((lr0, LCg.lst rv0) :: (lh, W.listOf hv.toArray 0) :: (ld, W.listOf dv.toArray dn) :: (L + 1 + 1 + 1 + 1 + 1 + 1 + 1 + 1 + 1 + 1, o10) :: (L + 1 + 1 + 1 + 1 + 1 + 1 + 1 + 1 + 1, o9) :: (L + 1 + 1 + 1 + 1 + 1 + 1 + 1 + 1, o8) :: (L + 1 + 1 + 1 + 1 + 1 + 1 + 1, o7) :: (L + 1 + 1 + 1 + 1 + 1 + 1, o6) :: (L + 1 + 1 + 1 + 1 + 1, o5) :: (L + 1 + 1 + 1 + 1, o4) :: (L + 1 + 1 + 1, o3) :: (L + 1, o1) :: tl))
  (e1 : o1.data = .cell (some (.ref ld))) (e3 : o3.data = .cell none) (e4 : o4.data = .cell none) (hdv : IntsAre dv ds) (hdl : ds.length = 9) (hdb : ∀ d ∈ ds, 0 ≤ d ∧ d < 60)
  (hhv : StrsAre hv (rowsS ds ++ [⟨#[]⟩])) (q1 : OffC L lr0) (q2 : OffC L lh) (q3 : OffC L ld) (hz : ∀ p ∈ tl, OffC L p.1) (hg : RoadsIn tl ds 8 rv0)
  (next : ∀ h tk (m₁ : Str → Option Value) (o3' o4' : Obj) (lr lp : Addr) (rv pv : List Value) (prs : List (Addr × Obj)), Fr h₀ L h m₁ → News h₀ L h ((lp, W.listOf pv.toArray 0) :: (lr, LCg.lst rv) :: (ld, W.listOf dv.toArray dn) :: (L + 1 + 1 + 1 + 1 + 1 + 1 + 1 + 1 + 1 + 1, o10) :: (L + 1 + 1 + 1 + 1 + 1 + 1 + 1 + 1 + 1, o9) :: (L + 1 + 1 + 1 + 1 + 1 + 1 + 1 + 1, o8) :: (L + 1 + 1 + 1 + 1 + 1 + 1 + 1, o7) :: (L + 1 + 1 + 1 + 1 + 1 + 1, o6) :: (L + 1 + 1 + 1 + 1 + 1, o5) :: (L + 1 + 1 + 1 + 1, o4') :: (L + 1 + 1 + 1, o3') :: (L + 1, o1) :: prs) →
    o3'.data = .cell (some (.ref lr)) → o4'.data = .cell (some (.ref lp)) → OffC L lr → OffC L lp → (∀ p ∈ prs, OffC L p.1) → IntsAre rv (roomsL ds) → PairsL prs pv → Q .next { s with heap := h, toks := tk }) :
  wpAny (model PySem.Challenge.rw_tl0015_01.row.prog w) ((Ac 0 fr gd).deeper (lawEnv scope L)) (execs body (lawEnv scope L)) Q E s := by
  have hyl : (rowsS ds).length = 8 := by unfold rowsS; rw [List.length_map, List.length_range]
  have hvl : hv.length ≤ 9 := by rw [hhv.len_eq, List.length_append, hyl]; decide
  have u1 := q1.2.2.1; have u2 := q2.2.2.1; have u3 := q3.2.2.1
  have v1 := q1.2.2.2.1; have v2 := q2.2.2.2.1; have v3 := q3.2.2.2.1
  have z3 : ∀ p ∈ tl, @Ne Nat p.1 (L + 1 + 1 + 1) := fun p hp => (hz p hp).2.2.1
  have z4 : ∀ p ∈ tl, @Ne Nat p.1 (L + 1 + 1 + 1 + 1) := fun p hp => (hz p hp).2.2.2.1
  (conv at hb => lhs; whnf)
  (conv at hs => lhs; whnf)
  subst hb
  subst hs
  revert X; k_fill; intro X
  (try k_unmd); (try k_fold)
  k_steps
  k_extra "m range"
  refine comp_range0 (n := 8) (fun i ys => IntsAre ys ((List.range i).map fun k => (roomAt (dAt ds k) : Int))) .nil ?_ ?_
  · intro i ys t I oI C oC D m₂ h tk E' hi hj hC hx F N off ne
    have hf0 : 0 ≤ (ds.getD i 0).fmod 4 := Int.fmod_nonneg_of_pos _ (by decide)
    have hf1 : (ds.getD i 0).fmod 4 < 4 := Int.fmod_lt_of_pos _ (by decide)
    (try k_unmd); (try k_fold)
    k_steps
    all_goals
      k_extra "m end"
      rw [List.range_succ, List.map_append, List.map_singleton]
      refine hj.append ?_
      have hra := room_at hf0 hf1
      unfold dAt
      first | (rw [← hra]; exact .cons _ _ .nil) | skip
  intro rv hrv
  unfold LCg.FinE
  intro lr h1 tk1 F1 N1 of1
  dsimp only [LCg.Off1] at of1
  obtain ⟨_, _, _, b10, b9, b8, b7, b6, b5, b4, b3, b1, _⟩ := of1
  (try k_unmd); (try k_fold)
  k_steps
  rename_i x1 x2 x3 x4 hR o3b d3b p1 g1 k1 p2 g2 k2 p3 g3 k3 p4 g4 k4 p5 g5 k5 p6 g6 k6 p7 g7 k7 p8 g8 k8 lp g9 k9 hP o4b d4b lw ws hW hws lws lq hQ FQ NQ lQ
  have hnil : Str.ofString "" = ⟨#[]⟩ := by decide +kernel
  refine Stop.mk (ne_same (n₁ := []) (n₂ := []) NQ (.tail _ (.head _)) (strs_dat hws) (fun _ h => nomatch h) (.head _) (ys := [_]) (by rw [hnil]; exact .cons (.str _ _) .nil) (fun _ h => nomatch h) (by intro d hd; rw [List.mem_singleton.mp hd]; decide +kernel) (Nat.le_of_ble_eq_true rfl) ?_)
  k_steps
  rename_i hS tkS tS uS vS RS FS NS KS
  obtain ⟨prs, hprs, hpin⟩ := prs_of NS
  obtain ⟨pv, hpve⟩ : ∃ pv : List Value, pv = [Value.ref p1, Value.ref p2, Value.ref p3, Value.ref p4, Value.ref p5, Value.ref p6, Value.ref p7, Value.ref p8] := ⟨_, rfl⟩
  have hPL : PairsL prs pv := by
    rw [hprs, hpve]
    refine ⟨rfl, fun k hk => ?_⟩
    rcases eight_of k hk with rfl | rfl | rfl | rfl | rfl | rfl | rfl | rfl
    · exact ⟨p1, 0, _, _, rfl, .tail _ (.tail _ (.tail _ (.tail _ (.tail _ (.tail _ (.tail _ (.head _)))))))⟩
    · exact ⟨p2, 0, _, _, rfl, .tail _ (.tail _ (.tail _ (.tail _ (.tail _ (.tail _ (.head _))))))⟩
    · exact ⟨p3, 0, _, _, rfl, .tail _ (.tail _ (.tail _ (.tail _ (.tail _ (.head _)))))⟩
    · exact ⟨p4, 0, _, _, rfl, .tail _ (.tail _ (.tail _ (.tail _ (.head _))))⟩
    · exact ⟨p5, 0, _, _, rfl, .tail _ (.tail _ (.tail _ (.head _)))⟩
    · exact ⟨p6, 0, _, _, rfl, .tail _ (.tail _ (.head _))⟩
    · exact ⟨p7, 0, _, _, rfl, .tail _ (.head _)⟩
    · exact ⟨p8, 0, _, _, rfl, .head _⟩
  obtain ⟨tl2, htl2⟩ : ∃ tl2, tl2 = prs ++ tl := ⟨_, rfl⟩
  have NZ : News h₀ L hS ((lp, W.listOf pv.toArray 0) :: (lr, LCg.lst rv) :: (lr0, LCg.lst rv0) :: (lh, W.listOf hv.toArray 0) :: (ld, W.listOf dv.toArray dn) :: (L + 1 + 1 + 1 + 1 + 1 + 1 + 1 + 1 + 1 + 1, o10) :: (L + 1 + 1 + 1 + 1 + 1 + 1 + 1 + 1 + 1, o9) :: (L + 1 + 1 + 1 + 1 + 1 + 1 + 1 + 1, o8) :: (L + 1 + 1 + 1 + 1 + 1 + 1 + 1, o7) :: (L + 1 + 1 + 1 + 1 + 1 + 1, o6) :: (L + 1 + 1 + 1 + 1 + 1, o5) :: (L + 1 + 1 + 1 + 1, o4b) :: (L + 1 + 1 + 1, o3b) :: (L + 1, o1) :: tl2) := by
    rw [hpve, htl2]
    repeat (refine List.forall_mem_cons.mpr ⟨NS _ (by k_mem), ?_⟩)
    intro p hp
    rcases List.mem_append.mp hp with h | h
    · exact NS p (hpin p h)
    · exact NS p (by k_extra "m tl")
  clear NS
  k_extra "m range"
  refine comp_inv (n := 8) (fun i ys nw => ∃ tx, nw = ((lp, W.listOf pv.toArray 0) :: (lr, LCg.lst rv) :: (lr0, LCg.lst rv0) :: (lh, W.listOf hv.toArray 0) :: (ld, W.listOf dv.toArray dn) :: (L + 1 + 1 + 1 + 1 + 1 + 1 + 1 + 1 + 1 + 1, o10) :: (L + 1 + 1 + 1 + 1 + 1 + 1 + 1 + 1 + 1, o9) :: (L + 1 + 1 + 1 + 1 + 1 + 1 + 1 + 1, o8) :: (L + 1 + 1 + 1 + 1 + 1 + 1 + 1, o7) :: (L + 1 + 1 + 1 + 1 + 1 + 1, o6) :: (L + 1 + 1 + 1 + 1 + 1, o5) :: (L + 1 + 1 + 1 + 1, o4b) :: (L + 1 + 1 + 1, o3b) :: (L + 1, o1) :: tx) ∧ (∀ p ∈ tl2, p ∈ tx) ∧ RoadsIn tx ds i ys) ⟨tl2, rfl, fun _ h => h, rfl, fun k hk => absurd hk (Nat.not_lt_zero _)⟩ ?_ ?_
  · rintro i ys nw v I oI C oC D m₂ h tk E' hi ⟨tx, rfl, htx, hgx⟩ ⟨t, rfl⟩ hC hx F N off ne
    rw [Int.zero_add] at hx
    obtain ⟨q, n, t1, t2, hq1, hq2⟩ := hPL.2 i hi
    have hq1' : pv[(Int.toNat (i : Nat))]? = some (Value.ref q) := hq1
    have hq3 : (q, W.listOf [Value.int (PA i) t1, Value.int (PB i) t2].toArray n) ∈ tx := htx _ (by rw [htl2]; exact List.mem_append_left _ hq2)
    (try k_unmd); (try k_fold)
    k_steps
    rename_i tR qT hT FT NT lT
    have hri : (((List.range 8).map fun k => (roomAt (dAt ds k) : Int)).getD (Int.toNat (i : Nat)) 0) = (roomAt (dAt ds i) : Int) := by
      rw [Int.toNat_natCast, List.getD_eq_getElem?_getD, List.getElem?_map, List.getElem?_range hi]; rfl
    rw [hri] at NT
    dsimp only [LCg.Off3] at off
    obtain ⟨a1, a2, a3, a4, a5, a6, a7, a8, a9, a10, a11, a12, a13, a14, a15⟩ := off
    refine Stop.mk ?_
    k_unmd; (try k_unfold)
    refine LCg.CompEnd.intro FT NT ((lp, W.listOf pv.toArray 0) :: (lr, LCg.lst rv) :: (lr0, LCg.lst rv0) :: (lh, W.listOf hv.toArray 0) :: (ld, W.listOf dv.toArray dn) :: (L + 1 + 1 + 1 + 1 + 1 + 1 + 1 + 1 + 1 + 1, o10) :: (L + 1 + 1 + 1 + 1 + 1 + 1 + 1 + 1 + 1, o9) :: (L + 1 + 1 + 1 + 1 + 1 + 1 + 1 + 1, o8) :: (L + 1 + 1 + 1 + 1 + 1 + 1 + 1, o7) :: (L + 1 + 1 + 1 + 1 + 1 + 1, o6) :: (L + 1 + 1 + 1 + 1 + 1, o5) :: (L + 1 + 1 + 1 + 1, o4b) :: (L + 1 + 1 + 1, o3b) :: (L + 1, o1) :: (qT, tupR (roomAt (dAt ds i)) tR q 0) :: tx) ?_ ?_ trivial ⟨_, rfl, fun p hp => .tail _ (htx p hp), hgx.more1 hq3 (.cons _ _ (.cons _ _ .nil))⟩
    · k_extra "m inc"
    · dsimp only [LCg.Off3]
      exact ⟨a1, a2, a3, a4, a5, a6, a7, a8, a9, a10, a11, a12, a13, a14, ⟨Nat.ne_of_gt lT.1, Nat.ne_of_gt lT.2.1, Nat.ne_of_gt lT.2.2.1⟩, a15⟩
  rintro yv nw ⟨tx, rfl, htx, hgx⟩
  unfold LCg.FinE
  intro lc2 h2 tk2 F2 N2 o1
  clear o1
  (try k_unmd); (try k_fold)
  k_steps
  refine Stop.mk (ne_same (n₁ := tl) (n₂ := tx) N2 (.tail _ (.tail _ (.tail _ (.head _)))) (roads_dat hg) (fun p hp => by have := htx p (by rw [htl2]; exact List.mem_append_right _ hp); k_extra "m tl") (.head _) (roads_dat hgx) (fun p hp => by k_extra "m tl") (roads_ok ds) (Nat.le_of_ble_eq_true rfl) ?_)
  k_steps
  refine wpAny_execs_nil ?_
  (try k_unmd); (try k_unfold)
  refine next _ _ _ o3b o4b lr lp rv pv prs F2 (sub_news N2 ?_) d3b d4b ⟨b1.symm, trivial, b3.symm, b4.symm, b5.symm, b6.symm, b7.symm, b8.symm, b9.symm, b10.symm⟩ ?_ ?_ hrv hPL
  · have hpx : ∀ p ∈ prs, p ∈ tx := fun p hp => htx p (by rw [htl2]; exact List.mem_append_left _ hp)
    k_extra "m inc"
  · exact OffC.gt (by first | k_extra "m cj" | omega)
  · rw [hprs]
    repeat (refine List.forall_mem_cons.mpr ⟨OffC.gt (by dsimp only; first | k_extra "m cj" | omega), ?_⟩)
    exact List.forall_mem_nil _
end
end
section
open PySem PySem.W PyProof.Rows PySem.Spec PySem.Calls
section
theorem words_on_LC : True := by
  k_with_none
  (k_with "m cj" => with_reducible first | assumption | exact And.left (by assumption) | exact And.left (And.right (by assumption)) | exact And.right (by assumption) | exact And.left (And.right (And.right (by assumption))) | exact And.right (And.right (by assumption)) | exact And.left (And.right (And.right (And.right (by assumption)))) | exact And.right (And.right (And.right (by assumption))) | exact And.left (r4 (by assumption)) | exact r4 (by assumption) | exact And.left (r4 (And.right (by assumption))) | exact r4 (And.right (by assumption)) | exact And.left (r4 (And.right (And.right (by assumption)))) | exact r4 (And.right (And.right (by assumption))) | exact And.left (r4 (And.right (And.right (And.right (by assumption))))) | exact r4 (And.right (And.right (And.right (by assumption)))) | exact And.left (r4 (r4 (by assumption))) | exact r4 (r4 (by assumption)) | exact And.left (r4 (r4 (And.right (by assumption)))) | exact r4 (r4 (And.right (by assumption))) | exact And.left (r4 (r4 (And.right (And.right (by assumption))))) | exact r4 (r4 (And.right (And.right (by assumption)))) | exact And.left (r4 (r4 (And.right (And.right (And.right (by assumption)))))) | exact r4 (r4 (And.right (And.right (And.right (by assumption))))) | exact And.left (r4 (r4 (r4 (by assumption)))) | exact r4 (r4 (r4 (by assumption))) | exact And.left (r4 (r4 (r4 (And.right (by assumption))))) | exact r4 (r4 (r4 (And.right (by assumption)))) | exact And.left (r4 (r4 (r4 (And.right (And.right (by assumption)))))) | exact r4 (r4 (r4 (And.right (And.right (by assumption))))) | exact And.left (r4 (r4 (r4 (And.right (And.right (And.right (by assumption))))))) | exact r4 (r4 (r4 (And.right (And.right (And.right (by assumption)))))))
  (k_with "m le" => first | exact Nat.le_refl _ | (with_reducible refine le_s ?_; k_extra "m le") | (refine Nat.le_of_lt ?_; k_extra "m cj"))
  (k_with "m off" => first | (with_reducible refine ne_ss ?_; k_extra "m off") | (with_reducible refine ne_ls ?_; k_extra "m le") | (with_reducible refine ne_rs ?_; k_extra "m le"))
  (k_with "m enter" => (k_dflt (refine' enter (by assumption) (by assumption) (by exact Nat.le_of_ble_eq_true rfl) (by k_is) (by k_is) (by exact BindsTo.of_eq rfl) (by exact locs rfl) ?_ (by exact rfl) (by exact rfl) (by exact rfl) (by decide); k_whole; intro _ _ _ _; (try dsimp only); (try k_fold))))
  (k_with "m enterC" => (k_dflt (refine' enterC (by assumption) (by assumption) (by exact Nat.le_of_ble_eq_true rfl) (by k_is) (by k_is) (by exact BindsTo.of_eq rfl) (by exact rfl) (by decide +kernel) ?_ (by exact rfl) (by exact rfl) (by exact rfl); k_whole; intro _ _ _ _ _ _ Y'; k_cells Y'; (try dsimp only); (try k_fold))))
  (k_with "m ints" => first | assumption | (repeat' (first | exact IntsAre.nil | refine IntsAre.cons _ _ ?_)))
  (k_with "m len" => first | omega | (simp only [List.length_cons, List.length_nil, List.length_append, List.length_replicate, List.length_take, List.length_map, List.length_flatten, List.map_replicate, List.sum_replicate_nat, Int.toNat]; omega) | (simp; omega))
  (k_with "CompSrc" => refine Stop.out ?_)
  (k_with "CompEnd" => refine Stop.out ?_)
  (k_with "m range" => (refine Stop.mk ?_; k_dflt (refine LCg.CompSrc.range (by rfl) (by k_asm) (by k_asm) (by assumption) (by decide) (by rfl) (by size_fits) ?_); intro _))
  (k_with "m end" => (refine Stop.mk ?_; refine LCg.CompEnd.intro (by assumption) (by assumption) _ (by kcf_all) (by first | assumption | (simp only [LCg.Off3, and_true]; done) | (simp only [LCg.Off3, and_true]; assumption)) (by first | lcg_src | assumption) ⟨rfl, ?_⟩))
  (k_with "m base" => first | exact base_list (by k_asm) (by assumption) | exact News.isList (by k_asm) (by k_mem))
  (k_with "assign Tuple" => (k_here; (with_reducible show wpAny _ _ (assign (Expr.Tuple _ _ _) _ (Value.ref _)) _ _ _); k_dflt (refine' kun_list (by k_asm) (by k_asm) (by k_extra "m base") (by exact rfl) (by exact rfl) (by exact rfl) ?_; k_whole); intro _ _ _; (try k_sweep)))
  (k_with "subscriptTail Name Name ref int" => k_extra "m sub")
  (k_with "subscriptTail Name Subscript ref int" => k_extra "m sub")
  (k_with "subscriptTail Name Call ref int" => k_extra "m sub")
  (k_with "subscriptTail Attribute Name ref int" => k_extra "m sub")
  (k_with "m sub" => (k_here; (with_reducible show wpAny _ _ (subscriptTail _ _ (Value.ref _) (Value.int _ _)) _ _ _); first | ((with_reducible show wpAny _ _ (subscriptTail _ _ (Value.ref _) (Value.int (Nat.cast _) _)) _ _ _); first | (k_dflt (refine' sub_pairs (by k_asm) (by with_reducible assumption) (by omega) ?_; k_whole); intro _ _ _ _) | (k_dflt (refine' sub_intsN (by k_asm) (by k_mem) (by k_extra "m ints") (by k_extra "m len") (by k_extra "m len") ?_; k_whole); intro _) | (k_dflt (refine' sub_baseN (by k_asm) (by with_reducible assumption) (by k_extra "m ints") (by k_extra "m len") (by k_extra "m len") ?_; k_whole); intro _)) | (k_dflt (refine' sub_ints (by k_asm) (by k_mem) (by k_extra "m ints") (by omega) (by k_extra "m len") (by k_extra "m len") ?_; k_whole); intro _) | (k_dflt (refine' sub_base (by k_asm) (by with_reducible assumption) (by k_extra "m ints") (by omega) (by k_extra "m len") (by k_extra "m len") ?_; k_whole); intro _)))
  (k_with "call ref" => refine Stop.out ?_)
  (k_with "exec While Compare cons nil" => refine Stop.out ?_)
  (k_with "pyIter ref" => refine Stop.out ?_)
  (k_with "exec For Name Call cons nil" => (k_dflt (refine wpAny_For ?_); (try k_unmd); (try k_fold)))
  (k_with "exec For Tuple Subscript cons nil" => (k_dflt (refine wpAny_For ?_); (try k_unmd); (try k_fold)))
  (k_with "exec For Tuple Name cons nil" => (k_dflt (refine wpAny_For ?_); (try k_unmd); (try k_fold)))
  (k_with "binaryOp RShift int int" => (with_reducible refine rsh6 ?_))
  (k_with "binaryOp LShift int int" => (with_reducible refine lsh6 (by k_dflt omega) ?_))
  (k_with "m ret" => ((try k_unmd); (try k_unfold); refine' Ret.intro [_] (by k_asm) (by k_asm) (fun p hp => by rw [List.mem_singleton.mp hp]; exact List.mem_cons_self) ?_))
  (k_with "binaryOp Mult int int" => ((with_reducible refine mul_int ?_ (by k_dflt (first | exact IntMulOk.of_left (intBits_le_64 (by omega) (by omega)) | exact IntMulOk.of_right (intBits_le_64 (by omega) (by omega)))))))
  (k_with "call builtin:max" => ((with_reducible show wpAny _ _ (call (Value.builtin _) [Value.float _ _, Value.float _ _, Value.float _ _]) _ _ _); k_dflt (refine' float_max3 (by exact rfl) (by k_asm) (by k_asm) ?_; k_whole); intro _ _ _ _ _))
  (k_with "call builtin:min" => ((with_reducible show wpAny _ _ (call (Value.builtin _) [Value.float _ _, Value.float _ _, Value.float _ _]) _ _ _); k_dflt (refine' float_min3 (by exact rfl) (by k_asm) (by k_asm) ?_; k_whole); intro _ _ _ _ _))
  (k_with "call builtin:min" => ((with_reducible show wpAny _ _ (call (Value.builtin _) [Value.float _ _, Value.float _ _]) _ _ _); k_dflt (refine' float_min2 (by exact rfl) (by k_asm) (by k_asm) ?_; k_whole); intro _ _ _ _ _))
  (k_with "binaryOp Div float float" => ((with_reducible refine AutoFloatOps.truediv_1 (by k_dflt (first | assumption | decide | exact Nz.out (by assumption) (by assumption))) ?_); (try dsimp only [Made.post])))
  (k_with "binaryOp Mod float float" => ((with_reducible refine AutoFloatOps.mod_1 (by k_dflt (first | assumption | decide | exact Nz.out (by assumption) (by assumption))) ?_); (try dsimp only [Made.post])))
  (k_with "ite" => first | refine ite_t (by assumption) ?_ | refine ite_f (by assumption) ?_ | refine ite_t (Ng.out (by assumption) (by assumption)) ?_)
  (k_with "eval ListComp" => ((with_reducible refine' ListComp_if (by with_unfolding_all rfl) (by with_unfolding_all rfl) (by k_dflt decide) ?_ (by (intro _; with_unfolding_all rfl))); (try k_unmd); (try k_fold)))
  (k_with "exec Assign cons ListComp" => ((with_reducible refine' Assign_if (by with_unfolding_all rfl) (by with_unfolding_all rfl) (by with_unfolding_all rfl) (by k_dflt decide) ?_ (by (intro _; with_unfolding_all rfl))); (try k_unmd); (try k_fold)))
  (k_with "IfGo" => refine Stop.out ?_)
  (k_with "IfTurn" => refine Stop.out ?_)
  (k_with "IfDone" => refine Stop.out ?_)
  (k_with "ForEnd2" => refine Stop.out ?_)
  (k_with "call builtin:max" => ((with_reducible show wpAny _ _ (call (Value.builtin _) [Value.ref _]) _ _ _); k_dflt (refine' max_list_N (by exact rfl) (by k_asm) (by k_asm) (by k_extra "m base") (by k_extra "m ints") (by (first | assumption | omega | exact ne_dec (by assumption))) ?_; k_whole); intro _ _ _ _ _ _ _ _))
  (k_with "m ledger" => (refine Stop.mk ?_; k_dflt (refine LCg.CompSrc.ledger (by rfl) (by k_asm) (by k_asm) (by k_mem) (by size_fits) ?_); intro _))
  (k_with "getMethod ref" => ((with_reducible show wpAny _ _ (getMethod (Value.ref _) (Str.ofString "sub") _) _ _ _); refine Stop.out ?_))
  (k_with "m tl" => first | assumption | (refine' List.Mem.tail _ ?_; k_extra "m tl") | exact (by assumption : ∀ q : Addr × Obj, q ∈ (_ : List (Addr × Obj)) → q ∈ (_ : List (Addr × Obj))) _ (by assumption))
  (k_with "m inc" => first | exact List.forall_mem_nil _ | (refine' List.forall_mem_cons.mpr ⟨(by k_mem), (by k_extra "m inc")⟩) | (intro _ _; k_extra "m tl"))
  trivial
local macro_rules | `(tactic| k_all) => `(tactic| assumption)
theorem apart_at : ∀ k, k < 16 → (((List.range 16).map fun s => apart s 0 1).getD k false) = apart k 0 1 := by decide
theorem cut_at (rooms : List Int) (k : Nat) (hk : k < 16) : (((List.range 16).map (cutOf rooms)).getD k 0) = cutOf rooms k := by
  rw [List.getD_eq_getElem?_getD, List.getElem?_map, List.getElem?_range hk]; rfl
def CutP (rooms : List Int) (k : Nat) (ys : List Value) : Prop :=
  ∃ ms : List Int, IntsAre ys ms ∧ ms.length ≤ k ∧ (∀ m ∈ ms, ∃ s, s < 16 ∧ apart s 0 1 = true ∧ m = cutOf rooms s) ∧ ∀ s, s < k → apart s 0 1 = true → cutOf rooms s ∈ ms
def SecP (rooms : List Int) (f : Int) (k : Nat) (ys : List Value) : Prop :=
  ∃ ms : List Int, IntsAre ys ms ∧ ms.length ≤ k ∧ (∀ m ∈ ms, ∃ s, s < 16 ∧ apart s 2 3 = true ∧ m = cutOf rooms s - f * (if apart s 0 1 = true then 1 else 0)) ∧ ∀ s, s < k → apart s 2 3 = true → cutOf rooms s - f * (if apart s 0 1 = true then 1 else 0) ∈ ms
set_option maxRecDepth 100000 in
set_option maxHeartbeats 4000000 in
theorem seg_c {w : World} {p : Program} {loose : List Str} {mean : ExcName → Option Value} {mg mb : Str → Option Value} {fr : Option (List Env)} {gd : Option (List Code)} {s : Shared} {h₀ : Heap} {L : Addr} {m₀ : Str → Option Value} {Q : Flow → Shared → Prop} {E : Value → Shared → Prop}
  (X : (Mine.KK w.params).In h₀) (T : Top p loose mean mg mb h₀) {body : List Stmt} {scope : Scope} (hb : ((lawBody w.params).drop 8).take 4 = body) (hs : lawScope w.params = scope)
  (o1 o3 o4 o5 o6 o7 o8 o9 o10 : Obj) (ld lr lp : Addr) (dv rv pv : List Value) (dn rn pn : Nat) (prs : List (Addr × Obj)) (ds rooms : List Int)
  (F : Fr h₀ L s.heap m₀) (N : News h₀ L s.heap ((lp, W.listOf pv.toArray pn) :: (lr, W.listOf rv.toArray rn) :: (ld, W.listOf dv.toArray dn) :: (L + 1 + 1 + 1 + 1 + 1 + 1 + 1 + 1 + 1 + 1, o10) :: (L + 1 + 1 + 1 + 1 + 1 + 1 + 1 + 1 + 1, o9) :: (L + 1 + 1 + 1 + 1 + 1 + 1 + 1 + 1, o8) :: (L + 1 + 1 + 1 + 1 + 1 + 1 + 1, o7) :: (L + 1 + 1 + 1 + 1 + 1 + 1, o6) :: (L + 1 + 1 + 1 + 1 + 1, o5) :: (L + 1 + 1 + 1 + 1, o4) :: (L + 1 + 1 + 1, o3) :: (L + 1, o1) :: prs))
  (e1 : o1.data = .cell (some (.ref ld))) (e3 : o3.data = .cell (some (.ref lr))) (e4 : o4.data = .cell (some (.ref lp))) (e5 : o5.data = .cell none) (e6 : o6.data = .cell none) (e7 : o7.data = .cell none)
  (hld : OffC L ld) (hlr : OffC L lr) (hlp : OffC L lp) (hpr : ∀ p ∈ prs, OffC L p.1)
  (hdv : IntsAre dv ds) (hdl : ds.length = 9) (hd9 : 0 ≤ ds.getD 8 0 ∧ ds.getD 8 0 < 60) (hrv : IntsAre rv rooms) (hrl : rooms.length = 8) (hrb : ∀ k, k < 8 → 0 ≤ rooms.getD k 0 ∧ rooms.getD k 0 ≤ 4) (hpv : PairsL prs pv)
  (next : ∀ h tk f g (o7' : Obj) (tf tg : Tok), Fr h₀ L h (fun y => if y = Str.ofString "second" then some (.int g tg) else m₀ y) → News h₀ L h ((lp, W.listOf pv.toArray pn) :: (lr, W.listOf rv.toArray rn) :: (L + 1 + 1 + 1 + 1 + 1 + 1 + 1 + 1 + 1 + 1, o10) :: (L + 1 + 1 + 1 + 1 + 1 + 1 + 1 + 1 + 1, o9) :: (L + 1 + 1 + 1 + 1 + 1 + 1 + 1 + 1, o8) :: (L + 1 + 1 + 1 + 1 + 1 + 1 + 1, o7') :: (L + 1 + 1 + 1 + 1, o4) :: (L + 1 + 1 + 1, o3) :: prs) →
    o7'.data = .cell (some (.int f tf)) → Firsts rooms f g → Q .next { s with heap := h, toks := tk }) :
  wpAny (model PySem.Challenge.rw_tl0015_01.row.prog w) ((Ac 0 fr gd).deeper (lawEnv scope L)) (execs body (lawEnv scope L)) Q E s := by
  have z5 : ∀ p ∈ prs, @Ne Nat p.1 (L + 1 + 1 + 1 + 1 + 1) := fun p hp => (hpr p hp).2.2.2.2.1
  have z6 : ∀ p ∈ prs, @Ne Nat p.1 (L + 1 + 1 + 1 + 1 + 1 + 1) := fun p hp => (hpr p hp).2.2.2.2.2.1
  have z7 : ∀ p ∈ prs, @Ne Nat p.1 (L + 1 + 1 + 1 + 1 + 1 + 1 + 1) := fun p hp => (hpr p hp).2.2.2.2.2.2.1
  have a1 := hld.2.2.2.2.1; have a2 := hld.2.2.2.2.2.1; have a3 := hld.2.2.2.2.2.2.1
  have a4 := hlr.2.2.2.2.1; have a5 := hlr.2.2.2.2.2.1; have a6 := hlr.2.2.2.2.2.2.1
  have a7 := hlp.2.2.2.2.1; have a8 := hlp.2.2.2.2.2.1; have a9 := hlp.2.2.2.2.2.2.1
  (conv at hb => lhs; whnf)
  (conv at hs => lhs; whnf)
  subst hb
  subst hs
  revert X; k_fill; intro X
  (try k_unmd); (try k_fold)
  k_steps
  refine Stop.mk (call_by (by k_asm) (by k_asm) (cuts_c (X.keeps (Fr.keep (by k_asm))) (T.keeps (Fr.keep (by k_asm))) lr lp rv rooms ⟨_, (N (lr, W.listOf rv.toArray rn) (.tail _ (.head _))).1, rfl, rn, rfl⟩ hrv hrl (hpv.at N (.head _) (fun p hp => by k_extra "m tl"))) ?_)
  rintro v own h1 tk1 ⟨lc, nc, cv, rfl, rfl, hcv⟩ F1 N1 hk1 hf1
  dsimp only [List.cons_append, List.nil_append] at N1
  have hne := news_ne N (hf1 _ (List.mem_singleton.mpr rfl))
  simp only [List.forall_mem_cons] at hne
  have n5 := hne.2.2.2.2.2.2.2.2.1; have n6 := hne.2.2.2.2.2.2.2.1; have n7 := hne.2.2.2.2.2.2.1
  clear hne
  (try k_unmd); (try k_fold)
  k_steps
  k_extra "m range"
  refine comp_range0 (n := 16) (fun i ys => LSm.BoolsAre ys ((List.range i).map fun s => apart s 0 1)) .nil ?_ ?_
  · intro i ys t I oI C oC D m₂ h tk E' hi hj hC hx F N off ne
    have hsd := side01 i hi
    (try k_unmd); (try k_fold)
    k_steps
    k_extra "m end"
    rw [List.range_succ, List.map_append]
    first
    | exact kbo_app hj (hsd ▸ LSm.BoolsAre.cons _ .nil)
    | (refine kbo_app hj ?_; rw [List.map_singleton, ← hsd]; exact LSm.BoolsAre.cons _ .nil)
  intro bv hbv
  unfold LCg.FinE
  intro lb h2 tk2 F2 N2 of1
  have b6 := of1.2.2.2.2.2.2.2.2.1; have b7 := of1.2.2.2.2.2.2.2.1
  clear of1
  have hbl : ((List.range 16).map fun s => apart s 0 1).length = 16 := rfl
  have hcl : ((List.range 16).map (cutOf rooms)).length = 16 := rfl
  (try k_unmd); (try k_fold)
  k_steps
  rename_i qkA ekA hA o5b dA5 hB tkB tB uB vB RB KB gB qkC ekC hC o6b FC NC dA6 tC hD tkD tD uD vD R8 F8 N8 K8
  refine Stop.mk (IfGo.range (n := 16) rfl R8 (by decide) (by decide) (by decide) (by decide) rfl rfl F8 N8 (CutP rooms) ⟨[], .nil, Nat.le_refl _, (fun _ h => nomatch h), fun v hv => absurd hv (Nat.not_lt_zero _)⟩ ?_ ?_)
  · rintro k t' I' oI' C oC D m₂ ys s₂ E2 hk ⟨ms, hm, hml, hm1, hm2⟩ hC hx' F2 N2 off ne
    have hap : (((List.range 16).map fun s => apart s 0 1).getD (Int.toNat (k : Nat)) false) = apart k 0 1 := apart_at k hk
    have hct := cut_at rooms k hk
    (try k_unmd); (try k_fold)
    k_steps
    refine Stop.mk (IfTurn.intro (by k_asm) (by k_asm) ?_ ?_)
    · intro hb
      (try k_unmd); (try k_fold)
      k_steps
      refine Stop.mk ⟨_, _, rfl, by k_asm, by k_asm, ?_⟩
      rw [hct]
      rw [hap] at hb
      refine ⟨ms ++ [_], hm.append (.cons _ _ .nil), by rw [List.length_append, List.length_singleton]; omega, ?_, ?_⟩
      · intro m hm
        rcases List.mem_append.mp hm with h | h
        · exact hm1 m h
        · exact ⟨k, hk, hb, List.mem_singleton.mp h⟩
      · intro s hs ha
        by_cases e : s = k
        · subst e; exact List.mem_append_right _ (.head _)
        · exact List.mem_append_left _ (hm2 s (by omega) ha)
    · intro hb
      rw [hap] at hb
      refine ⟨ms, hm, by omega, hm1, fun s hs ha => ?_⟩
      by_cases e : s = k
      · subst e; rw [hb] at ha; cases ha
      · exact hm2 s (by omega) ha
  intro g
  refine rr_none ?_
  rintro D h tk ys F N off ⟨ms, hm, hml, hm1, hm2⟩
  simp only [List.forall_mem_cons] at off
  have d7 := off.2.2.2.2.2.2.2.2.1
  clear off
  have hmne : 0 < ms.length := List.length_pos_of_mem (hm2 1 (by decide) (by decide))
  (try k_unmd); (try k_fold)
  k_steps
  · rename_i hM0 _ _ _ _ _
    exfalso
    rename _ ∈ ms => hMm
    obtain ⟨s', _, _, e⟩ := hm1 _ hMm
    have := cutOf_nonneg (fun k hk => (hrb k hk).1) s'
    omega
  rename_i qkA ekA qkB ekB hA M tM kM hMm hMle hMn hB o7b FB NB dA7 hC tkC tC uC vC R9 F9 N9 K9
  have hM0 : 0 ≤ M := by
    obtain ⟨s', _, _, e⟩ := hm1 _ hMm
    have := cutOf_nonneg (fun k hk => (hrb k hk).1) s'
    omega
  have hf0 : 0 ≤ (ds.getD (Int.toNat 8) 0).fmod (1 + M) := Int.fmod_nonneg_of_pos _ (by omega)
  have hf1 : (ds.getD (Int.toNat 8) 0).fmod (1 + M) < 1 + M := Int.fmod_lt_of_pos _ (by omega)
  have hfc : ∀ s, s < 16 → apart s 0 1 = true → (ds.getD (Int.toNat 8) 0).fmod (1 + M) ≤ cutOf rooms s := fun s hs ha => by
    have := hMle _ (hm2 s hs ha)
    omega
  have hf12 : (ds.getD (Int.toNat 8) 0).fmod (1 + M) ≤ 12 := by
    have h1 := hfc 1 (by decide) (by decide)
    have h2 := cut_twelve hrb
    omega
  generalize (ds.getD (Int.toNat 8) 0).fmod (1 + M) = f at *
  refine Stop.mk (IfGo.range (n := 16) rfl R9 (by decide) (by decide) (by decide) (by decide) rfl rfl F9 N9 (SecP rooms f) ⟨[], .nil, Nat.le_refl _, (fun _ h => nomatch h), fun v hv => absurd hv (Nat.not_lt_zero _)⟩ ?_ ?_)
  · rintro k t' I' oI' C oC D m₂ ys s₂ E2 hk ⟨ns, hn, hnl, hn1, hn2⟩ hC hx' F2 N2 off ne
    have hap : (((List.range 16).map fun s => apart s 0 1).getD (Int.toNat (k : Nat)) false) = apart k 0 1 := apart_at k hk
    have hct := cut_at rooms k hk
    have hsd := side23 k hk
    (try k_unmd); (try k_fold)
    k_steps
    refine Stop.mk (IfTurn.intro (by k_asm) (by k_asm) ?_ ?_)
    · intro hb
      (try k_unmd); (try k_fold)
      k_steps
      refine Stop.mk ⟨_, _, rfl, by k_asm, by k_asm, ?_⟩
      rw [hsd] at hb
      rw [hct, hap]
      refine ⟨ns ++ [_], hn.append (.cons _ _ .nil), by rw [List.length_append, List.length_singleton]; omega, ?_, ?_⟩
      · intro m hm
        rcases List.mem_append.mp hm with h | h
        · exact hn1 m h
        · exact ⟨k, hk, hb, List.mem_singleton.mp h⟩
      · intro s hs ha
        by_cases e : s = k
        · subst e; exact List.mem_append_right _ (.head _)
        · exact List.mem_append_left _ (hn2 s (by omega) ha)
    · intro hb
      rw [hsd] at hb
      refine ⟨ns, hn, by omega, hn1, fun s hs ha => ?_⟩
      by_cases e : s = k
      · subst e; rw [hb] at ha; cases ha
      · exact hn2 s (by omega) ha
  intro g
  refine rr_none ?_
  rintro D2 h tk zs F N off2 ⟨ns, hn, hnl, hn1, hn2⟩
  clear off2
  have hnne : 0 < ns.length := List.length_pos_of_mem (hn2 4 (by decide) (by decide))
  (try k_unmd); (try k_fold)
  k_steps
  refine wpAny_execs_nil ?_
  (try k_unmd); (try k_unfold)
  rename _ ∈ ns => hGm
  rename ∀ (a : Int), a ∈ ns → _ ≤ a => hGle
  rename Fr _ _ _ _ => F8
  rename News _ _ _ _ => N8
  refine next _ _ f _ o7b _ _ F8 (sub_news N8 ?_) dA7 ⟨hrb, hf0, ?_, hfc, fun s hs ha => hGle _ (hn2 s hs ha)⟩
  · k_extra "m inc"
  · obtain ⟨s', hs', _, e⟩ := hn1 _ hGm
    have h1 := cutOf_nonneg (fun k hk => (hrb k hk).1) s'
    have h2 := hfc s' hs'
    rw [e]
    cases hap : apart s' 0 1 with
    | true =>
      have := h2 hap
      rw [if_pos rfl, Int.mul_one]; omega
    | false =>
      rw [if_neg Bool.false_ne_true, Int.mul_zero]; omega
end
end
section
open PySem PySem.W PyProof.Rows PySem.Spec PySem.Calls
section
section
variable {prog : Program} {w : World} {A : Around} {E : Value → Shared → Prop} {s : Shared} {h₀ : Heap} {L : Addr} {m : Str → Option Value} {news : List (Addr × Obj)}
theorem call_hide {f : Addr} {args : List Value} {P : Value → List (Addr × Obj) → Prop} {Q : Value → Shared → Prop} {l3 : Addr} {o3 : Obj}
    (F : Fr h₀ L s.heap m) (N : News h₀ L s.heap ((l3, o3) :: news)) (hoff : ∀ p ∈ news, @Ne Nat p.1 l3) (hc : codeAny (model prog w) A (.call (.ref f) ⟨args, []⟩) (RetB (hideAll s.heap [l3]) s P) s)
    (h : ∀ v own h' tk, P v own → Fr h₀ L h' m → News h₀ L h' (own ++ news) → (∀ p ∈ own, s.heap.get? p.1 = none) → Q v { s with heap := h', toks := tk }) : wpAny (model prog w) A (call (.ref f) args) Q E s := by
  refine wpAny_call (codeAny_mono hc fun r s' hr => ?_)
  obtain ⟨v, own, h', tk, rfl, rfl, hk, hn, hp⟩ := hr
  have z := N _ (.head _)
  have keep : ∀ b o, @Ne Nat b l3 → s.heap.get? b = some o → h'.get? b = some o := fun b o hb e => hk b o (hideAll_get _ e fun q => hb (List.mem_singleton.mp q))
  have hold : ∀ b o, h₀.get? b = some o → @Ne Nat b l3 := fun b o e q => by
    rw [show b = l3 from q, z.2.2] at e; cases e
  refine h v own h' tk hp ⟨F.ns.at' fun o e => keep L o (fun q => z.2.1 q.symm) e, fun b o e => keep b o (hold b o e) (F.keep b o e), F.above⟩ (fun q hq => ?_) fun q hq => (hn q hq).2
  rcases List.mem_append.mp hq with hq | hq
  · refine ⟨(hn q hq).1, ?_, ?_⟩
    · intro e
      obtain ⟨oL, _, _, hL, _⟩ := F.ns
      have := (hn q hq).2
      rw [e, hL] at this; cases this
    · cases e : h₀.get? q.1 with
      | none => rfl
      | some o => have := F.keep _ _ e; rw [(hn q hq).2] at this; cases this
  · exact ⟨keep _ _ (hoff q hq) (N q (.tail _ hq)).1, (N q (.tail _ hq)).2⟩
end
theorem TripsIn.get {own : List (Addr × Obj)} : ∀ {vs : List Value} {xs : List (Nat × Int × Int)}, TripsIn own vs xs → ∀ {i : Nat} {x : Nat × Int × Int}, xs[i]? = some x → ∃ q n t1 t2 t3, vs[i]? = some (.ref q) ∧ (q, tup3 (.int (x.1 : Int) t1) (.int x.2.1 t2) (.int x.2.2 t3) n) ∈ own
  | [], [], _, i, x, h => by cases h
  | v :: _, x :: _, ⟨⟨q, n, t1, t2, t3, e, hm⟩, h⟩, 0, y, g => by cases g; exact ⟨q, n, t1, t2, t3, by rw [e]; rfl, hm⟩
  | _ :: _, _ :: _, ⟨_, h⟩, i + 1, y, g => TripsIn.get h g
  | [], _ :: _, h, _, _, _ => h.elim
  | _ :: _, [], h, _, _, _ => h.elim
theorem exAt_of {hb : Heap} {le l0 l1 m2 l3 l4 : Addr} {c : ExS} (N : ∀ p ∈ exLed le l0 l1 m2 l3 l4 c, hb.get? p.1 = some p.2) (h0 : TripsIn c.tups c.a0 (exOf 8 0)) (h1 : TripsIn c.tups c.a1 (exOf 8 1)) (h2 : TripsIn c.tups c.a2 (exOf 8 2)) (h3 : TripsIn c.tups c.a3 (exOf 8 3)) (h4 : TripsIn c.tups c.a4 (exOf 8 4)) : ExAt hb le := by
  have one : ∀ (v : Nat) (e : Addr) (vals : List Value) (n : Nat), (e, W.listOf vals.toArray n) ∈ exLed le l0 l1 m2 l3 l4 c → TripsIn c.tups vals (exOf 8 v) → hb.IsList e vals.toArray ∧ vals.length = (exOf 8 v).length ∧
      ∀ (i : Nat) (x : Nat × Int × Int), (exOf 8 v)[i]? = some x → ∃ (q : Addr) (t1 t2 t3 : Tok), vals[i]? = some (Value.ref q) ∧ IsTup hb q #[.int (x.1 : Int) t1, .int x.2.1 t2, .int x.2.2 t3] := by
    intro v e vals n hm ht
    refine ⟨⟨_, N _ hm, rfl, n, rfl⟩, ht.length, fun i x hx => ?_⟩
    obtain ⟨q, n', t1, t2, t3, e1, e2⟩ := ht.get hx
    exact ⟨q, t1, t2, t3, e1, ⟨_, N _ (.tail _ (.tail _ (.tail _ (.tail _ (.tail _ (.tail _ e2)))))), rfl, n', rfl⟩⟩
  refine ⟨[Value.ref l0, Value.ref l1, Value.ref m2, Value.ref l3, Value.ref l4], ⟨_, N _ (.head _), rfl, 0, rfl⟩, fun v hv => ?_⟩
  have : v = 0 ∨ v = 1 ∨ v = 2 ∨ v = 3 ∨ v = 4 := lt5 _ (by omega)
  rcases this with rfl | rfl | rfl | rfl | rfl
  · exact ⟨l0, c.a0, rfl, one 0 l0 c.a0 c.n0 (.tail _ (.tail _ (.tail _ (.tail _ (.tail _ (.head _)))))) h0⟩
  · exact ⟨l1, c.a1, rfl, one 1 l1 c.a1 c.n1 (.tail _ (.tail _ (.tail _ (.tail _ (.head _))))) h1⟩
  · exact ⟨m2, c.a2, rfl, one 2 m2 c.a2 c.n2 (.tail _ (.tail _ (.tail _ (.head _)))) h2⟩
  · exact ⟨l3, c.a3, rfl, one 3 l3 c.a3 c.n3 (.tail _ (.tail _ (.head _))) h3⟩
  · exact ⟨l4, c.a4, rfl, one 4 l4 c.a4 c.n4 (.tail _ (.head _)) h4⟩
theorem flow_call {w : World} {p : Program} {loose : List Str} {mean : ExcName → Option Value} {mg mb : Str → Option Value} {fr : Option (List Env)} {gd : Option (List Code)} {s : Shared} {h₀ : Heap} {L : Addr} {m : Str → Option Value} {news : List (Addr × Obj)} {E : Value → Shared → Prop} {Q : Value → Shared → Prop} {ln lr le l0 l1 m2 l3 l4 : Addr} {c : ExS} {nv rv : List Value} {nn rn : Nat} {rooms need : List Int}
    (X : (Mine.KK w.params).In h₀) (T : Top p loose mean mg mb h₀) (F : Fr h₀ L s.heap m) (N : News h₀ L s.heap ((ln, W.listOf nv.toArray nn) :: news)) (hoff : ∀ p ∈ news, @Ne Nat p.1 ln)
    (hlr : (lr, W.listOf rv.toArray rn) ∈ news) (hrv : IntsAre rv rooms) (hrl : rooms.length = 8) (hrb : ∀ k, k < 8 → 0 ≤ rooms.getD k 0 ∧ rooms.getD k 0 ≤ 100)
    (hex : ∀ p ∈ exLed le l0 l1 m2 l3 l4 c, p ∈ news) (h0 : TripsIn c.tups c.a0 (exOf 8 0)) (h1 : TripsIn c.tups c.a1 (exOf 8 1)) (h2 : TripsIn c.tups c.a2 (exOf 8 2)) (h3 : TripsIn c.tups c.a3 (exOf 8 3)) (h4 : TripsIn c.tups c.a4 (exOf 8 4))
    (hni : IntsAre nv need) (hnl : need.length = 5) (hnb : ∀ v, v < 5 → -1000 ≤ need.getD v 0 ∧ need.getD v 0 ≤ 1000) (hsu : need.getD 0 0 + need.getD 1 0 + need.getD 2 0 + need.getD 3 0 + need.getD 4 0 = 0) (cut : ∀ inn, needB need inn ≤ cutB rooms inn)
    (h : ∀ r vals n fl h' tk, IntsAre vals fl → fl.length = 8 → (∀ k, k < 8 → -(rooms.getD k 0) ≤ fl.getD k 0 ∧ fl.getD k 0 ≤ rooms.getD k 0) → (∀ v, v < 5 → outF fl (v : Nat) = need.getD v 0) → Fr h₀ L h' m → News h₀ L h' ((r, W.listOf (vals : List Value).toArray n) :: news) → (∀ p ∈ news, @Ne Nat p.1 r) → Q (.ref r) { s with heap := h', toks := tk }) :
    wpAny (model PySem.Challenge.rw_tl0015_01.row.prog w) (Ac 1 fr gd) (call (.ref 111) [.ref le, .ref lr, .ref ln]) Q E s := by
  have z := N _ (.head _)
  have hold : ∀ b o, h₀.get? b = some o → (hideAll s.heap [ln]).get? b = some o := fun b o e => hideAll_get _ (F.keep b o e) fun q => by
    rw [List.mem_singleton.mp q, z.2.2] at e; cases e
  have hin : ∀ p ∈ news, (hideAll s.heap [ln]).get? p.1 = some p.2 := fun p hp => hideAll_get _ (N p (.tail _ hp)).1 fun q => hoff p hp (List.mem_singleton.mp q)
  refine call_hide F N hoff (flow_c (X.keeps hold) (T.keeps hold) (fun b o e => of_hideAll _ e) (Nat.le_of_eq (hideAll_size _ _)) le lr ln nv nn z.1 (hideAll_none _ (.head _)) need hni hnl rooms rv ⟨_, hin _ hlr, rfl, rn, rfl⟩ hrv hrl hrb
    (exAt_of (fun p hp => hin p (hex p hp)) h0 h1 h2 h3 h4) hnb hsu cut) ?_
  rintro v own h' tk ⟨r, vals, n, fl, rfl, rfl, a1, a2, a3, a4⟩ F' N' hf
  exact h r vals n fl h' tk a1 a2 a3 a4 F' N' (fun p hp => news_ne N (hf _ (.head _)) p (.tail _ hp))
theorem allLt_mem {d : Nat} : ∀ {l : List (Addr × Obj)}, AllLt d l → ∀ p ∈ l, @LT.lt Nat _ p.1 d
  | [], _, _, h => nomatch h
  | q :: r, h, p, hp => by
    rcases List.mem_cons.mp hp with rfl | hp
    · exact h.1
    · exact allLt_mem h.2 p hp
theorem allLt_at {d : Nat} {l : List (Addr × Obj)} {p : Addr × Obj} (hp : p ∈ l) (h : AllLt d l) : @LT.lt Nat _ p.1 d := allLt_mem h p hp
theorem need_small {a b c d : Int} (h : (-1000 ≤ a ∧ a ≤ 1000) ∧ (-1000 ≤ b ∧ b ≤ 1000) ∧ (-1000 ≤ c ∧ c ≤ 1000) ∧ (-1000 ≤ d ∧ d ≤ 1000)) : ∀ v, v < 5 → -1000 ≤ ([a, b, c, d, 0] : List Int).getD v 0 ∧ ([a, b, c, d, 0] : List Int).getD v 0 ≤ 1000 := by
  intro v hv
  have : v = 0 ∨ v = 1 ∨ v = 2 ∨ v = 3 ∨ v = 4 := lt5 _ (by omega)
  obtain ⟨h1, h2, h3, h4⟩ := h
  rcases this with rfl | rfl | rfl | rfl | rfl
  · exact h1
  · exact h2
  · exact h3
  · exact h4
  · show -1000 ≤ (0 : Int) ∧ (0 : Int) ≤ 1000; omega
local macro_rules | `(tactic| walk_at "m pad0") => `(tactic| skip)
local macro_rules | `(tactic| k_all) => `(tactic| assumption)
set_option maxRecDepth 100000 in
set_option maxHeartbeats 4000000 in
theorem seg_d {w : World} {p : Program} {loose : List Str} {mean : ExcName → Option Value} {mg mb : Str → Option Value} {fr : Option (List Env)} {gd : Option (List Code)} {s : Shared} {h₀ : Heap} {L : Addr} {m₀ : Str → Option Value} {Q : Flow → Shared → Prop} {E : Value → Shared → Prop}
  (X : (Mine.KK w.params).In h₀) (T : Top p loose mean mg mb h₀) {body : List Stmt} {scope : Scope} (hb : ((lawBody w.params).drop 12).take 4 = body) (hs : lawScope w.params = scope)
  (o3 o4 o7 o8 o9 o10 : Obj) (lr lp : Addr) (rv pv : List Value) (rn pn : Nat) (prs : List (Addr × Obj)) (rooms : List Int) (f g : Int) (tf tg : Tok)
  (F : Fr h₀ L s.heap (fun y => if y = Str.ofString "second" then some (.int g tg) else m₀ y)) (N : News h₀ L s.heap ((lp, W.listOf pv.toArray pn) :: (lr, W.listOf rv.toArray rn) :: (L + 1 + 1 + 1 + 1 + 1 + 1 + 1 + 1 + 1 + 1, o10) :: (L + 1 + 1 + 1 + 1 + 1 + 1 + 1 + 1 + 1, o9) :: (L + 1 + 1 + 1 + 1 + 1 + 1 + 1 + 1, o8) :: (L + 1 + 1 + 1 + 1 + 1 + 1 + 1, o7) :: (L + 1 + 1 + 1 + 1, o4) :: (L + 1 + 1 + 1, o3) :: prs))
  (e3 : o3.data = .cell (some (.ref lr))) (e4 : o4.data = .cell (some (.ref lp))) (e7 : o7.data = .cell (some (.int f tf))) (e8 : o8.data = .cell none) (e9 : o9.data = .cell none)
  (hlr : OffC L lr) (hlp : OffC L lp) (hpr : ∀ p ∈ prs, OffC L p.1)
  (hrv : IntsAre rv rooms) (hrl : rooms.length = 8) (hpv : PairsL prs pv) (H : Firsts rooms f g)
  (next : ∀ h tk (m₁ : Str → Option Value) (o8' o9' : Obj) (r1 r2 : Addr) (v1 v2 : List Value) (n1 n2 : Nat) (fl1 fl2 : List Int), Fr h₀ L h (fun y => if y = Str.ofString "second" then some (.int g tg) else m₁ y) → News h₀ L h ((r2, W.listOf v2.toArray n2) :: (r1, W.listOf v1.toArray n1) :: (lp, W.listOf pv.toArray pn) :: (lr, W.listOf rv.toArray rn) :: (L + 1 + 1 + 1 + 1 + 1 + 1 + 1 + 1 + 1 + 1, o10) :: (L + 1 + 1 + 1 + 1 + 1 + 1 + 1 + 1 + 1, o9') :: (L + 1 + 1 + 1 + 1 + 1 + 1 + 1 + 1, o8') :: (L + 1 + 1 + 1 + 1 + 1 + 1 + 1, o7) :: (L + 1 + 1 + 1 + 1, o4) :: (L + 1 + 1 + 1, o3) :: prs) →
    o8'.data = .cell (some (.ref r1)) → o9'.data = .cell (some (.ref r2)) → IntsAre v1 fl1 → IntsAre v2 fl2 → fl1.length = 8 → fl2.length = 8 → (∀ k, k < 8 → -(rooms.getD k 0) ≤ fl1.getD k 0 ∧ fl1.getD k 0 ≤ rooms.getD k 0) → (∀ k, k < 8 → -(rooms.getD k 0) ≤ fl2.getD k 0 ∧ fl2.getD k 0 ≤ rooms.getD k 0) →
    (∀ v, v < 5 → outF fl1 (v : Nat) = ([f, -f, g, -g, 0] : List Int).getD v 0) → (∀ v, v < 5 → outF fl2 (v : Nat) = ([f, -f, -g, g, 0] : List Int).getD v 0) →
    (@Ne Nat r1 (L + 1 + 1 + 1 + 1 + 1 + 1 + 1 + 1 + 1 + 1) ∧ @Ne Nat r2 (L + 1 + 1 + 1 + 1 + 1 + 1 + 1 + 1 + 1 + 1)) → Q .next { s with heap := h, toks := tk }) :
  wpAny (model PySem.Challenge.rw_tl0015_01.row.prog w) ((Ac 0 fr gd).deeper (lawEnv scope L)) (execs body (lawEnv scope L)) Q E s := by
  unfold OffC at hlr hlp
  (conv at hb => lhs; whnf)
  (conv at hs => lhs; whnf)
  subst hb
  subst hs
  revert X; k_fill; intro X
  (try k_unmd); (try k_fold)
  k_steps
  refine Stop.mk (call_by (by k_asm) (by k_asm) (exits_c (X.keeps (Fr.keep (by k_asm))) (T.keeps (Fr.keep (by k_asm))) lp (hpv.at N (.head _) (fun p hp => by k_extra "m tl"))) ?_)
  rintro v own h1 tk1 ⟨le, l0, l1, m2, l3, l4, c, rfl, rfl, x0, x1, x2, x3, x4⟩ F1 N1 hk1 hf1
  have hne := fun q hq => news_ne N (hf1 q hq)
  obtain ⟨tl, htl⟩ : ∃ tl, tl = exLed le l0 l1 m2 l3 l4 c ++ prs := ⟨_, rfl⟩
  have N2 : News h₀ L h1 ((lp, W.listOf pv.toArray pn) :: (lr, W.listOf rv.toArray rn) :: (L + 1 + 1 + 1 + 1 + 1 + 1 + 1 + 1 + 1 + 1, o10) :: (L + 1 + 1 + 1 + 1 + 1 + 1 + 1 + 1 + 1, o9) :: (L + 1 + 1 + 1 + 1 + 1 + 1 + 1 + 1, o8) :: (L + 1 + 1 + 1 + 1 + 1 + 1 + 1, o7) :: (L + 1 + 1 + 1 + 1, o4) :: (L + 1 + 1 + 1, o3) :: tl) := by
    rw [htl]
    refine sub_news N1 ?_
    repeat (refine List.forall_mem_cons.mpr ⟨List.mem_append_right _ (by k_mem), ?_⟩)
    intro p hp
    rcases List.mem_append.mp hp with h | h
    · exact List.mem_append_left _ h
    · exact List.mem_append_right _ (by k_extra "m tl")
  have z8 : ∀ p ∈ tl, @Ne Nat p.1 (L + 1 + 1 + 1 + 1 + 1 + 1 + 1 + 1) := fun p hp => by
    rw [htl] at hp
    rcases List.mem_append.mp hp with h | h
    · exact fun e => hne p h _ (.tail _ (.tail _ (.tail _ (.tail _ (.head _))))) e.symm
    · exact (hpr p h).2.2.2.2.2.2.2.1
  have z9 : ∀ p ∈ tl, @Ne Nat p.1 (L + 1 + 1 + 1 + 1 + 1 + 1 + 1 + 1 + 1) := fun p hp => by
    rw [htl] at hp
    rcases List.mem_append.mp hp with h | h
    · exact fun e => hne p h _ (.tail _ (.tail _ (.tail _ (.head _)))) e.symm
    · exact (hpr p h).2.2.2.2.2.2.2.2.1
  clear N1 N F
  (try k_unmd); (try k_fold)
  k_steps
  rename_i hA ln hB F3 N3 lln
  have h12 := H.twelve
  have hf0 := H.f0
  have hg0 := H.g0
  have hexm : ∀ p ∈ exLed le l0 l1 m2 l3 l4 c, p ∈ tl := fun p hp => by rw [htl]; exact List.mem_append_left _ hp
  have hrb : ∀ k, k < 8 → 0 ≤ rooms.getD k 0 ∧ rooms.getD k 0 ≤ 100 := fun k hk => by have := H.rb k hk; omega
  refine Stop.mk (flow_call (le := le) (l0 := l0) (l1 := l1) (m2 := m2) (l3 := l3) (l4 := l4) (c := c) X T F3 N3 (fun p hp => Nat.ne_of_lt (allLt_at hp lln)) (.tail _ (.head _)) hrv hrl hrb (fun p hp => by have := hexm p hp; k_extra "m tl") x0 x1 x2 x3 x4
    (need := [f, -f, g, -g, 0]) (.cons _ _ (.cons _ _ (.cons _ _ (.cons _ _ (.cons _ _ .nil))))) rfl (need_small (by omega)) (by show f + -f + g + -g + 0 = 0; omega) (need_cut H (.inl rfl)) ?_)
  intro r1 v1 n1 fl1 h2 tk2 hi1 hl1 hb1 ho1 F4 N4 hr1
  simp only [List.forall_mem_cons] at hr1
  clear F3 N3
  (try k_unmd); (try k_fold)
  k_steps
  rename_i qkB ekB hC o8b dC8 ln2 hD F5 N5 lln2
  refine Stop.mk (flow_call (le := le) (l0 := l0) (l1 := l1) (m2 := m2) (l3 := l3) (l4 := l4) (c := c) X T F5 N5 (fun p hp => Nat.ne_of_lt (allLt_at hp lln2)) (.tail _ (.tail _ (.head _))) hrv hrl hrb (fun p hp => by have := hexm p hp; k_extra "m tl") x0 x1 x2 x3 x4
    (need := [f, -f, -g, g, 0]) (.cons _ _ (.cons _ _ (.cons _ _ (.cons _ _ (.cons _ _ .nil))))) rfl (need_small (by omega)) (by show f + -f + -g + g + 0 = 0; omega) (fun inn => by have := need_cut H (.inr rfl) inn; rwa [Int.neg_neg] at this) ?_)
  intro r2 v2 n2 fl2 h3 tk3 hi2 hl2 hb2 ho2 F6 N6 hr2
  simp only [List.forall_mem_cons] at hr2
  clear F5 N5
  have hd1 : ¬ fl1 = [] := fun e => by rw [e] at hl1; cases hl1
  have hd2 : ¬ fl2 = [] := fun e => by rw [e] at hl2; cases hl2
  (try k_unmd); (try k_fold)
  k_steps
  rename_i qkC ekC hE o9b dD9 ta hF lta tb hG F8 N8 ltb
  refine wpAny_execs_nil ?_
  (try k_unmd); (try k_unfold)
  refine next _ _ _ o8b o9b r1 r2 v1 v2 n1 n2 fl1 fl2 (fr_name F8 rfl) (sub_news N8 ?_) dC8 dD9 hi1 hi2 hl1 hl2 hb1 hb2 ho1 ho2 ⟨hr1.2.2.1.symm, hr2.2.2.2.1.symm⟩
  have hpt : ∀ p ∈ prs, p ∈ tl := fun p hp => by rw [htl]; exact List.mem_append_right _ hp
  k_extra "m inc"
end
end
section
open PySem PySem.W PyProof.Rows PySem.Spec PySem.Calls
section
def GoodsIn (tl : List (Addr × Obj)) (fl1 fl2 : List Int) (i : Nat) (ys : List Value) : Prop :=
  ys.length = i ∧ ∀ k, k < i → ∃ (q : Addr) (n : Nat) (u1 u2 : Tok), ys[k]? = some (Value.ref q) ∧ (q, tup2 (.int (fl1.getD k 0 + fl2.getD k 0) u1) (.int (fl1.getD k 0 - fl2.getD k 0) u2) n) ∈ tl
theorem GoodsIn.more {tl : List (Addr × Obj)} {fl1 fl2 : List Int} {i : Nat} {ys : List Value} {q : Addr} {n : Nat} {u1 u2 : Tok} (h : GoodsIn tl fl1 fl2 i ys) :
    GoodsIn ((q, tup2 (.int (fl1.getD i 0 + fl2.getD i 0) u1) (.int (fl1.getD i 0 - fl2.getD i 0) u2) n) :: tl) fl1 fl2 (i + 1) (ys ++ [.ref q]) := by
  refine ⟨by rw [List.length_append, h.1, List.length_singleton], fun k hk => ?_⟩
  by_cases e : k = i
  · subst e
    exact ⟨q, n, u1, u2, by rw [List.getElem?_append_right (by rw [h.1]; exact Nat.le_refl _), h.1, Nat.sub_self]; rfl, .head _⟩
  · obtain ⟨q', n', v1, v2, h1, h2⟩ := h.2 k (by omega)
    exact ⟨q', n', v1, v2, by rw [List.getElem?_append_left (by rw [h.1]; omega)]; exact h1, .tail _ h2⟩
theorem range_get {n k : Nat} (F : Nat → Int) (hk : k < n) : ((List.range n).map F).getD k 0 = F k := by
  rw [List.getD_eq_getElem?_getD, List.getElem?_map, List.getElem?_range hk]; rfl
theorem off3_tail {I C D : Addr} {r : Addr} {o : Obj} {tl : List (Addr × Obj)} (h : LCg.Off3 I C D tl) (h1 : @Ne Nat r I) (h2 : @Ne Nat r C) (h3 : @Ne Nat r D) : LCg.Off3 I C D ((r, o) :: tl) := ⟨⟨h1, h2, h3⟩, h⟩
theorem sub_ledL {prog : Program} {w : World} {A : Around} {E : Value → Shared → Prop} {s : Shared} {h₀ : Heap} {L : Addr} {news : List (Addr × Obj)} {value slice : Expr} {l : Addr} {its : List Value} {k : Int} {u : Tok} {v : Value} {Q : Value → Shared → Prop} (N : News h₀ L s.heap news) (hm : (l, LCg.lst its) ∈ news) (hv : its[k.toNat]? = some v) (h0 : 0 ≤ k) (hb : k < 2 ^ 63) (h : Q v s)
    (hs : subscripted slice false (.ref l) (.int k u) = operate [.ref l, .int k u] (getItem (.ref l) (.int k u)) := by with_unfolding_all rfl) :
    wpAny (model prog w) A (subscriptTail value slice (.ref l) (.int k u)) Q E s := by
  have hl' : s.heap.IsList l its.toArray := ⟨_, (N _ hm).1, rfl, _, rfl⟩
  exact tail_any hl'.typeIs slot_list_getitem.lookup (wpAny_getItem_list hl' h0 hb (by simpa using hv) h) hs
theorem words_on_LE : True := by
  k_with_none
  (k_with "m cj" => with_reducible first | assumption | exact And.left (by assumption) | exact And.left (And.right (by assumption)) | exact And.right (by assumption) | exact And.left (And.right (And.right (by assumption))) | exact And.right (And.right (by assumption)) | exact And.left (And.right (And.right (And.right (by assumption)))) | exact And.right (And.right (And.right (by assumption))) | exact And.left (r4 (by assumption)) | exact r4 (by assumption) | exact And.left (r4 (And.right (by assumption))) | exact r4 (And.right (by assumption)) | exact And.left (r4 (And.right (And.right (by assumption)))) | exact r4 (And.right (And.right (by assumption))) | exact And.left (r4 (And.right (And.right (And.right (by assumption))))) | exact r4 (And.right (And.right (And.right (by assumption)))) | exact And.left (r4 (r4 (by assumption))) | exact r4 (r4 (by assumption)) | exact And.left (r4 (r4 (And.right (by assumption)))) | exact r4 (r4 (And.right (by assumption))) | exact And.left (r4 (r4 (And.right (And.right (by assumption))))) | exact r4 (r4 (And.right (And.right (by assumption)))) | exact And.left (r4 (r4 (And.right (And.right (And.right (by assumption)))))) | exact r4 (r4 (And.right (And.right (And.right (by assumption))))) | exact And.left (r4 (r4 (r4 (by assumption)))) | exact r4 (r4 (r4 (by assumption))) | exact And.left (r4 (r4 (r4 (And.right (by assumption))))) | exact r4 (r4 (r4 (And.right (by assumption)))) | exact And.left (r4 (r4 (r4 (And.right (And.right (by assumption)))))) | exact r4 (r4 (r4 (And.right (And.right (by assumption))))) | exact And.left (r4 (r4 (r4 (And.right (And.right (And.right (by assumption))))))) | exact r4 (r4 (r4 (And.right (And.right (And.right (by assumption)))))))
  (k_with "m le" => first | exact Nat.le_refl _ | (with_reducible refine le_s ?_; k_extra "m le") | (refine Nat.le_of_lt ?_; k_extra "m cj"))
  (k_with "m off" => first | (with_reducible refine ne_ss ?_; k_extra "m off") | (with_reducible refine ne_ls ?_; k_extra "m le") | (with_reducible refine ne_rs ?_; k_extra "m le"))
  (k_with "m enter" => (k_dflt (refine' enter (by assumption) (by assumption) (by exact Nat.le_of_ble_eq_true rfl) (by k_is) (by k_is) (by exact BindsTo.of_eq rfl) (by exact locs rfl) ?_ (by exact rfl) (by exact rfl) (by exact rfl) (by decide); k_whole; intro _ _ _ _; (try dsimp only); (try k_fold))))
  (k_with "m enterC" => (k_dflt (refine' enterC (by assumption) (by assumption) (by exact Nat.le_of_ble_eq_true rfl) (by k_is) (by k_is) (by exact BindsTo.of_eq rfl) (by exact rfl) (by decide +kernel) ?_ (by exact rfl) (by exact rfl) (by exact rfl); k_whole; intro _ _ _ _ _ _ Y'; k_cells Y'; (try dsimp only); (try k_fold))))
  (k_with "m ints" => first | assumption | (repeat' (first | exact IntsAre.nil | refine IntsAre.cons _ _ ?_)))
  (k_with "m len" => first | omega | (simp only [List.length_cons, List.length_nil, List.length_append, List.length_replicate, List.length_take, List.length_map, List.length_flatten, List.map_replicate, List.sum_replicate_nat, Int.toNat]; omega) | (simp; omega))
  (k_with "CompSrc" => refine Stop.out ?_)
  (k_with "CompEnd" => refine Stop.out ?_)
  (k_with "m range" => (refine Stop.mk ?_; k_dflt (refine LCg.CompSrc.range (by rfl) (by k_asm) (by k_asm) (by assumption) (by decide) (by rfl) (by size_fits) ?_); intro _))
  (k_with "m end" => (refine Stop.mk ?_; refine LCg.CompEnd.intro (by assumption) (by assumption) _ (by kcf_all) (by first | assumption | (simp only [LCg.Off3, and_true]; done) | (simp only [LCg.Off3, and_true]; assumption)) (by first | lcg_src | assumption) ⟨rfl, ?_⟩))
  (k_with "m base" => first | exact base_list (by k_asm) (by assumption) | exact News.isList (by k_asm) (by k_mem))
  (k_with "assign Tuple" => (k_here; (with_reducible show wpAny _ _ (assign (Expr.Tuple _ _ _) _ (Value.ref _)) _ _ _); k_dflt (refine' kun_list (by k_asm) (by k_asm) (by k_extra "m base") (by exact rfl) (by exact rfl) (by exact rfl) ?_; k_whole); intro _ _ _; (try k_sweep)))
  (k_with "subscriptTail Name Name ref int" => k_extra "m sub")
  (k_with "subscriptTail Name Subscript ref int" => k_extra "m sub")
  (k_with "subscriptTail Name Call ref int" => k_extra "m sub")
  (k_with "subscriptTail Attribute Name ref int" => k_extra "m sub")
  (k_with "m sub" => (k_here; (with_reducible show wpAny _ _ (subscriptTail _ _ (Value.ref _) (Value.int _ _)) _ _ _); first | ((with_reducible show wpAny _ _ (subscriptTail _ _ (Value.ref _) (Value.int (Nat.cast _) _)) _ _ _); first | (k_dflt (refine' sub_pairs (by k_asm) (by with_reducible assumption) (by omega) ?_; k_whole); intro _ _ _ _) | (k_dflt (refine' sub_intsN (by k_asm) (by k_mem) (by k_extra "m ints") (by k_extra "m len") (by k_extra "m len") ?_; k_whole); intro _) | (k_dflt (refine' sub_baseN (by k_asm) (by with_reducible assumption) (by k_extra "m ints") (by k_extra "m len") (by k_extra "m len") ?_; k_whole); intro _)) | (k_dflt (refine' sub_ints (by k_asm) (by k_mem) (by k_extra "m ints") (by omega) (by k_extra "m len") (by k_extra "m len") ?_; k_whole); intro _) | (k_dflt (refine' sub_base (by k_asm) (by with_reducible assumption) (by k_extra "m ints") (by omega) (by k_extra "m len") (by k_extra "m len") ?_; k_whole); intro _)))
  (k_with "call ref" => refine Stop.out ?_)
  (k_with "exec While Compare cons nil" => refine Stop.out ?_)
  (k_with "pyIter ref" => refine Stop.out ?_)
  (k_with "exec For Name Call cons nil" => (k_dflt (refine wpAny_For ?_); (try k_unmd); (try k_fold)))
  (k_with "exec For Tuple Subscript cons nil" => (k_dflt (refine wpAny_For ?_); (try k_unmd); (try k_fold)))
  (k_with "exec For Tuple Name cons nil" => (k_dflt (refine wpAny_For ?_); (try k_unmd); (try k_fold)))
  (k_with "binaryOp RShift int int" => (with_reducible refine rsh6 ?_))
  (k_with "binaryOp LShift int int" => (with_reducible refine lsh6 (by k_dflt omega) ?_))
  (k_with "m ret" => ((try k_unmd); (try k_unfold); refine' Ret.intro [_] (by k_asm) (by k_asm) (fun p hp => by rw [List.mem_singleton.mp hp]; exact List.mem_cons_self) ?_))
  (k_with "binaryOp Mult int int" => ((with_reducible refine mul_int ?_ (by k_dflt (first | exact IntMulOk.of_left (intBits_le_64 (by omega) (by omega)) | exact IntMulOk.of_right (intBits_le_64 (by omega) (by omega)))))))
  (k_with "call builtin:max" => ((with_reducible show wpAny _ _ (call (Value.builtin _) [Value.float _ _, Value.float _ _, Value.float _ _]) _ _ _); k_dflt (refine' float_max3 (by exact rfl) (by k_asm) (by k_asm) ?_; k_whole); intro _ _ _ _ _))
  (k_with "call builtin:min" => ((with_reducible show wpAny _ _ (call (Value.builtin _) [Value.float _ _, Value.float _ _, Value.float _ _]) _ _ _); k_dflt (refine' float_min3 (by exact rfl) (by k_asm) (by k_asm) ?_; k_whole); intro _ _ _ _ _))
  (k_with "call builtin:min" => ((with_reducible show wpAny _ _ (call (Value.builtin _) [Value.float _ _, Value.float _ _]) _ _ _); k_dflt (refine' float_min2 (by exact rfl) (by k_asm) (by k_asm) ?_; k_whole); intro _ _ _ _ _))
  (k_with "binaryOp Div float float" => ((with_reducible refine AutoFloatOps.truediv_1 (by k_dflt (first | assumption | decide | exact Nz.out (by assumption) (by assumption))) ?_); (try dsimp only [Made.post])))
  (k_with "binaryOp Mod float float" => ((with_reducible refine AutoFloatOps.mod_1 (by k_dflt (first | assumption | decide | exact Nz.out (by assumption) (by assumption))) ?_); (try dsimp only [Made.post])))
  (k_with "ite" => first | refine ite_t (by assumption) ?_ | refine ite_f (by assumption) ?_ | refine ite_t (Ng.out (by assumption) (by assumption)) ?_)
  (k_with "eval ListComp" => ((with_reducible refine' ListComp_if (by with_unfolding_all rfl) (by with_unfolding_all rfl) (by k_dflt decide) ?_ (by (intro _; with_unfolding_all rfl))); (try k_unmd); (try k_fold)))
  (k_with "exec Assign cons ListComp" => ((with_reducible refine' Assign_if (by with_unfolding_all rfl) (by with_unfolding_all rfl) (by with_unfolding_all rfl) (by k_dflt decide) ?_ (by (intro _; with_unfolding_all rfl))); (try k_unmd); (try k_fold)))
  (k_with "IfGo" => refine Stop.out ?_)
  (k_with "IfTurn" => refine Stop.out ?_)
  (k_with "IfDone" => refine Stop.out ?_)
  (k_with "ForEnd2" => refine Stop.out ?_)
  (k_with "call builtin:max" => ((with_reducible show wpAny _ _ (call (Value.builtin _) [Value.ref _]) _ _ _); k_dflt (refine' max_list_N (by exact rfl) (by k_asm) (by k_asm) (by k_extra "m base") (by k_extra "m ints") (by (first | assumption | omega | exact ne_dec (by assumption))) ?_; k_whole); intro _ _ _ _ _ _ _ _))
  (k_with "m ledger" => (refine Stop.mk ?_; k_dflt (refine LCg.CompSrc.ledger (by rfl) (by k_asm) (by k_asm) (by k_mem) (by size_fits) ?_); intro _))
  (k_with "getMethod ref" => ((with_reducible show wpAny _ _ (getMethod (Value.ref _) (Str.ofString "sub") _) _ _ _); refine Stop.out ?_))
  (k_with "m tl" => first | assumption | (refine' List.Mem.tail _ ?_; k_extra "m tl") | exact (by assumption : ∀ q : Addr × Obj, q ∈ (_ : List (Addr × Obj)) → q ∈ (_ : List (Addr × Obj))) _ (by assumption))
  (k_with "m inc" => first | exact List.forall_mem_nil _ | (refine' List.forall_mem_cons.mpr ⟨(by k_mem), (by k_extra "m inc")⟩) | (intro _ _; k_extra "m tl"))
  (k_with "SrcLP" => refine Stop.out ?_)
  (k_with "subscriptTail Name Name ref int" => (k_dflt (refine' sub_ledL (by k_asm) (by k_mem) (by with_reducible assumption) (by omega) (by omega) ?_; k_whole)))
  trivial
local macro_rules | `(tactic| k_all) => `(tactic| assumption)
local macro_rules | `(tactic| k_mem) => `(tactic| with_reducible assumption)
set_option maxRecDepth 100000 in
set_option maxHeartbeats 4000000 in
theorem seg_e {w : World} {p : Program} {loose : List Str} {mean : ExcName → Option Value} {mg mb : Str → Option Value} {fr : Option (List Env)} {gd : Option (List Code)} {s : Shared} {h₀ : Heap} {L : Addr} {m₀ : Str → Option Value} {Q : Flow → Shared → Prop} {E : Value → Shared → Prop}
  (X : (Mine.KK w.params).In h₀) (T : Top p loose mean mg mb h₀) {body : List Stmt} {scope : Scope} (hb : ((lawBody w.params).drop 16).take 4 = body) (hs : lawScope w.params = scope)
  (o3 o4 o7 o8 o9 o10 : Obj) (r1 r2 lr lp : Addr) (rv pv v1 v2 : List Value) (rn pn n1 n2 : Nat) (prs : List (Addr × Obj)) (rooms fl1 fl2 : List Int) (f g : Int) (tf tg : Tok)
  (F : Fr h₀ L s.heap (fun y => if y = Str.ofString "second" then some (.int g tg) else m₀ y)) (N : News h₀ L s.heap ((r2, W.listOf v2.toArray n2) :: (r1, W.listOf v1.toArray n1) :: (lp, W.listOf pv.toArray pn) :: (lr, W.listOf rv.toArray rn) :: (L + 1 + 1 + 1 + 1 + 1 + 1 + 1 + 1 + 1 + 1, o10) :: (L + 1 + 1 + 1 + 1 + 1 + 1 + 1 + 1 + 1, o9) :: (L + 1 + 1 + 1 + 1 + 1 + 1 + 1 + 1, o8) :: (L + 1 + 1 + 1 + 1 + 1 + 1 + 1, o7) :: (L + 1 + 1 + 1 + 1, o4) :: (L + 1 + 1 + 1, o3) :: prs))
  (e3 : o3.data = .cell (some (.ref lr))) (e4 : o4.data = .cell (some (.ref lp))) (e7 : o7.data = .cell (some (.int f tf))) (e8 : o8.data = .cell (some (.ref r1))) (e9 : o9.data = .cell (some (.ref r2))) (e10 : o10.data = .cell none)
  (hlr : OffC L lr) (hlp : OffC L lp) (hpr : ∀ p ∈ prs, OffC L p.1) (hr1 : @Ne Nat r1 (L + 1 + 1 + 1 + 1 + 1 + 1 + 1 + 1 + 1 + 1)) (hr2 : @Ne Nat r2 (L + 1 + 1 + 1 + 1 + 1 + 1 + 1 + 1 + 1 + 1))
  (hrv : IntsAre rv rooms) (hrl : rooms.length = 8) (hpv : PairsL prs pv) (H : Firsts rooms f g)
  (hi1 : IntsAre v1 fl1) (hi2 : IntsAre v2 fl2) (hl1 : fl1.length = 8) (hl2 : fl2.length = 8) (hb1 : ∀ k, k < 8 → -(rooms.getD k 0) ≤ fl1.getD k 0 ∧ fl1.getD k 0 ≤ rooms.getD k 0) (hb2 : ∀ k, k < 8 → -(rooms.getD k 0) ≤ fl2.getD k 0 ∧ fl2.getD k 0 ≤ rooms.getD k 0)
  (ho1 : ∀ v, v < 5 → outF fl1 (v : Nat) = ([f, -f, g, -g, 0] : List Int).getD v 0) (ho2 : ∀ v, v < 5 → outF fl2 (v : Nat) = ([f, -f, -g, g, 0] : List Int).getD v 0)
  (next : ∀ h tk, (∀ b o, h₀.get? b = some o → h.get? b = some o) → Q (.ret (.bool true)) { s with heap := h, toks := tk }) :
  wpAny (model PySem.Challenge.rw_tl0015_01.row.prog w) ((Ac 0 fr gd).deeper (lawEnv scope L)) (execs body (lawEnv scope L)) Q E s := by
  have z10 : ∀ p ∈ prs, @Ne Nat p.1 (L + 1 + 1 + 1 + 1 + 1 + 1 + 1 + 1 + 1 + 1) := fun p hp => (hpr p hp).2.2.2.2.2.2.2.2.2
  unfold OffC at hlr hlp
  (conv at hb => lhs; whnf)
  (conv at hs => lhs; whnf)
  subst hb
  subst hs
  revert X; k_fill; intro X
  (try k_unmd); (try k_fold)
  k_steps
  k_extra "m range"
  refine comp_inv (n := 8) (fun i ys nw => ∃ tl, nw = ((r2, W.listOf v2.toArray n2) :: (r1, W.listOf v1.toArray n1) :: (lp, W.listOf pv.toArray pn) :: (lr, W.listOf rv.toArray rn) :: (L + 1 + 1 + 1 + 1 + 1 + 1 + 1 + 1 + 1 + 1, o10) :: (L + 1 + 1 + 1 + 1 + 1 + 1 + 1 + 1 + 1, o9) :: (L + 1 + 1 + 1 + 1 + 1 + 1 + 1 + 1, o8) :: (L + 1 + 1 + 1 + 1 + 1 + 1 + 1, o7) :: (L + 1 + 1 + 1 + 1, o4) :: (L + 1 + 1 + 1, o3) :: tl) ∧ (∀ p ∈ prs, p ∈ tl) ∧ (∀ p ∈ tl, @Ne Nat p.1 (L + 1 + 1 + 1 + 1 + 1 + 1 + 1 + 1 + 1 + 1)) ∧ GoodsIn tl fl1 fl2 i ys) ⟨prs, rfl, fun _ h => h, z10, rfl, fun k hk => absurd hk (Nat.not_lt_zero _)⟩ ?_ ?_
  · rintro i ys nw v I oI C oC D m₂ h tk E' hi ⟨tl, rfl, hpt, hz, hg⟩ ⟨t, rfl⟩ hC hx F N off ne
    rw [Int.zero_add] at hx
    have hoff := off
    dsimp only [LCg.Off3] at off
    have b1 := hb1 i hi; have b2 := hb2 i hi; have b3 := H.rb i hi
    (try k_unmd); (try k_fold)
    k_steps
    refine Stop.mk (call_by (by k_asm) (by k_asm) (goods_c (X.keeps (Fr.keep (by k_asm))) (T.keeps (Fr.keep (by k_asm))) (fl1.getD i 0) (fl2.getD i 0) _ _ (by omega) (by omega) (by omega) (by omega)) ?_)
    rintro v own h' tk' ⟨r, n, u1, u2, rfl, rfl⟩ F1 N1 hk1 hf1
    have hne := news_ne N (hf1 _ (.head _))
    simp only [List.forall_mem_cons] at hne
    dsimp only [List.cons_append, List.nil_append] at N1
    (try k_unmd); (try k_fold)
    k_steps
    obtain ⟨a1, a2, a3, a4, a5, a6, a7, a8, a9, a10, a11⟩ := off
    refine Stop.mk (LCg.CompEnd.intro F1 N1 ((r2, W.listOf v2.toArray n2) :: (r1, W.listOf v1.toArray n1) :: (lp, W.listOf pv.toArray pn) :: (lr, W.listOf rv.toArray rn) :: (L + 1 + 1 + 1 + 1 + 1 + 1 + 1 + 1 + 1 + 1, o10) :: (L + 1 + 1 + 1 + 1 + 1 + 1 + 1 + 1 + 1, o9) :: (L + 1 + 1 + 1 + 1 + 1 + 1 + 1 + 1, o8) :: (L + 1 + 1 + 1 + 1 + 1 + 1 + 1, o7) :: (L + 1 + 1 + 1 + 1, o4) :: (L + 1 + 1 + 1, o3) :: (r, tup2 (.int (fl1.getD i 0 + fl2.getD i 0) u1) (.int (fl1.getD i 0 - fl2.getD i 0) u2) n) :: tl) ?_ ?_ trivial ⟨_, rfl, fun p hp => .tail _ (hpt p hp), ?_, hg.more⟩)
    · k_extra "m inc"
    · dsimp only [LCg.Off3]
      exact ⟨a1, a2, a3, a4, a5, a6, a7, a8, a9, a10, ⟨hne.1.symm, hne.2.1.symm, hne.2.2.1.symm⟩, a11⟩
    · exact List.forall_mem_cons.mpr ⟨hne.2.2.2.2.2.2.2.1.symm, hz⟩
  rintro gv nw ⟨tl, rfl, hpt, hz, hg⟩
  unfold LCg.FinE
  intro lg h1 tk1 F1 N1 of1
  dsimp only [LCg.Off1] at of1
  (try k_unmd); (try k_fold)
  k_steps
  rename_i qkA ekA hA o10b FA NA dA10 hB tkB tB uB vB R8 F8 N8 K8
  refine Stop.mk (IfGo.range (n := 8) rfl R8 (by decide) (by decide) (by decide) (by decide) rfl rfl F8 N8 (fun _ ys => ys = []) rfl ?_ ?_)
  · rintro k t' I' oI' C oC D m₂ ys s₂ E2 hk rfl hC hx' F2 N2 off ne
    dsimp only [LCg.Off3] at off
    obtain ⟨q, n, u1, u2, hq1, hq2⟩ := hg.2 k hk
    have hq1' : gv[(Int.toNat (k : Nat))]? = some (Value.ref q) := hq1
    have hq2' : List.Mem (q, tup2 (.int (fl1.getD k 0 + fl2.getD k 0) u1) (.int (fl1.getD k 0 - fl2.getD k 0) u2) n) tl := hq2
    have hqt : IsTup s₂.heap q #[.int (fl1.getD k 0 + fl2.getD k 0) u1, .int (fl1.getD k 0 - fl2.getD k 0) u2] := ⟨_, (N2 (q, tup2 (.int (fl1.getD k 0 + fl2.getD k 0) u1) (.int (fl1.getD k 0 - fl2.getD k 0) u2) n) (by k_extra "m tl")).1, rfl, n, rfl⟩
    have b1 := hb1 k hk; have b2 := hb2 k hk; have b3 := H.rb k hk
    (try k_unmd); (try k_fold)
    k_steps
    refine Stop.mk (IfTurn.intro (by k_asm) (by k_asm) ?_ ?_)
    · intro hb
      exfalso
      have hb' := of_decide_eq_true hb
      omega
    · intro hb
      rfl
  intro g2
  refine rr_none ?_
  rintro D h tk ys F N off rfl
  simp only [List.forall_mem_cons] at off
  (try k_unmd); (try k_fold)
  k_steps
  rename_i qkB ekB lz hC FC NC llz
  refine Stop.mk (LCp.SrcLP.ledger (its := gv.toArray) rfl FC NC (by exact .tail _ (.tail _ (.head _))) (by rw [List.size_toArray, hg.1]; decide) ?_)
  intro gX
  refine compP_inv (fun i ys => IntsAre ys ((List.range i).map fun k => fl1.getD k 0 + fl2.getD k 0)) .nil ?_ ?_
  · intro i zs v hi hJ hv
    have hi8 : i < 8 := by rw [List.size_toArray, hg.1] at hi; exact hi
    obtain ⟨q, n, u1, u2, hq1, hq2⟩ := hg.2 i hi8
    have hv' : v = .ref q := by
      rw [List.getElem?_toArray, hq1] at hv
      exact (Option.some.inj hv).symm
    refine ⟨q, tup2 (.int (fl1.getD i 0 + fl2.getD i 0) u1) (.int (fl1.getD i 0 - fl2.getD i 0) u2) n, _, _, n, hv', by k_extra "m tl", rfl, rfl, ?_⟩
    intro I oI C oC DD m₂ h tk E' hC hx hx2 F N off ne
    dsimp only [LCg.Off3] at off
    (try k_unmd); (try k_fold)
    k_steps
    k_extra "m end"
    rw [List.range_succ, List.map_append]
    exact hJ.append (.cons _ _ .nil)
  intro as has
  rw [List.size_toArray, hg.1] at has
  unfold LCg.FinE
  intro la h tk F N o1
  dsimp only [LCg.Off1] at o1
  (try k_unmd); (try k_fold)
  k_steps
  rename_i qkD ekD lw hD FD ND lld
  have hpn : ∀ p ∈ prs, p ∈ tl := hpt
  refine Stop.mk (call_by (by k_asm) (by k_asm) (div_c (X.keeps (Fr.keep (by k_asm))) (T.keeps (Fr.keep (by k_asm))) la lp lw as [_, _, _, _, _] ((List.range 8).map fun k => fl1.getD k 0 + fl2.getD k 0) [0, 1, 2, 3, 4] ⟨_, (ND (la, LCg.lst as) (.tail _ (.head _))).1, rfl, _, rfl⟩ has (by rw [List.length_map, List.length_range])
    (hpv.at (n := pn) ND (by k_mem) (fun p hp => by have := hpn p hp; k_extra "m tl")) ⟨_, (ND (lw, W.listOf #[_, _, _, _, _] 0) (.head _)).1, rfl, 0, rfl⟩ (.cons _ _ (.cons _ _ (.cons _ _ (.cons _ _ (.cons _ _ .nil))))) rfl (by decide)
    (fun k hk => by rw [range_get _ hk]; have b1 := hb1 k hk; have b2 := hb2 k hk; have b3 := H.rb k hk; omega) f H.f0 H.twelve.1 (sum_first ho1 ho2 fun k hk => by rw [range_get _ hk])) ?_)
  rintro v own h' tk' ⟨rt, nt, w1, w2, rfl, rfl⟩ F1 N1 hk1 hf1
  have hne := news_ne ND (hf1 _ (.head _))
  simp only [List.forall_mem_cons] at hne
  dsimp only [List.cons_append, List.nil_append] at N1
  (try k_unmd); (try k_fold)
  k_steps
  rename_i qkE ekE lq hE FC NC llq
  refine Stop.mk (LCp.SrcLP.ledger (its := gv.toArray) rfl FC NC (by exact .tail _ (.tail _ (.tail _ (.tail _ (.tail _ (.tail _ (.head _))))))) (by rw [List.size_toArray, hg.1]; decide) ?_)
  intro gX
  refine compP_inv (fun i ys => IntsAre ys ((List.range i).map fun k => fl1.getD k 0 - fl2.getD k 0)) .nil ?_ ?_
  · intro i zs v hi hJ hv
    have hi8 : i < 8 := by rw [List.size_toArray, hg.1] at hi; exact hi
    obtain ⟨q, n, u1, u2, hq1, hq2⟩ := hg.2 i hi8
    have hv' : v = .ref q := by
      rw [List.getElem?_toArray, hq1] at hv
      exact (Option.some.inj hv).symm
    refine ⟨q, tup2 (.int (fl1.getD i 0 + fl2.getD i 0) u1) (.int (fl1.getD i 0 - fl2.getD i 0) u2) n, _, _, n, hv', by k_extra "m tl", rfl, rfl, ?_⟩
    intro I oI C oC DD m₂ h tk E' hC hx hx2 F N off ne
    dsimp only [LCg.Off3] at off
    (try k_unmd); (try k_fold)
    k_steps
    k_extra "m end"
    rw [List.range_succ, List.map_append]
    exact hJ.append (.cons _ _ .nil)
  intro as has
  rw [List.size_toArray, hg.1] at has
  unfold LCg.FinE
  intro la h tk F N o1
  dsimp only [LCg.Off1] at o1
  (try k_unmd); (try k_fold)
  k_steps
  rename_i qkD ekD lw hD FD ND lld
  have hpn : ∀ p ∈ prs, p ∈ tl := hpt
  refine Stop.mk (call_by (by k_asm) (by k_asm) (div_c (X.keeps (Fr.keep (by k_asm))) (T.keeps (Fr.keep (by k_asm))) la lp lw as [_, _, _, _, _] ((List.range 8).map fun k => fl1.getD k 0 - fl2.getD k 0) [2, 3, 0, 1, 4] ⟨_, (ND (la, LCg.lst as) (.tail _ (.head _))).1, rfl, _, rfl⟩ has (by rw [List.length_map, List.length_range])
    (hpv.at (n := pn) ND (by k_mem) (fun p hp => by have := hpn p hp; k_extra "m tl")) ⟨_, (ND (lw, W.listOf #[_, _, _, _, _] 0) (.head _)).1, rfl, 0, rfl⟩ (.cons _ _ (.cons _ _ (.cons _ _ (.cons _ _ (.cons _ _ .nil))))) rfl (by decide)
    (fun k hk => by rw [range_get _ hk]; have b1 := hb1 k hk; have b2 := hb2 k hk; have b3 := H.rb k hk; omega) g H.g0 H.twelve.2 (sum_second ho1 ho2 fun k hk => by rw [range_get _ hk])) ?_)
  rintro v own h' tk' ⟨rt, nt, w1, w2, rfl, rfl⟩ F1 N1 hk1 hf1
  have hne := news_ne ND (hf1 _ (.head _))
  simp only [List.forall_mem_cons] at hne
  dsimp only [List.cons_append, List.nil_append] at N1
  (try k_unmd); (try k_fold)
  k_steps
  exact next _ _ (Fr.keep (by k_asm))
end
end
section
open PySem PySem.W PyProof.Rows PySem.Spec PySem.Calls
section
theorem cellsK {cm : Str → Option Value} {n : Str} {c : Addr} {l : List (Str × Addr)} {cells : List (Addr × Obj)} {P : List (Addr × Obj) → Prop} (Y : CellsAre cm ((n, c) :: l) cells)
    (h : ∀ o r, o.data = .cell (cm n) → CellsAre cm l r → P ((c, o) :: r)) : P cells := by
  cases Y with | cons d Y => exact h _ _ d Y
theorem cells0 {cm : Str → Option Value} {cells : List (Addr × Obj)} {P : List (Addr × Obj) → Prop} (Y : CellsAre cm [] cells) (h : P []) : P cells := by
  cases Y with | nil => exact h
theorem cells10 {cm : Str → Option Value} {n1 n2 n3 n4 n5 n6 n7 n8 n9 n10 : Str} {c1 c2 c3 c4 c5 c6 c7 c8 c9 c10 : Addr} {cells : List (Addr × Obj)} {P : List (Addr × Obj) → Prop}
    (Y : CellsAre cm [(n10, c10), (n9, c9), (n8, c8), (n7, c7), (n6, c6), (n5, c5), (n4, c4), (n3, c3), (n2, c2), (n1, c1)] cells)
    (h : ∀ o1 o2 o3 o4 o5 o6 o7 o8 o9 o10, o1.data = .cell (cm n1) → o2.data = .cell (cm n2) → o3.data = .cell (cm n3) → o4.data = .cell (cm n4) → o5.data = .cell (cm n5) → o6.data = .cell (cm n6) → o7.data = .cell (cm n7) → o8.data = .cell (cm n8) → o9.data = .cell (cm n9) → o10.data = .cell (cm n10) →
      P [(c10, o10), (c9, o9), (c8, o8), (c7, o7), (c6, o6), (c5, o5), (c4, o4), (c3, o3), (c2, o2), (c1, o1)]) : P cells := by
  refine cellsK (P := P) Y ?_
  clear Y; intro o10 r10 d10 Y
  refine cellsK (P := fun r => P ((c10, o10) :: r)) Y ?_
  clear Y; intro o9 r9 d9 Y
  refine cellsK (P := fun r => P ((c10, o10) :: (c9, o9) :: r)) Y ?_
  clear Y; intro o8 r8 d8 Y
  refine cellsK (P := fun r => P ((c10, o10) :: (c9, o9) :: (c8, o8) :: r)) Y ?_
  clear Y; intro o7 r7 d7 Y
  refine cellsK (P := fun r => P ((c10, o10) :: (c9, o9) :: (c8, o8) :: (c7, o7) :: r)) Y ?_
  clear Y; intro o6 r6 d6 Y
  refine cellsK (P := fun r => P ((c10, o10) :: (c9, o9) :: (c8, o8) :: (c7, o7) :: (c6, o6) :: r)) Y ?_
  clear Y; intro o5 r5 d5 Y
  refine cellsK (P := fun r => P ((c10, o10) :: (c9, o9) :: (c8, o8) :: (c7, o7) :: (c6, o6) :: (c5, o5) :: r)) Y ?_
  clear Y; intro o4 r4 d4 Y
  refine cellsK (P := fun r => P ((c10, o10) :: (c9, o9) :: (c8, o8) :: (c7, o7) :: (c6, o6) :: (c5, o5) :: (c4, o4) :: r)) Y ?_
  clear Y; intro o3 r3 d3 Y
  refine cellsK (P := fun r => P ((c10, o10) :: (c9, o9) :: (c8, o8) :: (c7, o7) :: (c6, o6) :: (c5, o5) :: (c4, o4) :: (c3, o3) :: r)) Y ?_
  clear Y; intro o2 r2 d2 Y
  refine cellsK (P := fun r => P ((c10, o10) :: (c9, o9) :: (c8, o8) :: (c7, o7) :: (c6, o6) :: (c5, o5) :: (c4, o4) :: (c3, o3) :: (c2, o2) :: r)) Y ?_
  clear Y; intro o1 r1 d1 Y
  exact cells0 (P := fun r => P ((c10, o10) :: (c9, o9) :: (c8, o8) :: (c7, o7) :: (c6, o6) :: (c5, o5) :: (c4, o4) :: (c3, o3) :: (c2, o2) :: (c1, o1) :: r)) Y (h o1 o2 o3 o4 o5 o6 o7 o8 o9 o10 d1 d2 d3 d4 d5 d6 d7 d8 d9 d10)
theorem room_le : ∀ d, d < 4 → (0 : Int) ≤ (roomAt d : Int) ∧ (roomAt d : Int) ≤ 4 := by decide
theorem rooms_b (ds : List Int) (k : Nat) (hk : k < 8) : 0 ≤ (roomsL ds).getD k 0 ∧ (roomsL ds).getD k 0 ≤ 4 := by
  unfold roomsL
  rw [range_get _ hk]
  exact room_le _ (dAt_lt ds k)
local macro_rules | `(tactic| walk_at "m pad0") => `(tactic| skip)
theorem words_on_LL : True := by
  k_with_none
  (k_with "m cj" => with_reducible first | assumption | exact And.left (by assumption) | exact And.left (And.right (by assumption)) | exact And.right (by assumption) | exact And.left (And.right (And.right (by assumption))) | exact And.right (And.right (by assumption)) | exact And.left (And.right (And.right (And.right (by assumption)))) | exact And.right (And.right (And.right (by assumption))) | exact And.left (r4 (by assumption)) | exact r4 (by assumption) | exact And.left (r4 (And.right (by assumption))) | exact r4 (And.right (by assumption)) | exact And.left (r4 (And.right (And.right (by assumption)))) | exact r4 (And.right (And.right (by assumption))) | exact And.left (r4 (And.right (And.right (And.right (by assumption))))) | exact r4 (And.right (And.right (And.right (by assumption)))) | exact And.left (r4 (r4 (by assumption))) | exact r4 (r4 (by assumption)) | exact And.left (r4 (r4 (And.right (by assumption)))) | exact r4 (r4 (And.right (by assumption))) | exact And.left (r4 (r4 (And.right (And.right (by assumption))))) | exact r4 (r4 (And.right (And.right (by assumption)))) | exact And.left (r4 (r4 (And.right (And.right (And.right (by assumption)))))) | exact r4 (r4 (And.right (And.right (And.right (by assumption))))) | exact And.left (r4 (r4 (r4 (by assumption)))) | exact r4 (r4 (r4 (by assumption))) | exact And.left (r4 (r4 (r4 (And.right (by assumption))))) | exact r4 (r4 (r4 (And.right (by assumption)))) | exact And.left (r4 (r4 (r4 (And.right (And.right (by assumption)))))) | exact r4 (r4 (r4 (And.right (And.right (by assumption))))) | exact And.left (r4 (r4 (r4 (And.right (And.right (And.right (by assumption))))))) | exact r4 (r4 (r4 (And.right (And.right (And.right (by assumption)))))))
  (k_with "m le" => first | exact Nat.le_refl _ | (with_reducible refine le_s ?_; k_extra "m le") | (refine Nat.le_of_lt ?_; k_extra "m cj"))
  (k_with "m off" => first | (with_reducible refine ne_ss ?_; k_extra "m off") | (with_reducible refine ne_ls ?_; k_extra "m le") | (with_reducible refine ne_rs ?_; k_extra "m le"))
  (k_with "m enter" => (k_dflt (refine' enter (by assumption) (by assumption) (by exact Nat.le_of_ble_eq_true rfl) (by k_is) (by k_is) (by exact BindsTo.of_eq rfl) (by exact locs rfl) ?_ (by exact rfl) (by exact rfl) (by exact rfl) (by decide); k_whole; intro _ _ _ _; (try dsimp only); (try k_fold))))
  (k_with "m enterC" => (k_dflt (refine' enterC (by assumption) (by assumption) (by exact Nat.le_of_ble_eq_true rfl) (by k_is) (by k_is) (by exact BindsTo.of_eq rfl) (by exact rfl) (by decide +kernel) ?_ (by exact rfl) (by exact rfl) (by exact rfl); k_whole; intro _ _ _ _ _ _ Y'; k_cells Y'; (try dsimp only); (try k_fold))))
  (k_with "m ints" => first | assumption | (repeat' (first | exact IntsAre.nil | refine IntsAre.cons _ _ ?_)))
  (k_with "m len" => first | omega | (simp only [List.length_cons, List.length_nil, List.length_append, List.length_replicate, List.length_take, List.length_map, List.length_flatten, List.map_replicate, List.sum_replicate_nat, Int.toNat]; omega) | (simp; omega))
  (k_with "CompSrc" => refine Stop.out ?_)
  (k_with "CompEnd" => refine Stop.out ?_)
  (k_with "m range" => (refine Stop.mk ?_; k_dflt (refine LCg.CompSrc.range (by rfl) (by k_asm) (by k_asm) (by assumption) (by decide) (by rfl) (by size_fits) ?_); intro _))
  (k_with "m end" => (refine Stop.mk ?_; refine LCg.CompEnd.intro (by assumption) (by assumption) _ (by kcf_all) (by first | assumption | (simp only [LCg.Off3, and_true]; done) | (simp only [LCg.Off3, and_true]; assumption)) (by first | lcg_src | assumption) ⟨rfl, ?_⟩))
  (k_with "m base" => first | exact base_list (by k_asm) (by assumption) | exact News.isList (by k_asm) (by k_mem))
  (k_with "assign Tuple" => (k_here; (with_reducible show wpAny _ _ (assign (Expr.Tuple _ _ _) _ (Value.ref _)) _ _ _); k_dflt (refine' kun_list (by k_asm) (by k_asm) (by k_extra "m base") (by exact rfl) (by exact rfl) (by exact rfl) ?_; k_whole); intro _ _ _; (try k_sweep)))
  (k_with "subscriptTail Name Name ref int" => k_extra "m sub")
  (k_with "subscriptTail Name Subscript ref int" => k_extra "m sub")
  (k_with "subscriptTail Name Call ref int" => k_extra "m sub")
  (k_with "subscriptTail Attribute Name ref int" => k_extra "m sub")
  (k_with "m sub" => (k_here; (with_reducible show wpAny _ _ (subscriptTail _ _ (Value.ref _) (Value.int _ _)) _ _ _); first | ((with_reducible show wpAny _ _ (subscriptTail _ _ (Value.ref _) (Value.int (Nat.cast _) _)) _ _ _); first | (k_dflt (refine' sub_pairs (by k_asm) (by with_reducible assumption) (by omega) ?_; k_whole); intro _ _ _ _) | (k_dflt (refine' sub_intsN (by k_asm) (by k_mem) (by k_extra "m ints") (by k_extra "m len") (by k_extra "m len") ?_; k_whole); intro _) | (k_dflt (refine' sub_baseN (by k_asm) (by with_reducible assumption) (by k_extra "m ints") (by k_extra "m len") (by k_extra "m len") ?_; k_whole); intro _)) | (k_dflt (refine' sub_ints (by k_asm) (by k_mem) (by k_extra "m ints") (by omega) (by k_extra "m len") (by k_extra "m len") ?_; k_whole); intro _) | (k_dflt (refine' sub_base (by k_asm) (by with_reducible assumption) (by k_extra "m ints") (by omega) (by k_extra "m len") (by k_extra "m len") ?_; k_whole); intro _)))
  (k_with "call ref" => refine Stop.out ?_)
  (k_with "exec While Compare cons nil" => refine Stop.out ?_)
  (k_with "pyIter ref" => refine Stop.out ?_)
  (k_with "exec For Name Call cons nil" => (k_dflt (refine wpAny_For ?_); (try k_unmd); (try k_fold)))
  (k_with "exec For Tuple Subscript cons nil" => (k_dflt (refine wpAny_For ?_); (try k_unmd); (try k_fold)))
  (k_with "exec For Tuple Name cons nil" => (k_dflt (refine wpAny_For ?_); (try k_unmd); (try k_fold)))
  (k_with "binaryOp RShift int int" => (with_reducible refine rsh6 ?_))
  (k_with "binaryOp LShift int int" => (with_reducible refine lsh6 (by k_dflt omega) ?_))
  (k_with "m ret" => ((try k_unmd); (try k_unfold); refine' Ret.intro [_] (by k_asm) (by k_asm) (fun p hp => by rw [List.mem_singleton.mp hp]; exact List.mem_cons_self) ?_))
  (k_with "binaryOp Mult int int" => ((with_reducible refine mul_int ?_ (by k_dflt (first | exact IntMulOk.of_left (intBits_le_64 (by omega) (by omega)) | exact IntMulOk.of_right (intBits_le_64 (by omega) (by omega)))))))
  (k_with "call builtin:max" => ((with_reducible show wpAny _ _ (call (Value.builtin _) [Value.float _ _, Value.float _ _, Value.float _ _]) _ _ _); k_dflt (refine' float_max3 (by exact rfl) (by k_asm) (by k_asm) ?_; k_whole); intro _ _ _ _ _))
  (k_with "call builtin:min" => ((with_reducible show wpAny _ _ (call (Value.builtin _) [Value.float _ _, Value.float _ _, Value.float _ _]) _ _ _); k_dflt (refine' float_min3 (by exact rfl) (by k_asm) (by k_asm) ?_; k_whole); intro _ _ _ _ _))
  (k_with "call builtin:min" => ((with_reducible show wpAny _ _ (call (Value.builtin _) [Value.float _ _, Value.float _ _]) _ _ _); k_dflt (refine' float_min2 (by exact rfl) (by k_asm) (by k_asm) ?_; k_whole); intro _ _ _ _ _))
  (k_with "binaryOp Div float float" => ((with_reducible refine AutoFloatOps.truediv_1 (by k_dflt (first | assumption | decide | exact Nz.out (by assumption) (by assumption))) ?_); (try dsimp only [Made.post])))
  (k_with "binaryOp Mod float float" => ((with_reducible refine AutoFloatOps.mod_1 (by k_dflt (first | assumption | decide | exact Nz.out (by assumption) (by assumption))) ?_); (try dsimp only [Made.post])))
  (k_with "ite" => first | refine ite_t (by assumption) ?_ | refine ite_f (by assumption) ?_ | refine ite_t (Ng.out (by assumption) (by assumption)) ?_)
  (k_with "eval ListComp" => ((with_reducible refine' ListComp_if (by with_unfolding_all rfl) (by with_unfolding_all rfl) (by k_dflt decide) ?_ (by (intro _; with_unfolding_all rfl))); (try k_unmd); (try k_fold)))
  (k_with "exec Assign cons ListComp" => ((with_reducible refine' Assign_if (by with_unfolding_all rfl) (by with_unfolding_all rfl) (by with_unfolding_all rfl) (by k_dflt decide) ?_ (by (intro _; with_unfolding_all rfl))); (try k_unmd); (try k_fold)))
  (k_with "IfGo" => refine Stop.out ?_)
  (k_with "IfTurn" => refine Stop.out ?_)
  (k_with "IfDone" => refine Stop.out ?_)
  (k_with "ForEnd2" => refine Stop.out ?_)
  (k_with "call builtin:max" => ((with_reducible show wpAny _ _ (call (Value.builtin _) [Value.ref _]) _ _ _); k_dflt (refine' max_list_N (by exact rfl) (by k_asm) (by k_asm) (by k_extra "m base") (by k_extra "m ints") (by (first | assumption | omega | exact ne_dec (by assumption))) ?_; k_whole); intro _ _ _ _ _ _ _ _))
  (k_with "m ledger" => (refine Stop.mk ?_; k_dflt (refine LCg.CompSrc.ledger (by rfl) (by k_asm) (by k_asm) (by k_mem) (by size_fits) ?_); intro _))
  (k_with "getMethod ref" => ((with_reducible show wpAny _ _ (getMethod (Value.ref _) (Str.ofString "sub") _) _ _ _); refine Stop.out ?_))
  (k_with "m tl" => first | assumption | (refine' List.Mem.tail _ ?_; k_extra "m tl") | exact (by assumption : ∀ q : Addr × Obj, q ∈ (_ : List (Addr × Obj)) → q ∈ (_ : List (Addr × Obj))) _ (by assumption))
  (k_with "m inc" => first | exact List.forall_mem_nil _ | (refine' List.forall_mem_cons.mpr ⟨(by k_mem), (by k_extra "m inc")⟩) | (intro _ _; k_extra "m tl"))
  trivial
set_option maxRecDepth 100000 in
set_option maxHeartbeats 4000000 in
theorem law_c {w : World} {p : Program} {loose : List Str} {mean : ExcName → Option Value} {mg mb : Str → Option Value} {fr : Option (List Env)} {gd : Option (List Code)} {s : Shared}
  (X : (Mine.KK w.params).In s.heap) (T : Top p loose mean mg mb s.heap) (l : Addr) (vs : List Value) (script : List Int) (hl : s.heap.IsList l vs.toArray) (hsi : IntsAre vs script) (hlen : script.length ≤ 63) :
  codeAny (model PySem.Challenge.rw_tl0015_01.row.prog w) (Ac 0 fr gd) (.call (.ref 128) ⟨[.ref l], []⟩) (Ret s fun v own => v = .bool true) s := by
  revert X; k_fill; intro X
  k_dflt (refine' enterC ?k1 ?k2 ?k3 ?k4 ?k5 ?k6 ?kB ?kD ?_ ?c1 ?c2 ?c3; (case k1 => assumption); (case k2 => assumption); (case k3 => exact Nat.le_of_ble_eq_true rfl); (case k4 => k_is); (case k5 => k_is); (case k6 => exact BindsTo.of_eq rfl); (case kB => exact rfl); (case kD => decide +kernel); (case c1 => exact rfl); (case c2 => exact rfl); (case c3 => exact rfl); k_whole)
  intro L h0 tk0 cells F N Y
  revert N
  refine cells10 (P := fun cells => News s.heap L h0 cells → _) Y ?_
  clear Y
  intro o1 o2 o3 o4 o5 o6 o7 o8 o9 o10 (e1 : o1.data = .cell none) (e2 : o2.data = .cell none) (e3 : o3.data = .cell none) (e4 : o4.data = .cell none) (e5 : o5.data = .cell none) (e6 : o6.data = .cell none) (e7 : o7.data = .cell none) (e8 : o8.data = .cell none) (e9 : o9.data = .cell none) (e10 : o10.data = .cell none) N
  have F0 := fr_name (x := Str.ofString "script") (v := .ref l) F rfl
  show wpAny _ _ (execs ((((lawBody w.params).drop 0).take 3) ++ ((((lawBody w.params).drop 3).take 2) ++ ((((lawBody w.params).drop 5).take 3) ++ ((((lawBody w.params).drop 8).take 4) ++ ((((lawBody w.params).drop 12).take 4) ++ (((lawBody w.params).drop 16).take 4)))))) (lawEnv (lawScope w.params) L)) _ _ _
  refine wpAny_execs_append (seg_a X T rfl rfl o1 o2 o3 o4 o5 o6 o7 o8 o9 o10 l vs script hl hsi hlen F0 N e1 e2 ?_)
  intro h1 t1 m1 o1' ld dn dv ds tm F1 N1 f1 hdv hdl hdb q3
  refine wpAny_execs_append (seg_a2 X T rfl rfl o1' o3 o4 o5 o6 o7 o8 o9 o10 ld dn dv ds tm F1 N1 ?_)
  intro h2 t2 m2 lh hv lr0 rv0 tl F2 N2 hhv q1 q2 hz hg
  refine wpAny_execs_append (seg_b X T rfl rfl o1' o3 o4 o5 o6 o7 o8 o9 o10 ld lh lr0 dn dv hv rv0 ds tl F2 N2 f1 e3 e4 hdv hdl hdb hhv q1 q2 q3 hz hg ?_)
  intro h3 t3 m3 o3' o4' lr lp rv pv prs F3 N3 f3 f4 qr qp qs hrv hPL
  have hrl : (roomsL ds).length = 8 := by unfold roomsL; rw [List.length_map, List.length_range]
  refine wpAny_execs_append (seg_c X T rfl rfl o1' o3' o4' o5 o6 o7 o8 o9 o10 ld lr lp dv rv pv dn _ 0 prs ds (roomsL ds) F3 N3 f1 f3 f4 e5 e6 e7 q3 qr qp qs hdv hdl (hdb _ (by rw [List.getD_eq_getElem?_getD, List.getElem?_eq_getElem (by omega)]; exact List.getElem_mem _)) hrv hrl (rooms_b ds) hPL ?_)
  intro h4 t4 f g o7' tf tg F4 N4 f7 H
  refine wpAny_execs_append (seg_d X T rfl rfl o3' o4' o7' o8 o9 o10 lr lp rv pv _ 0 prs (roomsL ds) f g tf tg F4 N4 f3 f4 f7 e8 e9 qr qp qs hrv hrl hPL H ?_)
  intro h5 t5 m5 o8' o9' r1 r2 v1 v2 n1 n2 fl1 fl2 F5 N5 f8 f9 hi1 hi2 hl1 hl2 hb1 hb2 ho1 ho2 hr
  refine seg_e X T rfl rfl o3' o4' o7' o8' o9' o10 r1 r2 lr lp rv pv v1 v2 _ 0 n1 n2 prs (roomsL ds) fl1 fl2 f g tf tg F5 N5 f3 f4 f7 f8 f9 e10 qr qp qs hr.1 hr.2 hrv hrl hPL H hi1 hi2 hl1 hl2 hb1 hb2 ho1 ho2 ?_
  intro h6 t6 hk6
  exact ⟨.bool true, [], h6, t6, rfl, rfl, hk6, (fun _ h => nomatch h), rfl⟩
end
set_option maxRecDepth 100000 in
set_option maxHeartbeats 8000000 in
theorem law_holds : PySem.Challenge.rw_tl0015_01.Holds := by
  w_on
  refine holds_law Mine.said fun said => ?_
  refine PySem.W.holds_open (q := Mine.view) (loose := Mine.loose) (Xt := fun s => xlAt Mine.view [] s && recOk (RowW.records PySem.Challenge.rw_tl0015_01.row.toRowW) s) (XP := XL Mine.view []) (Yf := (kHook Mine.KK Mine.KA (fun _ => by kernel_rfl)).obs) (Ya := (kHook Mine.KK Mine.KA (fun _ => by kernel_rfl)).val) (YP := (kHook Mine.KK Mine.KA (fun _ => by kernel_rfl)).says) (N := 4224) Mine.top_left (kHook Mine.KK Mine.KA (fun _ => by kernel_rfl)).of (kHook Mine.KK Mine.KA (fun _ => by kernel_rfl)).keeps
    (fun s e => xl_of s (Bool.and_eq_true_iff.mp e).1) XL.keeps (by rfl) (by rfl) (by rfl) (fun s e => recFacts_of (Bool.and_eq_true_iff.mp e).2) (by rfl) said Mine.ok_all Mine.bare Mine.promised ?hc
  k_fill
  intro w s₀ s₁ mg mb G Y fa o pm cd doc dV kV ho hd hcd hD hmg hg args vals as hpre hlay hrd hwl hlo
  have KX := kIn_of Y
  refine Ground.open G ?_
  intro T B D TE TW
  have hfa : fa = 128 := by
    have h1 := PySem.W.mg_of KX (Top.g T) (show nsIn (Mine.KK w.params) mainGlobals (Str.ofString "law") = some (some (.ref 128)) by kernel_rfl)
    have h2 : some (Value.ref fa) = some (Value.ref 128) := hmg.symm.trans h1
    cases h2; rfl
  subst hfa
  clear ho hd hcd hD
  wrow_args hpre hlay hrd hwl hlo
  refine enter_call ?_
  rename_i scr hs hlay0 hL0 hr0 hl2 as4 as3 l vs as0 hL ra wl r0 hI hr1 hc1 hc2
  have hc : scr.length ≤ 63 := by omega
  refine codeAny_mono (Mine.law_c KX T l vs scr hL hI hc) ?_
  rintro r s' ⟨v, own, h', tk, rfl, rfl, hk, -, rfl⟩
  refine GoodW.toG ⟨.inl ⟨.bool true, .bool true, [], rfl, fun _ => ?_, .bool true, ?_, fun _ => ⟨List.nodup_nil, fun _ h => nomatch h⟩⟩, hk, rfl, hg⟩
  · rfl
  · show (match WTm.value Challenge.rw_tl0015_01.row.records Challenge.rw_tl0015_01.row.post _ with | some (WData.bool true) => true | _ => false) = true
    conv in Challenge.rw_tl0015_01.row.post => whnf
    simp only [WTm.value, PySem.W.same_self]
end
end Mine
set_option maxRecDepth 100000 in
set_option maxHeartbeats 8000000 in
theorem PySem.Challenge.cw_tl0015_01_holds : PySem.Challenge.rw_tl0015_01.Holds := by
  exact Mine.law_holds
