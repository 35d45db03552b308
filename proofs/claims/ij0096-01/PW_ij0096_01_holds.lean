import PyProof.Rows.All
import Wide.All
import OpenK.AllK
import Wide.FinOn
import PySem.Challenge.RW_ij0096_01
open PySem PySem.W PyProof.Rows
set_option Elab.async false
section
open PySem PySem.W PyProof.Rows PySem.Spec PySem.Calls
set_option maxRecDepth 100000
namespace Mine
/-- the text's statements, by their place -/
def stmtAt (n : Nat) : Stmt := PySem.Challenge.pw_ij0096_01.main.body.getD n (.Pass ⟨0, 0, 0, 0⟩)
def bodyOf : Stmt → List Stmt
  | .FunctionDef _ _ body _ _ _ _ _ _ _ => body
  | _ => []
def scopeOf : Stmt → Scope
  | .FunctionDef _ _ _ _ _ _ scope _ _ _ => scope
  | _ => default
def nameOf : Stmt → Str
  | .FunctionDef n _ _ _ _ _ _ _ _ _ => n
  | _ => Str.empty
def argsOf : Stmt → Arguments
  | .FunctionDef _ a _ _ _ _ _ _ _ _ => a
  | _ => ⟨[], [], none, [], [], none, []⟩
def posOf : Stmt → Pos
  | .FunctionDef _ _ _ _ _ _ _ _ _ p => p
  | _ => ⟨0, 0, 0, 0⟩
/-- a function as the top leaves it -/
noncomputable def fnO (i : Nat) (nm : Str) (kwd pm code : Value) : Obj := { cls := .type "function", data := .func { name := nm, qualname := nm, params := argsOf (stmtAt i), body := .stmts (bodyOf (stmtAt i)), scope := scopeOf (stmtAt i), globals := 3, closure := [], defaults := .none, kwdefaults := kwd, pyModule := pm, code := code } }
noncomputable def ob3 (P : Params) : Obj := { cls := Value.type "dict", data := Data.dict #[{ hash := PyData.keyHash P (Str.ofString "__name__"), key := Value.str (Str.ofString "__name__") 165, val := Value.str (Str.ofString "law_ij0096_01") 552 }, { hash := PyData.keyHash P (Str.ofString "__doc__"), key := Value.str (Str.ofString "__doc__") 166, val := Value.none }, { hash := PyData.keyHash P (Str.ofString "__package__"), key := Value.str (Str.ofString "__package__") 167, val := Value.none }, { hash := PyData.keyHash P (Str.ofString "__loader__"), key := Value.str (Str.ofString "__loader__") 168, val := Value.builtin "__main__.__loader__#opaque" }, { hash := PyData.keyHash P (Str.ofString "__spec__"), key := Value.str (Str.ofString "__spec__") 169, val := Value.none }, { hash := PyData.keyHash P (Str.ofString "__annotations__"), key := Value.str (Str.ofString "__annotations__") 170, val := Value.ref 6 }, { hash := PyData.keyHash P (Str.ofString "__builtins__"), key := Value.str (Str.ofString "__builtins__") 171, val := Value.ref 4 }, { hash := PyData.keyHash P (Str.ofString "__file__"), key := Value.str (Str.ofString "__file__") 173, val := Value.str (Str.ofString "/claim/cut.py") 172 }, { hash := PyData.keyHash P (Str.ofString "__cached__"), key := Value.str (Str.ofString "__cached__") 174, val := Value.none }, { hash := PyData.keyHash P (Str.ofString "_sre"), key := Value.str (Str.ofString "_sre") 275, val := Value.ref 12 }, { hash := PyData.keyHash P (Str.ofString "_deduplicate"), key := Value.str (Str.ofString "_deduplicate") 292, val := Value.ref 39 }, { hash := PyData.keyHash P (Str.ofString "_deduplicate_unhashable"), key := Value.str (Str.ofString "_deduplicate_unhashable") 301, val := Value.ref 46 }, { hash := PyData.keyHash P (Str.ofString "_compare_args_orderless"), key := Value.str (Str.ofString "_compare_args_orderless") 313, val := Value.ref 53 }, { hash := PyData.keyHash P (Str.ofString "_twin_re_1"), key := Value.str (Str.ofString "_twin_re_1") 353, val := Value.ref 58 }, { hash := PyData.keyHash P (Str.ofString "translate"), key := Value.str (Str.ofString "translate") 362, val := Value.ref 65 }, { hash := PyData.keyHash P (Str.ofString "_special_chars_map"), key := Value.str (Str.ofString "_special_chars_map") 510, val := Value.ref 67 }, { hash := PyData.keyHash P (Str.ofString "escape"), key := Value.str (Str.ofString "escape") 517, val := Value.ref 77 }, { hash := PyData.keyHash P (Str.ofString "_translate"), key := Value.str (Str.ofString "_translate") 538, val := Value.ref 84 }, { hash := PyData.keyHash P (Str.ofString "_join_translated_parts"), key := Value.str (Str.ofString "_join_translated_parts") 551, val := Value.ref 91 }, { hash := PyData.keyHash P (Str.ofString "_law_patterns"), key := Value.str (Str.ofString "_law_patterns") 562, val := Value.ref 98 }, { hash := PyData.keyHash P (Str.ofString "_law_pieces"), key := Value.str (Str.ofString "_law_pieces") 568, val := Value.ref 103 }, { hash := PyData.keyHash P (Str.ofString "_law_text"), key := Value.str (Str.ofString "_law_text") 574, val := Value.ref 108 }, { hash := PyData.keyHash P (Str.ofString "_law_refused"), key := Value.str (Str.ofString "_law_refused") 581, val := Value.ref 115 }, { hash := PyData.keyHash P (Str.ofString "law"), key := Value.str (Str.ofString "law") 587, val := Value.ref 120 }] 24 }
noncomputable def ob6 : Obj := { cls := Value.type "dict", data := Data.dict #[] }
noncomputable def ob11 (P : Params) : Obj := { cls := Value.type "dict", data := Data.dict #[{ hash := PyData.keyHash P (Str.ofString "__name__"), key := Value.str (Str.ofString "__name__") 247, val := Value.str (Str.ofString "_sre") 246 }, { hash := PyData.keyHash P (Str.ofString "__doc__"), key := Value.str (Str.ofString "__doc__") 248, val := Value.none }, { hash := PyData.keyHash P (Str.ofString "__package__"), key := Value.str (Str.ofString "__package__") 250, val := Value.str (Str.ofString "") 249 }, { hash := PyData.keyHash P (Str.ofString "__loader__"), key := Value.str (Str.ofString "__loader__") 251, val := Value.builtin "off-the-table:_sre.__loader__:shared#opaque" }, { hash := PyData.keyHash P (Str.ofString "__spec__"), key := Value.str (Str.ofString "__spec__") 252, val := Value.builtin "off-the-table:_sre.__spec__:shared#opaque" }, { hash := PyData.keyHash P (Str.ofString "compile"), key := Value.str (Str.ofString "compile") 253, val := Value.builtin "_sre.compile" }, { hash := PyData.keyHash P (Str.ofString "template"), key := Value.str (Str.ofString "template") 254, val := Value.builtin "off-the-table:_sre.template:shared#opaque" }, { hash := PyData.keyHash P (Str.ofString "getcodesize"), key := Value.str (Str.ofString "getcodesize") 255, val := Value.builtin "off-the-table:_sre.getcodesize:shared#opaque" }, { hash := PyData.keyHash P (Str.ofString "ascii_iscased"), key := Value.str (Str.ofString "ascii_iscased") 256, val := Value.builtin "off-the-table:_sre.ascii_iscased:shared#opaque" }, { hash := PyData.keyHash P (Str.ofString "unicode_iscased"), key := Value.str (Str.ofString "unicode_iscased") 257, val := Value.builtin "off-the-table:_sre.unicode_iscased:shared#opaque" }, { hash := PyData.keyHash P (Str.ofString "ascii_tolower"), key := Value.str (Str.ofString "ascii_tolower") 258, val := Value.builtin "off-the-table:_sre.ascii_tolower:shared#opaque" }, { hash := PyData.keyHash P (Str.ofString "unicode_tolower"), key := Value.str (Str.ofString "unicode_tolower") 259, val := Value.builtin "off-the-table:_sre.unicode_tolower:shared#opaque" }, { hash := PyData.keyHash P (Str.ofString "MAGIC"), key := Value.str (Str.ofString "MAGIC") 261, val := Value.int 20230612 260 }, { hash := PyData.keyHash P (Str.ofString "CODESIZE"), key := Value.str (Str.ofString "CODESIZE") 263, val := Value.int 4 262 }, { hash := PyData.keyHash P (Str.ofString "MAXREPEAT"), key := Value.str (Str.ofString "MAXREPEAT") 265, val := Value.int 4294967295 264 }, { hash := PyData.keyHash P (Str.ofString "MAXGROUPS"), key := Value.str (Str.ofString "MAXGROUPS") 267, val := Value.int 1073741823 266 }, { hash := PyData.keyHash P (Str.ofString "copyright"), key := Value.str (Str.ofString "copyright") 269, val := Value.str (Str.ofString " SRE 2.2.2 Copyright (c) 1997-2002 by Secret Labs AB ") 268 }] 17 }
noncomputable def ob12 : Obj := { cls := Value.type "module", dict := some 11 }
noncomputable def ob32 (P : Params) : Obj := { cls := Value.type "dict", data := Data.dict #[{ hash := PyData.keyHash P (Str.ofString "unhashable_fallback"), key := Value.str (Str.ofString "unhashable_fallback") 284, val := Value.bool false }] 1 }
noncomputable def ob33 : Obj := { cls := Value.type "tuple", data := Data.seq #[] }
noncomputable def ob35 : Obj := { cls := Value.type "tuple", data := Data.seq #[Value.str (Str.ofString "params") 288, Value.str (Str.ofString "unhashable_fallback") 289] }
noncomputable def ob36 : Obj := { cls := Value.type "tuple", data := Data.seq #[] }
noncomputable def ob38 : Obj := { cls := Value.type "code", data := Data.fields #[Value.str (Str.ofString "_deduplicate") 285, Value.str (Str.ofString "_deduplicate") 286, Value.str (Str.ofString "/claim/cut.py") 287, Value.int 3 0, Value.int 1 0, Value.int 0 0, Value.int 1 0, Value.int 3 0, Value.ref 33, Value.bool true, Value.int 276 0, Value.ref 34, Value.none, Value.ref 35, Value.ref 36, Value.ref 37, Value.int 290 0, Value.int 3 0, Value.str (Str.ofString "/claim/cut.py") 291] }
noncomputable def ob39 : Obj := fnO 2 (Str.ofString "_deduplicate") (Value.ref 32) (Value.str (Str.ofString "cpy313.typing") 282) (Value.ref 38)
noncomputable def ob40 : Obj := { cls := Value.type "tuple", data := Data.seq #[] }
noncomputable def ob42 : Obj := { cls := Value.type "tuple", data := Data.seq #[Value.str (Str.ofString "unhashable_params") 296, Value.str (Str.ofString "new_unhashable") 297, Value.str (Str.ofString "t") 298] }
noncomputable def ob43 : Obj := { cls := Value.type "tuple", data := Data.seq #[] }
noncomputable def ob45 : Obj := { cls := Value.type "code", data := Data.fields #[Value.str (Str.ofString "_deduplicate_unhashable") 293, Value.str (Str.ofString "_deduplicate_unhashable") 294, Value.str (Str.ofString "/claim/cut.py") 295, Value.int 10 0, Value.int 1 0, Value.int 0 0, Value.int 0 0, Value.int 3 0, Value.ref 40, Value.bool true, Value.int 276 0, Value.ref 41, Value.none, Value.ref 42, Value.ref 43, Value.ref 44, Value.int 299 0, Value.int 10 0, Value.str (Str.ofString "/claim/cut.py") 300] }
noncomputable def ob46 : Obj := fnO 3 (Str.ofString "_deduplicate_unhashable") (Value.none) (Value.str (Str.ofString "cpy313.typing") 282) (Value.ref 45)
noncomputable def ob47 : Obj := { cls := Value.type "tuple", data := Data.seq #[] }
noncomputable def ob49 : Obj := { cls := Value.type "tuple", data := Data.seq #[Value.str (Str.ofString "first_args") 305, Value.str (Str.ofString "second_args") 306, Value.str (Str.ofString "first_unhashable") 307, Value.str (Str.ofString "second_unhashable") 308, Value.str (Str.ofString "t") 309, Value.str (Str.ofString "elem") 310] }
noncomputable def ob50 : Obj := { cls := Value.type "tuple", data := Data.seq #[] }
noncomputable def ob52 : Obj := { cls := Value.type "code", data := Data.fields #[Value.str (Str.ofString "_compare_args_orderless") 302, Value.str (Str.ofString "_compare_args_orderless") 303, Value.str (Str.ofString "/claim/cut.py") 304, Value.int 16 0, Value.int 2 0, Value.int 0 0, Value.int 0 0, Value.int 3 0, Value.ref 47, Value.bool true, Value.int 276 0, Value.ref 48, Value.none, Value.ref 49, Value.ref 50, Value.ref 51, Value.int 311 0, Value.int 16 0, Value.str (Str.ofString "/claim/cut.py") 312] }
noncomputable def ob53 : Obj := fnO 4 (Str.ofString "_compare_args_orderless") (Value.none) (Value.str (Str.ofString "cpy313.typing") 282) (Value.ref 52)
noncomputable def ob57 : Obj := { cls := Value.type "tuple", data := Data.seq #[Value.int 14 0, Value.int 14 0, Value.int 4 0, Value.int 1 0, Value.int 1 0, Value.int 9 0, Value.int 0 0, Value.int 64 0, Value.int 0 0, Value.int 1342177280 0, Value.int 0 0, Value.int 0 0, Value.int 0 0, Value.int 0 0, Value.int 0 0, Value.int 17 0, Value.int 0 0, Value.int 13 0, Value.int 11 0, Value.int 9 0, Value.int 0 0, Value.int 64 0, Value.int 0 0, Value.int 1342177280 0, Value.int 0 0, Value.int 0 0, Value.int 0 0, Value.int 0 0, Value.int 0 0, Value.int 17 0, Value.int 1 0, Value.int 1 0] }
noncomputable def ob58 : Obj := { cls := Value.type "re.Pattern", data := Data.fields #[Value.str (Str.ofString "([&~|])") 317, Value.int 32 352, Value.int 1 0, Value.none, Value.none, Value.ref 57, Value.int 0 0] }
noncomputable def ob59 : Obj := { cls := Value.type "tuple", data := Data.seq #[] }
noncomputable def ob61 : Obj := { cls := Value.type "tuple", data := Data.seq #[Value.str (Str.ofString "pat") 357, Value.str (Str.ofString "STAR") 358, Value.str (Str.ofString "parts") 359] }
noncomputable def ob62 : Obj := { cls := Value.type "tuple", data := Data.seq #[] }
noncomputable def ob64 : Obj := { cls := Value.type "code", data := Data.fields #[Value.str (Str.ofString "translate") 354, Value.str (Str.ofString "translate") 355, Value.str (Str.ofString "/claim/cut.py") 356, Value.int 28 0, Value.int 1 0, Value.int 0 0, Value.int 0 0, Value.int 3 0, Value.ref 59, Value.bool true, Value.int 276 0, Value.ref 60, Value.none, Value.ref 61, Value.ref 62, Value.ref 63, Value.int 360 0, Value.int 28 0, Value.str (Str.ofString "/claim/cut.py") 361] }
noncomputable def ob65 : Obj := fnO 7 (Str.ofString "translate") (Value.none) (Value.str (Str.ofString "cpy313.fnmatch") 314) (Value.ref 64)
noncomputable def ob67 : Obj := { cls := Value.type "dict", data := Data.dict #[{ hash := 40, key := Value.int 40 366, val := Value.str (Str.ofString "\\(") 370 }, { hash := 41, key := Value.int 41 372, val := Value.str (Str.ofString "\\)") 376 }, { hash := 91, key := Value.int 91 378, val := Value.str (Str.ofString "\\[") 382 }, { hash := 93, key := Value.int 93 384, val := Value.str (Str.ofString "\\]") 388 }, { hash := 123, key := Value.int 123 390, val := Value.str (Str.ofString "\\{") 394 }, { hash := 125, key := Value.int 125 396, val := Value.str (Str.ofString "\\}") 400 }, { hash := 63, key := Value.int 63 402, val := Value.str (Str.ofString "\\?") 406 }, { hash := 42, key := Value.int 42 408, val := Value.str (Str.ofString "\\*") 412 }, { hash := 43, key := Value.int 43 414, val := Value.str (Str.ofString "\\+") 418 }, { hash := 45, key := Value.int 45 420, val := Value.str (Str.ofString "\\-") 424 }, { hash := 124, key := Value.int 124 426, val := Value.str (Str.ofString "\\|") 430 }, { hash := 94, key := Value.int 94 432, val := Value.str (Str.ofString "\\^") 436 }, { hash := 36, key := Value.int 36 438, val := Value.str (Str.ofString "\\$") 442 }, { hash := 92, key := Value.int 92 444, val := Value.str (Str.ofString "\\\\") 448 }, { hash := 46, key := Value.int 46 450, val := Value.str (Str.ofString "\\.") 454 }, { hash := 38, key := Value.int 38 456, val := Value.str (Str.ofString "\\&") 460 }, { hash := 126, key := Value.int 126 462, val := Value.str (Str.ofString "\\~") 466 }, { hash := 35, key := Value.int 35 468, val := Value.str (Str.ofString "\\#") 472 }, { hash := 32, key := Value.int 32 474, val := Value.str (Str.ofString "\\ ") 478 }, { hash := 9, key := Value.int 9 480, val := Value.str (Str.ofString "\\\t") 484 }, { hash := 10, key := Value.int 10 486, val := Value.str (Str.ofString "\\\n") 490 }, { hash := 13, key := Value.int 13 492, val := Value.str (Str.ofString "\\\x0d") 496 }, { hash := 11, key := Value.int 11 498, val := Value.str (Str.ofString "\\\x0b") 502 }, { hash := 12, key := Value.int 12 504, val := Value.str (Str.ofString "\\\x0c") 508 }] 24 }
noncomputable def ob71 : Obj := { cls := Value.type "tuple", data := Data.seq #[] }
noncomputable def ob73 : Obj := { cls := Value.type "tuple", data := Data.seq #[Value.str (Str.ofString "pattern") 514] }
noncomputable def ob74 : Obj := { cls := Value.type "tuple", data := Data.seq #[] }
noncomputable def ob76 : Obj := { cls := Value.type "code", data := Data.fields #[Value.str (Str.ofString "escape") 511, Value.str (Str.ofString "escape") 512, Value.str (Str.ofString "/claim/cut.py") 513, Value.int 34 0, Value.int 1 0, Value.int 0 0, Value.int 0 0, Value.int 3 0, Value.ref 71, Value.bool true, Value.int 276 0, Value.ref 72, Value.none, Value.ref 73, Value.ref 74, Value.ref 75, Value.int 515 0, Value.int 34 0, Value.str (Str.ofString "/claim/cut.py") 516] }
noncomputable def ob77 : Obj := fnO 10 (Str.ofString "escape") (Value.none) (Value.str (Str.ofString "re") 363) (Value.ref 76)
noncomputable def ob78 : Obj := { cls := Value.type "tuple", data := Data.seq #[] }
noncomputable def ob80 : Obj := { cls := Value.type "tuple", data := Data.seq #[Value.str (Str.ofString "pat") 523, Value.str (Str.ofString "STAR") 524, Value.str (Str.ofString "QUESTION_MARK") 525, Value.str (Str.ofString "res") 526, Value.str (Str.ofString "add") 527, Value.str (Str.ofString "i") 528, Value.str (Str.ofString "n") 529, Value.str (Str.ofString "c") 530, Value.str (Str.ofString "j") 531, Value.str (Str.ofString "stuff") 532, Value.str (Str.ofString "chunks") 533, Value.str (Str.ofString "k") 534, Value.str (Str.ofString "chunk") 535] }
noncomputable def ob81 : Obj := { cls := Value.type "tuple", data := Data.seq #[] }
noncomputable def ob83 : Obj := { cls := Value.type "code", data := Data.fields #[Value.str (Str.ofString "_translate") 520, Value.str (Str.ofString "_translate") 521, Value.str (Str.ofString "/claim/cut.py") 522, Value.int 41 0, Value.int 3 0, Value.int 0 0, Value.int 0 0, Value.int 3 0, Value.ref 78, Value.bool true, Value.int 276 0, Value.ref 79, Value.none, Value.ref 80, Value.ref 81, Value.ref 82, Value.int 536 0, Value.int 41 0, Value.str (Str.ofString "/claim/cut.py") 537] }
noncomputable def ob84 : Obj := fnO 12 (Str.ofString "_translate") (Value.none) (Value.str (Str.ofString "cpy313.fnmatch") 518) (Value.ref 83)
noncomputable def ob85 : Obj := { cls := Value.type "tuple", data := Data.seq #[] }
noncomputable def ob87 : Obj := { cls := Value.type "tuple", data := Data.seq #[Value.str (Str.ofString "inp") 542, Value.str (Str.ofString "STAR") 543, Value.str (Str.ofString "res") 544, Value.str (Str.ofString "add") 545, Value.str (Str.ofString "i") 546, Value.str (Str.ofString "n") 547, Value.str (Str.ofString "fixed") 548] }
noncomputable def ob88 : Obj := { cls := Value.type "tuple", data := Data.seq #[] }
noncomputable def ob90 : Obj := { cls := Value.type "code", data := Data.fields #[Value.str (Str.ofString "_join_translated_parts") 539, Value.str (Str.ofString "_join_translated_parts") 540, Value.str (Str.ofString "/claim/cut.py") 541, Value.int 103 0, Value.int 2 0, Value.int 0 0, Value.int 0 0, Value.int 3 0, Value.ref 85, Value.bool true, Value.int 276 0, Value.ref 86, Value.none, Value.ref 87, Value.ref 88, Value.ref 89, Value.int 549 0, Value.int 103 0, Value.str (Str.ofString "/claim/cut.py") 550] }
noncomputable def ob91 : Obj := fnO 13 (Str.ofString "_join_translated_parts") (Value.none) (Value.str (Str.ofString "cpy313.fnmatch") 518) (Value.ref 90)
noncomputable def ob92 : Obj := { cls := Value.type "tuple", data := Data.seq #[] }
noncomputable def ob94 : Obj := { cls := Value.type "tuple", data := Data.seq #[Value.str (Str.ofString "numbers") 557, Value.str (Str.ofString "patterns") 558, Value.str (Str.ofString "x") 559] }
noncomputable def ob95 : Obj := { cls := Value.type "tuple", data := Data.seq #[] }
noncomputable def ob97 : Obj := { cls := Value.type "code", data := Data.fields #[Value.str (Str.ofString "_law_patterns") 554, Value.str (Str.ofString "_law_patterns") 555, Value.str (Str.ofString "/claim/cut.py") 556, Value.int 131 0, Value.int 1 0, Value.int 0 0, Value.int 0 0, Value.int 3 0, Value.ref 92, Value.bool true, Value.int 276 0, Value.ref 93, Value.none, Value.ref 94, Value.ref 95, Value.ref 96, Value.int 560 0, Value.int 131 0, Value.str (Str.ofString "/claim/cut.py") 561] }
noncomputable def ob98 : Obj := fnO 15 (Str.ofString "_law_patterns") (Value.none) (Value.str (Str.ofString "law_ij0096_01") 552) (Value.ref 97)
noncomputable def ob99 : Obj := { cls := Value.type "tuple", data := Data.seq #[] }
noncomputable def ob102 : Obj := { cls := Value.type "code", data := Data.fields #[Value.str (Str.ofString "_law_pieces") 563, Value.str (Str.ofString "_law_pieces") 564, Value.str (Str.ofString "/claim/cut.py") 565, Value.int 139 0, Value.int 1 0, Value.int 0 0, Value.int 0 0, Value.int 3 0, Value.ref 99, Value.bool true, Value.int 276 0, Value.ref 100, Value.none, Value.none, Value.none, Value.ref 101, Value.int 566 0, Value.int 139 0, Value.str (Str.ofString "/claim/cut.py") 567] }
noncomputable def ob103 : Obj := fnO 16 (Str.ofString "_law_pieces") (Value.none) (Value.str (Str.ofString "law_ij0096_01") 552) (Value.ref 102)
noncomputable def ob104 : Obj := { cls := Value.type "tuple", data := Data.seq #[] }
noncomputable def ob107 : Obj := { cls := Value.type "code", data := Data.fields #[Value.str (Str.ofString "_law_text") 569, Value.str (Str.ofString "_law_text") 570, Value.str (Str.ofString "/claim/cut.py") 571, Value.int 142 0, Value.int 1 0, Value.int 0 0, Value.int 0 0, Value.int 3 0, Value.ref 104, Value.bool true, Value.int 276 0, Value.ref 105, Value.none, Value.none, Value.none, Value.ref 106, Value.int 572 0, Value.int 142 0, Value.str (Str.ofString "/claim/cut.py") 573] }
noncomputable def ob108 : Obj := fnO 17 (Str.ofString "_law_text") (Value.none) (Value.str (Str.ofString "law_ij0096_01") 552) (Value.ref 107)
noncomputable def ob109 : Obj := { cls := Value.type "tuple", data := Data.seq #[] }
noncomputable def ob111 : Obj := { cls := Value.type "tuple", data := Data.seq #[Value.str (Str.ofString "rows") 578] }
noncomputable def ob112 : Obj := { cls := Value.type "tuple", data := Data.seq #[] }
noncomputable def ob114 : Obj := { cls := Value.type "code", data := Data.fields #[Value.str (Str.ofString "_law_refused") 575, Value.str (Str.ofString "_law_refused") 576, Value.str (Str.ofString "/claim/cut.py") 577, Value.int 151 0, Value.int 1 0, Value.int 0 0, Value.int 0 0, Value.int 3 0, Value.ref 109, Value.bool true, Value.int 276 0, Value.ref 110, Value.none, Value.ref 111, Value.ref 112, Value.ref 113, Value.int 579 0, Value.int 151 0, Value.str (Str.ofString "/claim/cut.py") 580] }
noncomputable def ob115 : Obj := fnO 18 (Str.ofString "_law_refused") (Value.none) (Value.str (Str.ofString "law_ij0096_01") 552) (Value.ref 114)
noncomputable def ob116 : Obj := { cls := Value.type "tuple", data := Data.seq #[] }
noncomputable def ob119 : Obj := { cls := Value.type "code", data := Data.fields #[Value.str (Str.ofString "law") 582, Value.str (Str.ofString "law") 583, Value.str (Str.ofString "/claim/cut.py") 584, Value.int 157 0, Value.int 1 0, Value.int 0 0, Value.int 0 0, Value.int 3 0, Value.ref 116, Value.bool true, Value.int 276 0, Value.ref 117, Value.none, Value.none, Value.none, Value.ref 118, Value.int 585 0, Value.int 157 0, Value.str (Str.ofString "/claim/cut.py") 586] }
noncomputable def ob120 : Obj := fnO 19 (Str.ofString "law") (Value.none) (Value.str (Str.ofString "law_ij0096_01") 552) (Value.ref 119)
/-- the part of the heap that the top leaves, as far as it is read -/
noncomputable def heapK (P : Params) : Frag := (nat_lit 3, ob3 P) :: (nat_lit 6, ob6) :: (nat_lit 11, ob11 P) :: (nat_lit 12, ob12) :: (nat_lit 32, ob32 P) :: (nat_lit 33, ob33) :: (nat_lit 35, ob35) :: (nat_lit 36, ob36) :: (nat_lit 38, ob38) :: (nat_lit 39, ob39) :: (nat_lit 40, ob40) :: (nat_lit 42, ob42) :: (nat_lit 43, ob43) :: (nat_lit 45, ob45) :: (nat_lit 46, ob46) :: (nat_lit 47, ob47) :: (nat_lit 49, ob49) :: (nat_lit 50, ob50) :: (nat_lit 52, ob52) :: (nat_lit 53, ob53) :: (nat_lit 57, ob57) :: (nat_lit 58, ob58) :: (nat_lit 59, ob59) :: (nat_lit 61, ob61) :: (nat_lit 62, ob62) :: (nat_lit 64, ob64) :: (nat_lit 65, ob65) :: (nat_lit 67, ob67) :: (nat_lit 71, ob71) :: (nat_lit 73, ob73) :: (nat_lit 74, ob74) :: (nat_lit 76, ob76) :: (nat_lit 77, ob77) :: (nat_lit 78, ob78) :: (nat_lit 80, ob80) :: (nat_lit 81, ob81) :: (nat_lit 83, ob83) :: (nat_lit 84, ob84) :: (nat_lit 85, ob85) :: (nat_lit 87, ob87) :: (nat_lit 88, ob88) :: (nat_lit 90, ob90) :: (nat_lit 91, ob91) :: (nat_lit 92, ob92) :: (nat_lit 94, ob94) :: (nat_lit 95, ob95) :: (nat_lit 97, ob97) :: (nat_lit 98, ob98) :: (nat_lit 99, ob99) :: (nat_lit 102, ob102) :: (nat_lit 103, ob103) :: (nat_lit 104, ob104) :: (nat_lit 107, ob107) :: (nat_lit 108, ob108) :: (nat_lit 109, ob109) :: (nat_lit 111, ob111) :: (nat_lit 112, ob112) :: (nat_lit 114, ob114) :: (nat_lit 115, ob115) :: (nat_lit 116, ob116) :: (nat_lit 119, ob119) :: (nat_lit 120, ob120) :: []
def heapAs : List Addr := nat_lit 3 :: nat_lit 6 :: nat_lit 11 :: nat_lit 12 :: nat_lit 32 :: nat_lit 33 :: nat_lit 35 :: nat_lit 36 :: nat_lit 38 :: nat_lit 39 :: nat_lit 40 :: nat_lit 42 :: nat_lit 43 :: nat_lit 45 :: nat_lit 46 :: nat_lit 47 :: nat_lit 49 :: nat_lit 50 :: nat_lit 52 :: nat_lit 53 :: nat_lit 57 :: nat_lit 58 :: nat_lit 59 :: nat_lit 61 :: nat_lit 62 :: nat_lit 64 :: nat_lit 65 :: nat_lit 67 :: nat_lit 71 :: nat_lit 73 :: nat_lit 74 :: nat_lit 76 :: nat_lit 77 :: nat_lit 78 :: nat_lit 80 :: nat_lit 81 :: nat_lit 83 :: nat_lit 84 :: nat_lit 85 :: nat_lit 87 :: nat_lit 88 :: nat_lit 90 :: nat_lit 91 :: nat_lit 92 :: nat_lit 94 :: nat_lit 95 :: nat_lit 97 :: nat_lit 98 :: nat_lit 99 :: nat_lit 102 :: nat_lit 103 :: nat_lit 104 :: nat_lit 107 :: nat_lit 108 :: nat_lit 109 :: nat_lit 111 :: nat_lit 112 :: nat_lit 114 :: nat_lit 115 :: nat_lit 116 :: nat_lit 119 :: nat_lit 120 :: []
end Mine
end
section
open PySem PySem.W PyProof.Rows PySem.Spec PySem.Calls
set_option maxRecDepth 100000
namespace Mine
abbrev theRow : OpenRow := PySem.Challenge.rw_ij0096_01.row
noncomputable def viewP : Program := view theRow.prog [0, 3, 4, 6, 7, 9, 10, 12, 13, 15, 16, 17, 18, 19]
abbrev looseP : List Str := [Str.ofString "_deduplicate", Str.ofString "_twin_re_1", Str.ofString "_special_chars_map"]
noncomputable abbrev hk : Hook := kmHook heapK heapAs (fun _ => by kernel_rfl) [79]
noncomputable abbrev xtP (s : Shared) : Bool := xlAt viewP [] s && recOk (RowW.records theRow.toRowW) s
/-- the top's run ends as the view says -/
def Ends (w : World) : Prop := (openEnds treeTable theRow.prog w 3630).map (fun s => (openSeen viewP looseP (importedModules theRow.prog.main.body) xtP true s, Hook.obs hk s)) = some (openGood viewP looseP, Hook.val hk w)
abbrev rowA : String := "comprehension-iter-twice"
abbrev rowB : String := "special-get-raises"
-- the run is checked by the library's own quick twins of importEnds, topRun, fenceModules?, openSeen, start, treeTable, importedModules, Heap.nsMap (four worlds, one check each)
theorem ends_ff (w : World) : Ends ((w.withFollow rowB false).withFollow rowA false) := by
  unfold Ends openEnds fencedOpening topFrom
  first
    | (rw [PySem.W.Fast.te10274390034422433532, PySem.W.Fast.te14082659384304107361, PySem.W.Fast.te14289696077712309145, PySem.W.Fast.te4187177175401517315, PySem.W.Fast.te1435165496053646825, PySem.W.Fast.te14364793385576792824, PySem.W.Fast.te5923862056798008813, PySem.W.Fast.te8920871248978507458]; kernel_rfl)
    | kernel_rfl
theorem ends_ft (w : World) : Ends ((w.withFollow rowB false).withFollow rowA true) := by
  unfold Ends openEnds fencedOpening topFrom
  first
    | (rw [PySem.W.Fast.te10274390034422433532, PySem.W.Fast.te14082659384304107361, PySem.W.Fast.te14289696077712309145, PySem.W.Fast.te4187177175401517315, PySem.W.Fast.te1435165496053646825, PySem.W.Fast.te14364793385576792824, PySem.W.Fast.te5923862056798008813, PySem.W.Fast.te8920871248978507458]; kernel_rfl)
    | kernel_rfl
theorem ends_tf (w : World) : Ends ((w.withFollow rowB true).withFollow rowA false) := by
  unfold Ends openEnds fencedOpening topFrom
  first
    | (rw [PySem.W.Fast.te10274390034422433532, PySem.W.Fast.te14082659384304107361, PySem.W.Fast.te14289696077712309145, PySem.W.Fast.te4187177175401517315, PySem.W.Fast.te1435165496053646825, PySem.W.Fast.te14364793385576792824, PySem.W.Fast.te5923862056798008813, PySem.W.Fast.te8920871248978507458]; kernel_rfl)
    | kernel_rfl
theorem ends_tt (w : World) : Ends ((w.withFollow rowB true).withFollow rowA true) := by
  unfold Ends openEnds fencedOpening topFrom
  first
    | (rw [PySem.W.Fast.te10274390034422433532, PySem.W.Fast.te14082659384304107361, PySem.W.Fast.te14289696077712309145, PySem.W.Fast.te4187177175401517315, PySem.W.Fast.te1435165496053646825, PySem.W.Fast.te14364793385576792824, PySem.W.Fast.te5923862056798008813, PySem.W.Fast.te8920871248978507458]; kernel_rfl)
    | kernel_rfl
theorem leftP : LeftO theRow.prog viewP looseP xtP (Hook.obs hk) (Hook.val hk) 3630 := fun w =>
  byRow2 rowA (P := Ends) (fun w => byRow2 rowB (P := fun w => Ends (w.withFollow rowA false)) ends_ff ends_tf w) (fun w => byRow2 rowB (P := fun w => Ends (w.withFollow rowA true)) ends_ft ends_tt w) w
end Mine
end
section
open PySem PySem.W PyProof.Rows PySem.Spec PySem.Calls
set_option maxRecDepth 100000
namespace Mine
def lawRec : DefRec := ⟨nameOf (stmtAt 19), argsOf (stmtAt 19), bodyOf (stmtAt 19), scopeOf (stmtAt 19), posOf (stmtAt 19)⟩
theorem heapAs_ok : ∀ P, heapAs = (heapK P).map (·.1) := fun _ => by kernel_rfl
set_option maxHeartbeats 4000000 in
theorem holdsP (walk : WalkO viewP looseP (XL viewP []) (Hook.says (kmHook heapK heapAs heapAs_ok [79])) theRow.toRowW lawRec [] fun f vs => PySem.call f vs) : PySem.Challenge.rw_ij0096_01.Holds := by
  w_on
  o_law
  refine holds_open (q := viewP) (loose := looseP) (Xt := xtP) (XP := XL viewP []) (Yf := Hook.obs hk) (Ya := Hook.val hk) (YP := Hook.says hk) (d := lawRec) (kwd := []) (N := 3630) leftP (Hook.of hk) (Hook.keeps hk) (fun s e => xl_of s (Bool.and_eq_true_iff.mp e).1) XL.keeps ?h1 ?h2 ?h3 (fun s e => recFacts_of (Bool.and_eq_true_iff.mp e).2) ?h4 ?h5 ?h6 ?h7 ?hw walk
  case h1 => rfl
  case h2 => rfl
  case h3 => rfl
  case h4 => rfl
  case h5 => assumption
  case h6 => decide +kernel
  case h7 => exact ⟨rfl, rfl, rfl, rfl, rfl, by decide +kernel⟩
  case hw => w_witness2
end Mine
end
section
open PySem PySem.W PyProof.Rows PySem.Spec PySem.Calls
namespace Mine
/-- None or a str -/
def isOS : Option Str → Value → Bool
  | none, .none => true
  | some x, v => Value.isStrOf x v
  | _, _ => false
theorem isOS_shape {k : Option Str} {v : Value} (h : isOS k v = true) : (k = none ∧ v = .none) ∨ ∃ x t, k = some x ∧ v = .str x t := by
  cases k with
  | none => cases v <;> simp_all [isOS]
  | some x => obtain ⟨t, rfl⟩ := Value.isStrOf_shape h; exact .inr ⟨x, t, rfl, rfl⟩
def osHash (w : World) : Option Str → Int
  | none => reduceHash 0xFCA86420
  | some x => hashStr w x
def osKind (prog : Program) (w : World) : KeyKind prog w (Option Str) where
  is := isOS
  hash := osHash w
  inj := fun v a b ha hb => by
    rcases isOS_shape ha with ⟨rfl, rfl⟩ | ⟨x, t, rfl, rfl⟩ <;> rcases isOS_shape hb with ⟨rfl, h⟩ | ⟨y, u, rfl, h⟩
    · rfl
    · cases h
    · cases h
    · cases h; rfl
  byValue := fun k v h => by rcases isOS_shape h with ⟨rfl, rfl⟩ | ⟨x, t, rfl, rfl⟩ <;> rfl
  pyHash := fun hv h => by
    rcases isOS_shape hv with ⟨rfl, rfl⟩ | ⟨x, t, rfl, rfl⟩
    · exact pyHash_slot (T := "NoneType") rfl F.slot_NoneType_hash F.entry_NoneType_hash (F.args_NoneType_hash_1 _) (beq_builtin_none _) (.inl rfl) (wpAny_bind (wpAny_pure (wpAny_bind (wpAny_mkInt (wpAny_pure ⟨_, _, rfl, h⟩)))))
    · exact wpAny_pyHash_str h
  eqBool := fun {A E s a b u v Q} hu hv h => by
    rcases isOS_shape hu with ⟨rfl, rfl⟩ | ⟨x, t, rfl, rfl⟩ <;> rcases isOS_shape hv with ⟨rfl, rfl⟩ | ⟨y, t', rfl, rfl⟩
    · exact PySem.SeqAt.EqAt.same _ _ _ _ _ h
    · exact PySem.SeqAt.EqAt.none_str y t' _ _ _ _ h
    · exact PySem.SeqAt.EqAt.str_none x t _ _ _ _ h
    · exact wpAny_eqBool_str (by simpa using h)
  «strs» := fun k x t v h => by
    rcases isOS_shape h with ⟨_, hq⟩ | ⟨y, u, hk, hq⟩
    · cases hq
    · injection hq with h1 h2
      subst hk h1
      show Value.isStrOf x v = _
      cases v <;> rfl
end Mine
end
section
open PySem PySem.W PyProof.Rows PySem.Spec PySem.Calls
namespace Mine

/-- what a value stands for -/
inductive V where
  | none
  | bool (b : Bool)
  | int (i : Int)
  | str (s : Str)
  | lst (vs : List V)
  | own (a : Addr)
  | obj (a : Addr)
  | meth (a : Addr)
  | dict (p : Program) (w : World) (ks : List (Option Str))
  | rng (n : Nat)
  | tup (vs : List V)
  | any (val : Value)
  | fn
  | undef

mutual
inductive VIn (h : Heap) (mu : List Addr) : V → Value → Prop
  | none : VIn h mu .none .none
  | bool (b : Bool) : VIn h mu (.bool b) (.bool b)
  | int (i : Int) (t : Tok) : VIn h mu (.int i) (.int i t)
  | str (x : Str) (t : Tok) : VIn h mu (.str x) (.str x t)
  | lst {a : Addr} {vals : List Value} {vs : List V} : h.IsList a vals.toArray → a ∉ mu → VAll h mu vs vals → VIn h mu (.lst vs) (.ref a)
  | own (a : Addr) : VIn h mu (.own a) (.ref a)
  | obj {a : Addr} {o : Obj} : h.get? a = some o → o.cls = .type "object" → a ∉ mu → VIn h mu (.obj a) (.ref a)
  | meth {a b : Addr} {o : Obj} : h.get? b = some o → o.cls = .type "builtin_function_or_method" → o.data = .fields #[.builtin "list.append", .ref a] → b ∉ mu → VIn h mu (.meth a) (.ref b)
  | rng {a : Addr} {n : Nat} {t u v : Tok} : IsRange h a 0 n 1 t u v → a ∉ mu → VIn h mu (.rng n) (.ref a)
  | tup {a : Addr} {vals : List Value} {vs : List V} : IsTup h a vals.toArray → a ∉ mu → VAll h mu vs vals → VIn h mu (.tup vs) (.ref a)
  | dict {a : Addr} {p : Program} {w : World} {ks : List (Option Str)} : h.DictOf (osKind p w) a (ks.map fun k => (k, Value.none)) → (a == sysModules) = false → a ∉ mu → VIn h mu (.dict p w ks) (.ref a)
  | any (val : Value) : VIn h mu (.any val) val
  | fn {a : Addr} {o : Obj} : h.get? a = some o → o.cls = .type "function" → a ∉ mu → VIn h mu .fn (.ref a)
inductive VAll (h : Heap) (mu : List Addr) : List V → List Value → Prop
  | nil : VAll h mu [] []
  | cons {v : V} {val : Value} {vs : List V} {vals : List Value} : VIn h mu v val → VAll h mu vs vals → VAll h mu (v :: vs) (val :: vals)
end

theorem isList_keep {h h' : Heap} {a : Addr} {its : Array Value} (x : h.IsList a its) (k : ∀ o, h.get? a = some o → h'.get? a = some o) : h'.IsList a its :=
  let ⟨o, e, r⟩ := x; ⟨o, k o e, r⟩
def Alive (h : Heap) (b : Addr) : Prop := ∃ o, h.get? b = some o
theorem Alive.lt {h : Heap} {b : Addr} (x : Alive h b) : b < h.objs.size := let ⟨_, e⟩ := x; Heap.lt_size e
theorem Alive.keep {h h' : Heap} {b : Addr} (x : Alive h b) (k : ∀ o, h.get? b = some o → h'.get? b = some o) : Alive h' b := let ⟨o, e⟩ := x; ⟨o, k o e⟩
theorem isList_lt {h : Heap} {a : Addr} {its : Array Value} (x : h.IsList a its) : a < h.objs.size := let ⟨_, e, _⟩ := x; Heap.lt_size e

mutual
theorem VIn.later {h h' : Heap} {mu mu' : List Addr} (hk : ∀ b o, b ∉ mu → h.get? b = some o → h'.get? b = some o) (hn : ∀ b ∈ mu', b ∈ mu ∨ h.get? b = none) : ∀ {v : V} {val : Value}, VIn h mu v val → VIn h' mu' v val
  | _, _, .none => .none
  | _, _, .bool b => .bool b
  | _, _, .int i t => .int i t
  | _, _, .str x t => .str x t
  | _, _, .lst hl ha r => .lst (isList_keep hl fun o e => hk _ o ha e) (fun hm => (hn _ hm).elim ha fun q => by obtain ⟨o, e, _⟩ := hl; rw [q] at e; cases e) (VAll.later hk hn r)
  | _, _, .own a => .own a
  | _, _, .obj e c ha => .obj (hk _ _ ha e) c fun hm => (hn _ hm).elim ha fun q => by rw [q] at e; cases e
  | _, _, .meth e c d ha => .meth (hk _ _ ha e) c d fun hm => (hn _ hm).elim ha fun q => by rw [q] at e; cases e
  | _, _, .rng e ha => .rng (hk _ _ ha e) fun hm => (hn _ hm).elim ha fun q => by unfold IsRange at e; rw [q] at e; cases e
  | _, _, .tup hl ha r => .tup (let ⟨o, e, z⟩ := hl; ⟨o, hk _ o ha e, z⟩) (fun hm => (hn _ hm).elim ha fun q => by obtain ⟨o, e, _⟩ := hl; rw [q] at e; cases e) (VAll.later hk hn r)
  | _, _, .dict hd z ha => .dict (hd.at fun o e => hk _ o ha e) z (fun hm => (hn _ hm).elim ha fun q => by obtain ⟨o, _, _, e, _⟩ := hd; rw [q] at e; cases e)
  | _, _, .any val => .any val
  | _, _, .fn e c ha => .fn (hk _ _ ha e) c fun hm => (hn _ hm).elim ha fun q => by rw [q] at e; cases e
theorem VAll.later {h h' : Heap} {mu mu' : List Addr} (hk : ∀ b o, b ∉ mu → h.get? b = some o → h'.get? b = some o) (hn : ∀ b ∈ mu', b ∈ mu ∨ h.get? b = none) : ∀ {vs : List V} {vals : List Value}, VAll h mu vs vals → VAll h' mu' vs vals
  | _, _, .nil => .nil
  | _, _, .cons a r => .cons (VIn.later hk hn a) (VAll.later hk hn r)
end

theorem VAll.length {h : Heap} {mu : List Addr} : ∀ {vs : List V} {vals : List Value}, VAll h mu vs vals → vals.length = vs.length
  | _, _, .nil => rfl
  | _, _, .cons _ r => by rw [List.length_cons, List.length_cons, r.length]
theorem VAll.append {h : Heap} {mu : List Addr} : ∀ {vs ws : List V} {vals wals : List Value}, VAll h mu vs vals → VAll h mu ws wals → VAll h mu (vs ++ ws) (vals ++ wals)
  | _, _, _, _, .nil, k => k
  | _, _, _, _, .cons a r, k => .cons a (r.append k)
theorem VAll.one {h : Heap} {mu : List Addr} {v : V} {val : Value} (x : VIn h mu v val) : VAll h mu [v] [val] := .cons x .nil
theorem VAll.get {h : Heap} {mu : List Addr} : ∀ {vs : List V} {vals : List Value} {i : Nat} {v : V}, VAll h mu vs vals → vs[i]? = some v → ∃ val, vals[i]? = some val ∧ VIn h mu v val
  | _, _, _, _, .nil, e => by simp at e
  | _, _, 0, _, .cons a _, e => by simp at e; subst e; exact ⟨_, rfl, a⟩
  | _, _, _ + 1, _, .cons _ r, e => by simpa using r.get (by simpa using e)
theorem VAll.take {h : Heap} {mu : List Addr} : ∀ {vs : List V} {vals : List Value} (n : Nat), VAll h mu vs vals → VAll h mu (vs.take n) (vals.take n)
  | _, _, 0, _ => by simpa using VAll.nil
  | _, _, _ + 1, .nil => by simpa using VAll.nil
  | _, _, n + 1, .cons a r => by simpa using VAll.cons a (r.take n)
theorem VAll.drop {h : Heap} {mu : List Addr} : ∀ {vs : List V} {vals : List Value} (n : Nat), VAll h mu vs vals → VAll h mu (vs.drop n) (vals.drop n)
  | _, _, 0, r => by simpa using r
  | _, _, _ + 1, .nil => by simpa using VAll.nil
  | _, _, n + 1, .cons _ r => by simpa using r.drop n
theorem VAll.set {h : Heap} {mu : List Addr} : ∀ {vs : List V} {vals : List Value} {i : Nat} {v : V} {val : Value}, VAll h mu vs vals → VIn h mu v val → VAll h mu (vs.set i v) (vals.set i val)
  | _, _, _, _, _, .nil, _ => by simpa using VAll.nil
  | _, _, 0, _, _, .cons _ r, x => by simpa using VAll.cons x r
  | _, _, _ + 1, _, _, .cons a r, x => by simpa using VAll.cons a (r.set x)

/-- the state of one activation: its names, the lists that it may change, the addresses that it may change -/
structure St where
  loc : List (Str × V)
  own : List (Addr × List V)
  mu : List Addr
  av : List Addr

/-- what stands fast in one activation; P: the code table that a lambda fills -/
structure Act where
  prog : Program
  w : World
  A : Around
  env : Env
  s₀ : Shared
  mu₀ : List Addr
  hb : Heap
  P : Addr
  lamPos : Pos
  lamQual : Str
  lvl : Nat
  fr : List Addr
  mine : Bool

structure Var (X : Act) (mu : List Addr) (h : Heap) (x : Str) (v : V) : Prop where
  loc : X.env.kindOf x = some .local → v ≠ .undef → ∃ m val, h.Ns X.env.locals m ∧ m x = some val ∧ VIn h mu v val
  cell : X.env.kindOf x = some .cell ∨ X.env.kindOf x = some .free → ∃ c vo, X.env.cells.lookup x = some c ∧ h.IsCell c vo ∧ (v ≠ .undef → ∃ val, vo = some val ∧ VIn h mu v val)

/-- what may change though it is old: the code table, and the slots of the frames around -/
def Act.Wild (X : Act) (b : Addr) : Prop := b = X.P ∨ b ∈ X.fr
/-- the code table as the lambda leaves it -/
def TabOnly (X : Act) (h : Heap) (mu : List Addr) : Prop :=
  h.get? X.P = some (tabObj #[]) ∨ ∃ c, c ∉ mu ∧ h.get? X.P = some (tabObj #[rawInt X.lamPos.line, rawInt X.lamPos.col, .ref c]) ∧ h.CodeRec (.ref c) X.lamQual

/-- no exception is at hand, or one that stays as it is -/
def HdIn (X : Act) (h : Heap) (mu : List Addr) : Prop :=
  X.A.handled = none ∨ ∃ e o vs, X.A.handled = some (.ref e) ∧ h.get? e = some o ∧ o.data = .fields vs ∧ vs[2]? = some .none ∧ e ∉ mu
structure TabIn (X : Act) (h : Heap) (mu : List Addr) : Prop where
  tab : TabOnly X h mu
  hd : HdIn X h mu

structure ActOk (X : Act) : Prop where
  kin : (heapK X.w.params).In X.hb
  top : ∃ p loose mean mg mb, Top p loose mean mg mb X.hb
  chd : CodeHd X.hb 83 X.P
  pc : X.P ∉ X.env.cells.map (·.2)
  room : X.A.depth + X.lvl ≤ 500 ∧ X.A.units + 10 * X.lvl ≤ 2000
  hbP : X.hb.get? X.P = none
  frm : ∀ b ∈ X.fr, b ∈ X.mu₀
  hbF : ∀ b ∈ X.fr, X.hb.get? b = none
  fal : ∀ b ∈ X.fr, Alive X.s₀.heap b
  frP : X.P ∉ X.fr
  frC : ∀ b ∈ X.fr, b ∉ X.env.cells.map (·.2)
  base : ∀ b o, X.hb.get? b = some o → X.s₀.heap.get? b = some o
  pmu : X.P ∈ X.mu₀
  plt : X.P < X.s₀.heap.objs.size
  kind : X.env.scope.kind = .function
  glob : X.env.globals = mainGlobals
  blt : X.env.builtins = builtinsNs

abbrev off (X : Act) (σ : St) : List Addr := σ.mu ++ (σ.av ++ X.mu₀)
/-- the addresses that the facts speak of -/
abbrev pinned (X : Act) (σ : St) : List Addr := X.env.locals :: (X.env.cells.map (·.2) ++ σ.own.map (·.1))

structure Rep (X : Act) (σ : St) (s : Shared) : Prop where
  ok : ActOk X
  sh : ∃ h tk, s = { X.s₀ with heap := h, toks := tk }
  keep : ∀ b o, ¬ X.Wild b → X.s₀.heap.get? b = some o → s.heap.get? b = some o
  frs : ∀ b ∈ X.fr, ∀ o, X.s₀.heap.get? b = some o → ∃ sl, s.heap.get? b = some { o with slots := sl }
  tab : TabIn X s.heap (off X σ)
  new : ∀ b ∈ σ.mu, X.s₀.heap.objs.size ≤ b ∧ Alive s.heap b
  lmut : X.env.locals ∈ σ.mu
  ns : ∃ m, s.heap.Ns X.env.locals m
  var : ∀ x v, σ.loc.lookup x = some v → Var X (off X σ) s.heap x v
  cmut : X.mine = true → ∀ x c, X.env.kindOf x = some .cell → X.env.cells.lookup x = some c → c ∈ σ.mu
  own : ∀ a vs, (a, vs) ∈ σ.own → a ∈ σ.mu ∧ ∃ vals, PlainL s.heap a vals.toArray ∧ VAll s.heap (off X σ) vs vals
  apart : (pinned X σ).Nodup
  clt : ∀ c ∈ X.env.cells.map (·.2), Alive s.heap c
  mlt : ∀ b ∈ X.mu₀, b < X.s₀.heap.objs.size
  avn : ∀ b ∈ σ.av, X.s₀.heap.objs.size ≤ b ∧ Alive s.heap b ∧ b ∉ σ.mu ∧ b ∉ X.env.cells.map (·.2)

/-- s' is a later state: what σ does not own has been kept -/
structure Later (X : Act) (σ : St) (s : Shared) (σ' : St) (s' : Shared) : Prop where
  keep : ∀ b o, b ∉ σ.mu → ¬ X.Wild b → s.heap.get? b = some o → s'.heap.get? b = some o
  new : ∀ b ∈ σ'.mu ++ σ'.av, b ∈ σ.mu ++ σ.av ∨ s.heap.get? b = none
  newM : ∀ b ∈ σ'.mu, b ∈ σ.mu ∨ s.heap.get? b = none
  av : ∀ b ∈ σ.av, b ∈ σ'.av
  live : ∀ b, b ∈ σ.mu ∨ X.Wild b → Alive s'.heap b

theorem off_mu {X : Act} {σ : St} {b : Addr} (h : b ∈ σ.mu) : b ∈ off X σ := List.mem_append_left _ h
theorem off_av {X : Act} {σ : St} {b : Addr} (h : b ∈ σ.av) : b ∈ off X σ := List.mem_append_right _ (List.mem_append_left _ h)
theorem off_mu₀ {X : Act} {σ : St} {b : Addr} (h : b ∈ X.mu₀) : b ∈ off X σ := List.mem_append_right _ (List.mem_append_right _ h)
theorem off_new {X : Act} {σ σ' : St} {h : Heap} (k : ∀ b ∈ σ'.mu ++ σ'.av, b ∈ σ.mu ++ σ.av ∨ h.get? b = none) : ∀ b ∈ off X σ', b ∈ off X σ ∨ h.get? b = none := fun b hb => by
  have back : b ∈ σ'.mu ++ σ'.av → b ∈ off X σ ∨ h.get? b = none := fun q => (k b q).imp (fun z => (List.mem_append.mp z).elim off_mu off_av) id
  rcases List.mem_append.mp hb with hb | hb
  · exact back (List.mem_append_left _ hb)
  · rcases List.mem_append.mp hb with hb | hb
    · exact back (List.mem_append_right _ hb)
    · exact .inl (off_mu₀ hb)

theorem TabIn.alive {X : Act} {h : Heap} {mu : List Addr} (x : TabIn X h mu) : Alive h X.P := x.tab.elim (fun e => ⟨_, e⟩) fun ⟨_, _, e, _⟩ => ⟨_, e⟩
theorem Rep.wildAlive {X : Act} {σ : St} {s : Shared} (R : Rep X σ s) {b : Addr} (h : X.Wild b) : Alive s.heap b := h.elim (fun q => q ▸ R.tab.alive) fun q => let ⟨o, e⟩ := R.ok.fal b q; let ⟨_, z⟩ := R.frs b q o e; ⟨_, z⟩
theorem Later.refl {X : Act} {σ : St} {s : Shared} (R : Rep X σ s) : Later X σ s σ s := ⟨fun _ _ _ _ e => e, fun _ h => .inl h, fun _ h => .inl h, fun _ h => h, fun b hb => hb.elim (fun q => (R.new b q).2) R.wildAlive⟩
theorem Later.none {X : Act} {σ₁ σ₂ : St} {s₁ s₂ : Shared} (a : Later X σ₁ s₁ σ₂ s₂) {q : Addr} (h : s₂.heap.get? q = none) : s₁.heap.get? q = none := by
  by_cases hm : q ∈ σ₁.mu ∨ X.Wild q
  · obtain ⟨o, e⟩ := a.live q hm; rw [h] at e; cases e
  · cases e : s₁.heap.get? q with
    | none => rfl
    | some o => have := a.keep q o (fun z => hm (.inl z)) (fun z => hm (.inr z)) e; rw [h] at this; cases this
theorem Later.trans {X : Act} {σ₁ σ₂ σ₃ : St} {s₁ s₂ s₃ : Shared} (a : Later X σ₁ s₁ σ₂ s₂) (b : Later X σ₂ s₂ σ₃ s₃) : Later X σ₁ s₁ σ₃ s₃ where
  keep q o h p e := b.keep q o (fun hm => (a.newM q hm).elim h fun z => by rw [z] at e; cases e) p (a.keep q o h p e)
  new q hm := (b.new q hm).elim (fun z => a.new q z) fun z => .inr (a.none z)
  newM q hm := (b.newM q hm).elim (fun z => a.newM q z) fun z => .inr (a.none z)
  av q hm := b.av q (a.av q hm)
  live q hq := by
    by_cases hm : q ∈ σ₂.mu ∨ X.Wild q
    · exact b.live q hm
    · exact (a.live q hq).keep fun o e => b.keep q o (fun z => hm (.inl z)) (fun z => hm (.inr z)) e

theorem Later.off_keep {X : Act} {σ σ' : St} {s s' : Shared} (R : Rep X σ s) (L : Later X σ s σ' s') : ∀ b o, b ∉ off X σ → s.heap.get? b = some o → s'.heap.get? b = some o :=
  fun b o hb e => L.keep b o (fun hm => hb (off_mu hm)) (fun q => hb (off_mu₀ (q.elim (fun z => z ▸ R.ok.pmu) (R.ok.frm b)))) e
theorem Later.vin {X : Act} {σ σ' : St} {s s' : Shared} (R : Rep X σ s) (L : Later X σ s σ' s') {v : V} {val : Value} (x : VIn s.heap (off X σ) v val) : VIn s'.heap (off X σ') v val :=
  x.later (L.off_keep R) (off_new L.new)
theorem Later.vall {X : Act} {σ σ' : St} {s s' : Shared} (R : Rep X σ s) (L : Later X σ s σ' s') {vs : List V} {vals : List Value} (x : VAll s.heap (off X σ) vs vals) : VAll s'.heap (off X σ') vs vals :=
  x.later (L.off_keep R) (off_new L.new)

inductive Fl where
  | next | brk | cont
  | ret (v : V)
inductive FlIn (h : Heap) (mu : List Addr) : Fl → Flow → Prop
  | next : FlIn h mu .next .next
  | brk : FlIn h mu .brk .brk
  | cont : FlIn h mu .cont .cont
  | ret {v : V} {val : Value} : VIn h mu v val → FlIn h mu (.ret v) (.ret val)

/-- the judgements -/
def Ev (X : Act) (t : Sem Value) (σ : St) (K : V → St → Prop) : Prop :=
  ∀ s Q E, Rep X σ s → (∀ val v σ' s', Rep X σ' s' → Later X σ s σ' s' → VIn s'.heap (off X σ') v val → K v σ' → Q val s') → wpAny (model X.prog X.w) X.A t Q E s
def Evs (X : Act) (t : Sem (List Value)) (σ : St) (K : List V → St → Prop) : Prop :=
  ∀ s Q E, Rep X σ s → (∀ vals vs σ' s', Rep X σ' s' → Later X σ s σ' s' → VAll s'.heap (off X σ') vs vals → K vs σ' → Q vals s') → wpAny (model X.prog X.w) X.A t Q E s
def Tr (X : Act) (t : Sem Bool) (σ : St) (K : Bool → St → Prop) : Prop :=
  ∀ s Q E, Rep X σ s → (∀ b σ' s', Rep X σ' s' → Later X σ s σ' s' → K b σ' → Q b s') → wpAny (model X.prog X.w) X.A t Q E s
def Un (X : Act) (t : Sem Unit) (σ : St) (K : St → Prop) : Prop :=
  ∀ s Q E, Rep X σ s → (∀ σ' s', Rep X σ' s' → Later X σ s σ' s' → K σ' → Q () s') → wpAny (model X.prog X.w) X.A t Q E s
def Ex (X : Act) (t : Sem Flow) (σ : St) (K : Fl → St → Prop) : Prop :=
  ∀ s Q E, Rep X σ s → (∀ f fl σ' s', Rep X σ' s' → Later X σ s σ' s' → FlIn s'.heap (off X σ') fl f → K fl σ' → Q f s') → wpAny (model X.prog X.w) X.A t Q E s
/-- an operation upon a value | two values -/
def Op1 (X : Act) (t : Value → Sem Value) (a : V) (σ : St) (K : V → St → Prop) : Prop :=
  ∀ s va Q E, Rep X σ s → VIn s.heap (off X σ) a va → (∀ val v σ' s', Rep X σ' s' → Later X σ s σ' s' → VIn s'.heap (off X σ') v val → K v σ' → Q val s') → wpAny (model X.prog X.w) X.A (t va) Q E s
def Op2 (X : Act) (t : Value → Value → Sem Value) (a b : V) (σ : St) (K : V → St → Prop) : Prop :=
  ∀ s va vb Q E, Rep X σ s → VIn s.heap (off X σ) a va → VIn s.heap (off X σ) b vb → (∀ val v σ' s', Rep X σ' s' → Later X σ s σ' s' → VIn s'.heap (off X σ') v val → K v σ' → Q val s') → wpAny (model X.prog X.w) X.A (t va vb) Q E s
def OpB (X : Act) (t : Value → Sem Bool) (a : V) (σ : St) (K : Bool → St → Prop) : Prop :=
  ∀ s va Q E, Rep X σ s → VIn s.heap (off X σ) a va → (∀ b σ' s', Rep X σ' s' → Later X σ s σ' s' → K b σ' → Q b s') → wpAny (model X.prog X.w) X.A (t va) Q E s
def OpN (X : Act) (t : List Value → Sem Value) (as : List V) (σ : St) (K : V → St → Prop) : Prop :=
  ∀ s vals Q E, Rep X σ s → VAll s.heap (off X σ) as vals → (∀ val v σ' s', Rep X σ' s' → Later X σ s σ' s' → VIn s'.heap (off X σ') v val → K v σ' → Q val s') → wpAny (model X.prog X.w) X.A (t vals) Q E s

end Mine
namespace Mine
section
variable {X : Act} {σ : St} {s : Shared}

theorem Rep.base (R : Rep X σ s) : ∀ b o, X.hb.get? b = some o → s.heap.get? b = some o :=
  fun b o e => R.keep b o (fun q => q.elim (fun z => by rw [z, R.ok.hbP] at e; cases e) fun z => by rw [R.ok.hbF b z] at e; cases e) (R.ok.base b o e)
theorem Rep.wild_mu₀ (R : Rep X σ s) {b : Addr} (h : X.Wild b) : b ∈ X.mu₀ := h.elim (fun z => z ▸ R.ok.pmu) (R.ok.frm b)
theorem Rep.wild_lt (R : Rep X σ s) {b : Addr} (h : X.Wild b) : b < X.s₀.heap.objs.size := R.mlt b (R.wild_mu₀ h)
theorem Rep.mu_nw (R : Rep X σ s) {b : Addr} (hb : b ∈ σ.mu) : ¬ X.Wild b := fun h => Nat.lt_irrefl _ (Nat.lt_of_lt_of_le (R.wild_lt h) (R.new b hb).1)
theorem Rep.frsStep (R : Rep X σ s) {h' : Heap} (hk : ∀ b o, b < X.s₀.heap.objs.size → s.heap.get? b = some o → h'.get? b = some o) : ∀ b ∈ X.fr, ∀ o, X.s₀.heap.get? b = some o → ∃ sl, h'.get? b = some { o with slots := sl } :=
  fun b hb o e => let ⟨sl, q⟩ := R.frs b hb o e; ⟨sl, hk b _ (Heap.lt_size e) q⟩
theorem Rep.mu_ne (R : Rep X σ s) {b : Addr} (hb : b ∈ σ.mu) : b ≠ X.P := fun q => Nat.lt_irrefl _ (Nat.lt_of_lt_of_le (q ▸ R.ok.plt) (R.new b hb).1)
theorem Rep.mu_s₀ (R : Rep X σ s) {b : Addr} (hb : b ∈ σ.mu) {o : Obj} : X.s₀.heap.get? b ≠ some o := fun e => Nat.lt_irrefl _ (Nat.lt_of_lt_of_le (Heap.lt_size e) (R.new b hb).1)

theorem Rep.size (R : Rep X σ s) : X.s₀.heap.objs.size ≤ s.heap.objs.size := let z := R.new _ R.lmut; Nat.le_trans z.1 (Nat.le_of_lt z.2.lt)
theorem TabIn.later {h h' : Heap} {mu mu' : List Addr} (x : TabIn X h mu) (hP : ∀ o, h.get? X.P = some o → h'.get? X.P = some o) (hk : ∀ b o, b ∉ mu → h.get? b = some o → h'.get? b = some o) (hn : ∀ b ∈ mu', b ∈ mu ∨ h.get? b = none) : TabIn X h' mu' := by
  refine ⟨?_, x.hd.imp id fun ⟨e, o, vs, q, he, hd, h2, hm⟩ => ⟨e, o, vs, q, hk e o hm he, hd, h2, fun z => (hn e z).elim hm fun y => by rw [y] at he; cases he⟩⟩
  rcases x.tab with e | ⟨c, hc, e, r⟩
  · exact .inl (hP _ e)
  · obtain ⟨c₂, oc, vs, t, e2, hoc, hd⟩ := r
    cases e2
    exact .inr ⟨c, fun hm => (hn _ hm).elim hc fun q => (by rw [q] at hoc; cases hoc), hP _ e, c, oc, vs, t, rfl, hk _ _ hc hoc, hd⟩

theorem Var.later {h h' : Heap} {mu mu' : List Addr} {x : Str} {v : V} (y : Var X mu h x v) (hL : ∀ o, h.get? X.env.locals = some o → h'.get? X.env.locals = some o) (hC : ∀ c o, c ∈ X.env.cells.map (·.2) → h.get? c = some o → h'.get? c = some o)
    (hk : ∀ b o, b ∉ mu → h.get? b = some o → h'.get? b = some o) (hn : ∀ b ∈ mu', b ∈ mu ∨ h.get? b = none) : Var X mu' h' x v where
  loc hk' hv := let ⟨m, val, n, e, i⟩ := y.loc hk' hv; ⟨m, val, n.at hL, e, i.later hk hn⟩
  cell hk' := let ⟨c, vo, e, ⟨o, ho, hd⟩, i⟩ := y.cell hk'; ⟨c, vo, e, ⟨o, hC c o (List.mem_map.mpr ⟨(x, c), mem_of_lookup e, rfl⟩) ho, hd⟩, fun hv => let ⟨val, q, j⟩ := i hv; ⟨val, q, j.later hk hn⟩⟩

/-- one address that no fact speaks of may change -/
theorem Rep.touch (R : Rep X σ s) {h' : Heap} {tk : Nat} (a : Addr) (ha : a ∈ off X σ) (hnew : X.s₀.heap.objs.size ≤ a) (hp : a ∉ pinned X σ) (hk : ∀ b o, b ≠ a → s.heap.get? b = some o → h'.get? b = some o) (hla : Alive h' a) :
    Rep X σ { s with heap := h', toks := tk } := by
  have hk' : ∀ b o, b ∉ off X σ → s.heap.get? b = some o → h'.get? b = some o := fun b o hb e => hk b o (fun q => hb (q ▸ ha)) e
  have hn : ∀ b ∈ off X σ, b ∈ off X σ ∨ s.heap.get? b = none := fun b hb => .inl hb
  have hL : X.env.locals ≠ a := fun q => hp (q ▸ List.mem_cons_self)
  have hC : ∀ c, c ∈ X.env.cells.map (·.2) → c ≠ a := fun c hc q => hp (List.mem_cons_of_mem _ (List.mem_append_left _ (q ▸ hc)))
  have hPa : X.P ≠ a := fun q => Nat.lt_irrefl _ (Nat.lt_of_lt_of_le (q ▸ R.ok.plt) hnew)
  have al : ∀ b, Alive s.heap b → Alive h' b := fun b x => by
    by_cases q : b = a
    · exact q ▸ hla
    · exact x.keep fun o e => hk b o q e
  refine ⟨R.ok, ?_, ?_, R.frsStep fun b o hb e => hk b o (fun q => Nat.lt_irrefl _ (Nat.lt_of_lt_of_le hb (q ▸ hnew))) e, R.tab.later (fun o e => hk _ o hPa e) hk' hn, fun b hb => ⟨(R.new b hb).1, al b (R.new b hb).2⟩, R.lmut, ?_, ?_, R.cmut, ?_, R.apart, fun c hc => al c (R.clt c hc), R.mlt, fun b hb => let z := R.avn b hb; ⟨z.1, al b z.2.1, z.2.2⟩⟩
  · obtain ⟨h, t, e⟩ := R.sh; exact ⟨h', tk, by rw [e]⟩
  · exact fun b o hb e => hk b o (fun q => Nat.lt_irrefl _ (Nat.lt_of_lt_of_le (Heap.lt_size e) (q ▸ hnew))) (R.keep b o hb e)
  · obtain ⟨m, n⟩ := R.ns; exact ⟨m, n.at fun o e => hk _ o hL e⟩
  · exact fun x v e => (R.var x v e).later (fun o e => hk _ o hL e) (fun c o hc e => hk c o (hC c hc) e) hk' hn
  · intro b vs hb
    obtain ⟨h1, vals, p, i⟩ := R.own b vs hb
    have hne : b ≠ a := fun q => hp (List.mem_cons_of_mem _ (List.mem_append_right _ (q ▸ List.mem_map.mpr ⟨(b, vs), hb, rfl⟩)))
    exact ⟨h1, vals, let ⟨o, n, e, r⟩ := p; ⟨o, n, hk _ o hne e, r⟩, i.later hk' hn⟩

theorem Rep.grow (R : Rep X σ s) {h' : Heap} {tk : Nat} (hk : ∀ b o, s.heap.get? b = some o → h'.get? b = some o) :
    Rep X σ { s with heap := h', toks := tk } ∧ Later X σ s σ { s with heap := h', toks := tk } := by
  have hn : ∀ b ∈ off X σ, b ∈ off X σ ∨ s.heap.get? b = none := fun b hb => .inl hb
  have al : ∀ b, Alive s.heap b → Alive h' b := fun b x => x.keep fun o e => hk b o e
  refine ⟨⟨R.ok, ?_, fun b o hb e => hk b o (R.keep b o hb e), R.frsStep fun b o _ e => hk b o e, R.tab.later (fun o e => hk _ o e) (fun b o _ e => hk b o e) hn, fun b hb => ⟨(R.new b hb).1, al b (R.new b hb).2⟩, R.lmut, ?_, ?_, R.cmut, ?_, R.apart, fun c hc => al c (R.clt c hc), R.mlt, fun b hb => let z := R.avn b hb; ⟨z.1, al b z.2.1, z.2.2⟩⟩, ⟨fun b o _ _ e => hk b o e, fun b hb => .inl hb, fun b hb => .inl hb, fun _ h => h, fun b hb => al b (hb.elim (fun q => (R.new b q).2) R.wildAlive)⟩⟩
  · obtain ⟨h, t, e⟩ := R.sh; exact ⟨h', tk, by rw [e]⟩
  · obtain ⟨m, n⟩ := R.ns; exact ⟨m, n.at fun o e => hk _ o e⟩
  · exact fun x v e => (R.var x v e).later (fun o e => hk _ o e) (fun c o hc e => hk c o e) (fun b o _ e => hk b o e) hn
  · intro b vs hb
    obtain ⟨h1, vals, p, i⟩ := R.own b vs hb
    exact ⟨h1, vals, p.keeps hk, i.later (fun b o _ e => hk b o e) hn⟩
theorem Rep.push (R : Rep X σ s) (o : Obj) {tk : Nat} : Rep X σ { s with heap := s.heap.push o, toks := tk } ∧ Later X σ s σ { s with heap := s.heap.push o, toks := tk } :=
  R.grow fun _ _ e => Heap.get?_push_of_some _ e
theorem Rep.tok (R : Rep X σ s) {tk : Nat} : Rep X σ { s with toks := tk } ∧ Later X σ s σ { s with toks := tk } := R.grow (fun _ _ e => e)
theorem Rep.fresh (R : Rep X σ s) {b : Addr} (hb : s.heap.objs.size ≤ b) : b ∉ off X σ := fun hm => by
  rcases List.mem_append.mp hm with hm | hm
  · exact Nat.lt_irrefl _ (Nat.lt_of_lt_of_le (R.new _ hm).2.lt hb)
  · rcases List.mem_append.mp hm with hm | hm
    · exact Nat.lt_irrefl _ (Nat.lt_of_lt_of_le (R.avn _ hm).2.1.lt hb)
    · exact Nat.lt_irrefl _ (Nat.lt_of_lt_of_le (R.mlt _ hm) (Nat.le_trans R.size hb))
end
theorem get_size (h : Heap) : h.get? h.objs.size = none := by
  cases e : h.get? h.objs.size with
  | none => rfl
  | some o => exact absurd (Heap.lt_size e) (Nat.lt_irrefl _)
end Mine
end
section
open PySem PySem.W PyProof.Rows PySem.Spec PySem.Calls
namespace Mine
theorem lk_hit {x : Str} {v : V} {l : List (Str × V)} : List.lookup x ((x, v) :: l) = some v := by rw [List.lookup_cons, beq_self_eq_true]
theorem lk_miss {x y : Str} {u v : V} {l : List (Str × V)} (h : (x == y) = false) (k : List.lookup x l = some v) : List.lookup x ((y, u) :: l) = some v := by rw [List.lookup_cons, h]; exact k

section
variable {X : Act} {σ : St} {s : Shared}

theorem Rep.kindp (R : Rep X σ s) : (X.env.scope.kind == .class || (X.env.scope.kind == .module && X.env.locals != X.env.globals)) = false := by rw [R.ok.kind]; rfl

/-- a local name is stored -/
theorem Rep.store (R : Rep X σ s) {x : Str} {v : V} {val : Value} {h' : Heap} {tk : Nat} {m : Str → Option Value} (hk : X.env.kindOf x = some .local) (i : VIn s.heap (off X σ) v val)
    (hm : s.heap.Ns X.env.locals m) (hn : h'.Ns X.env.locals (fun y => if y = x then some val else m y)) (hs : Heap.SameBut X.env.locals s.heap h') :
    Rep X { σ with loc := (x, v) :: σ.loc } { s with heap := h', toks := tk } ∧ Later X σ s { σ with loc := (x, v) :: σ.loc } { s with heap := h', toks := tk } := by
  have hk' : ∀ b o, b ∉ off X σ → s.heap.get? b = some o → h'.get? b = some o := fun b o hb e => hs.extBut b o (fun q => hb (off_mu (q ▸ R.lmut))) e
  have hnn : ∀ b ∈ off X σ, b ∈ off X σ ∨ s.heap.get? b = none := fun b hb => .inl hb
  have ap := List.nodup_cons.mp R.apart
  have al : ∀ b, Alive s.heap b → Alive h' b := fun b x => by
    by_cases q : b = X.env.locals
    · rw [q]; exact let ⟨o, _, _, e, _⟩ := hn; ⟨o, e⟩
    · exact x.keep fun o e => hs.extBut b o q e
  refine ⟨⟨R.ok, ?_, ?_, R.frsStep fun b o hb e => hs.extBut b o (fun q => Nat.lt_irrefl _ (Nat.lt_of_lt_of_le (q ▸ hb) (R.new _ R.lmut).1)) e, R.tab.later (fun o e => hs.extBut _ o (Ne.symm (R.mu_ne R.lmut)) e) hk' hnn, fun b hb => ⟨(R.new b hb).1, al b (R.new b hb).2⟩, R.lmut, ⟨_, hn⟩, ?_, R.cmut, ?_, R.apart, fun c hc => al c (R.clt c hc), R.mlt, fun b hb => let z := R.avn b hb; ⟨z.1, al b z.2.1, z.2.2⟩⟩, ⟨fun b o hb _ e => hs.extBut b o (fun q => hb (q ▸ R.lmut)) e, fun b hb => .inl hb, fun b hb => .inl hb, fun _ h => h, fun b hb => al b (hb.elim (fun q => (R.new b q).2) R.wildAlive)⟩⟩
  · obtain ⟨h, t, e⟩ := R.sh; exact ⟨h', tk, by rw [e]⟩
  · exact fun b o hb e => hs.extBut b o (fun q => R.mu_s₀ R.lmut (q ▸ e)) (R.keep b o hb e)
  · have hC : ∀ c o, c ∈ X.env.cells.map (·.2) → s.heap.get? c = some o → h'.get? c = some o := fun c o hc e => hs.extBut c o (fun q => ap.1 (List.mem_append_left _ (q ▸ hc))) e
    intro y u e
    rw [List.lookup_cons] at e
    by_cases hy : y = x
    · subst hy
      rw [beq_self_eq_true] at e
      cases e
      refine ⟨fun _ _ => ⟨_, val, hn, if_pos rfl, i.later hk' hnn⟩, fun q => ?_⟩
      rcases q with q | q <;> rw [hk] at q <;> cases q
    · have hb : (y == x) = false := by simpa using hy
      rw [hb] at e
      have y' := R.var y u e
      refine ⟨fun q hv => ?_, fun q => ?_⟩
      · obtain ⟨m₂, val₂, n₂, e₂, i₂⟩ := y'.loc q hv
        exact ⟨_, val₂, hn, by rw [if_neg hy, hm.agree n₂]; exact e₂, i₂.later hk' hnn⟩
      · obtain ⟨c, vo, e, ⟨o, ho, hd⟩, j⟩ := y'.cell q
        exact ⟨c, vo, e, ⟨o, hC c o (List.mem_map.mpr ⟨(y, c), mem_of_lookup e, rfl⟩) ho, hd⟩, fun hv => let ⟨w, q, r⟩ := j hv; ⟨w, q, r.later hk' hnn⟩⟩
  · intro b vs hb
    obtain ⟨h1, vals, p, j⟩ := R.own b vs hb
    have hne : b ≠ X.env.locals := fun q => ap.1 (List.mem_append_right _ (q ▸ List.mem_map.mpr ⟨(b, vs), hb, rfl⟩))
    exact ⟨h1, vals, let ⟨o, n, e, r⟩ := p; ⟨o, n, hs.extBut _ o hne e, r⟩, j.later hk' hnn⟩

/-- a cell's name is stored -/
theorem Rep.storeC (R : Rep X σ s) (hmine : X.mine = true) {x : Str} {v : V} {val : Value} {h' : Heap} {tk : Nat} {c : Addr} (hk : X.env.kindOf x = some .cell) (hc : X.env.cells.lookup x = some c) (i : VIn s.heap (off X σ) v val)
    (hn : h'.IsCell c (some val)) (hs : Heap.SameBut c s.heap h') (hu : (X.env.cells.map (·.2)).Nodup) :
    Rep X { σ with loc := (x, v) :: σ.loc } { s with heap := h', toks := tk } ∧ Later X σ s { σ with loc := (x, v) :: σ.loc } { s with heap := h', toks := tk } := by
  have hcm := R.cmut hmine x c hk hc
  have hcl : c ∈ X.env.cells.map (·.2) := List.mem_map.mpr ⟨(x, c), mem_of_lookup hc, rfl⟩
  have hk' : ∀ b o, b ∉ off X σ → s.heap.get? b = some o → h'.get? b = some o := fun b o hb e => hs.extBut b o (fun q => hb (off_mu (q ▸ hcm))) e
  have hnn : ∀ b ∈ off X σ, b ∈ off X σ ∨ s.heap.get? b = none := fun b hb => .inl hb
  have ap := List.nodup_cons.mp R.apart
  have al : ∀ b, Alive s.heap b → Alive h' b := fun b x => by
    by_cases q : b = c
    · rw [q]; exact let ⟨o, e, _⟩ := hn; ⟨o, e⟩
    · exact x.keep fun o e => hs.extBut b o q e
  have ap2 := List.nodup_append.mp ap.2
  have hL : X.env.locals ≠ c := fun q => ap.1 (List.mem_append_left _ (q ▸ hcl))
  refine ⟨⟨R.ok, ?_, ?_, R.frsStep fun b o hb e => hs.extBut b o (fun q => Nat.lt_irrefl _ (Nat.lt_of_lt_of_le (q ▸ hb) (R.new _ hcm).1)) e, R.tab.later (fun o e => hs.extBut _ o (Ne.symm (R.mu_ne hcm)) e) hk' hnn, fun b hb => ⟨(R.new b hb).1, al b (R.new b hb).2⟩, R.lmut, ?_, ?_, R.cmut, ?_, R.apart, fun c hc => al c (R.clt c hc), R.mlt, fun b hb => let z := R.avn b hb; ⟨z.1, al b z.2.1, z.2.2⟩⟩, ⟨fun b o hb _ e => hs.extBut b o (fun q => hb (q ▸ hcm)) e, fun b hb => .inl hb, fun b hb => .inl hb, fun _ h => h, fun b hb => al b (hb.elim (fun q => (R.new b q).2) R.wildAlive)⟩⟩
  · obtain ⟨h, t, e⟩ := R.sh; exact ⟨h', tk, by rw [e]⟩
  · exact fun b o hb e => hs.extBut b o (fun q => R.mu_s₀ hcm (q ▸ e)) (R.keep b o hb e)
  · obtain ⟨m, n⟩ := R.ns; exact ⟨m, n.at fun o e => hs.extBut _ o hL e⟩
  · intro y u e
    rw [List.lookup_cons] at e
    by_cases hy : y = x
    · subst hy
      rw [beq_self_eq_true] at e
      cases e
      refine ⟨fun q => (by rw [hk] at q; cases q), fun _ => ⟨c, _, hc, hn, fun _ => ⟨val, rfl, i.later hk' hnn⟩⟩⟩
    · have hb : (y == x) = false := by simpa using hy
      rw [hb] at e
      have y' := R.var y u e
      refine ⟨fun q hv => ?_, fun q => ?_⟩
      · obtain ⟨m₂, val₂, n₂, e₂, i₂⟩ := y'.loc q hv
        exact ⟨m₂, val₂, n₂.at fun o e => hs.extBut _ o hL e, e₂, i₂.later hk' hnn⟩
      · obtain ⟨d, vo, e, ⟨o, ho, hd⟩, j⟩ := y'.cell q
        have hdc : d ≠ c := by
          intro q
          subst q
          have := mem_of_lookup e
          have := mem_of_lookup hc
          have hp : (X.env.cells.Pairwise fun x y => x.2 ≠ y.2) := by simpa [List.Nodup, List.pairwise_map] using hu
          exact hy (name_of_addr hp (mem_of_lookup e) (mem_of_lookup hc))
        exact ⟨d, vo, e, ⟨o, hs.extBut d o hdc ho, hd⟩, fun hv => let ⟨w, q, r⟩ := j hv; ⟨w, q, r.later hk' hnn⟩⟩
  · intro b vs hb
    obtain ⟨h1, vals, p, j⟩ := R.own b vs hb
    have hne : b ≠ c := fun q => ap2.2.2 c hcl b (List.mem_map.mpr ⟨(b, vs), hb, rfl⟩) q.symm
    exact ⟨h1, vals, let ⟨o, n, e, r⟩ := p; ⟨o, n, hs.extBut _ o hne e, r⟩, j.later hk' hnn⟩

theorem Rep.nodupC (R : Rep X σ s) : (X.env.cells.map (·.2)).Nodup := (List.nodup_append.mp (List.nodup_cons.mp R.apart).2).1

/-- a new object that may change from now on -/
theorem Rep.addMu (R : Rep X σ s) (o : Obj) {tk : Nat} (hf : o.isFreed = false) : Rep X { σ with mu := s.heap.objs.size :: σ.mu } { s with heap := s.heap.push o, toks := tk } ∧ Later X σ s { σ with mu := s.heap.objs.size :: σ.mu } { s with heap := s.heap.push o, toks := tk } := by
  have hk : ∀ b o', s.heap.get? b = some o' → (s.heap.push o).get? b = some o' := fun b o' e => Heap.get?_push_of_some _ e
  have hn' : ∀ b ∈ (s.heap.objs.size :: σ.mu) ++ σ.av, b ∈ σ.mu ++ σ.av ∨ s.heap.get? b = none := fun b hb => by
    rcases List.mem_cons.mp hb with rfl | hb
    · exact .inr (get_size _)
    · exact .inl hb
  have hn : ∀ b ∈ off X { σ with mu := s.heap.objs.size :: σ.mu }, b ∈ off X σ ∨ s.heap.get? b = none := off_new (σ' := { σ with mu := s.heap.objs.size :: σ.mu }) hn'
  have al : ∀ b, Alive s.heap b → Alive (s.heap.push o) b := fun b x => x.keep fun o e => hk b o e
  refine ⟨⟨R.ok, ?_, fun b o hb e => hk b o (R.keep b o hb e), R.frsStep fun b o _ e => hk b o e, R.tab.later (fun o e => hk _ o e) (fun b o _ e => hk b o e) hn, fun b hb => ?_, List.mem_cons_of_mem _ R.lmut, ?_, ?_, fun m x c a b => List.mem_cons_of_mem _ (R.cmut m x c a b), ?_, R.apart, fun c hc => al c (R.clt c hc), R.mlt, fun b hb => ?_⟩, ⟨fun b o _ _ e => hk b o e, hn', fun b hb => ?_, fun _ h => h, fun b hb => al b (hb.elim (fun q => (R.new b q).2) R.wildAlive)⟩⟩
  · obtain ⟨h, t, e⟩ := R.sh; exact ⟨_, tk, by rw [e]⟩
  · rcases List.mem_cons.mp hb with rfl | hb
    · exact ⟨R.size, _, Heap.get?_push_size _ hf⟩
    · exact ⟨(R.new b hb).1, al b (R.new b hb).2⟩
  · obtain ⟨m, n⟩ := R.ns; exact ⟨m, n.at fun o e => hk _ o e⟩
  · exact fun x v e => (R.var x v e).later (fun o e => hk _ o e) (fun c o hc e => hk c o e) (fun b o _ e => hk b o e) hn
  · intro b vs hb
    obtain ⟨h1, vals, p, i⟩ := R.own b vs hb
    exact ⟨List.mem_cons_of_mem _ h1, vals, p.keeps hk, i.later (fun b o _ e => hk b o e) hn⟩
  · have z := R.avn b hb
    refine ⟨z.1, al b z.2.1, fun hm => ?_, z.2.2.2⟩
    rcases List.mem_cons.mp hm with q | hm
    · exact Nat.lt_irrefl _ (q ▸ z.2.1.lt)
    · exact z.2.2.1 hm
  · rcases List.mem_cons.mp hb with rfl | hb
    · exact .inr (get_size _)
    · exact .inl hb

/-- a new object that the code at hand leaves as it is, and that may change apart from it -/
theorem Rep.addAv (R : Rep X σ s) (o : Obj) {tk : Nat} (hf : o.isFreed = false) : Rep X { σ with av := s.heap.objs.size :: σ.av } { s with heap := s.heap.push o, toks := tk } ∧ Later X σ s { σ with av := s.heap.objs.size :: σ.av } { s with heap := s.heap.push o, toks := tk } := by
  have hk : ∀ b o', s.heap.get? b = some o' → (s.heap.push o).get? b = some o' := fun b o' e => Heap.get?_push_of_some _ e
  have hn' : ∀ b ∈ σ.mu ++ (s.heap.objs.size :: σ.av), b ∈ σ.mu ++ σ.av ∨ s.heap.get? b = none := fun b hb => by
    rcases List.mem_append.mp hb with hb | hb
    · exact .inl (List.mem_append_left _ hb)
    · rcases List.mem_cons.mp hb with rfl | hb
      · exact .inr (get_size _)
      · exact .inl (List.mem_append_right _ hb)
  have hn : ∀ b ∈ off X { σ with av := s.heap.objs.size :: σ.av }, b ∈ off X σ ∨ s.heap.get? b = none := off_new (σ' := { σ with av := s.heap.objs.size :: σ.av }) hn'
  have al : ∀ b, Alive s.heap b → Alive (s.heap.push o) b := fun b x => x.keep fun o e => hk b o e
  refine ⟨⟨R.ok, ?_, fun b o hb e => hk b o (R.keep b o hb e), R.frsStep fun b o _ e => hk b o e, R.tab.later (fun o e => hk _ o e) (fun b o _ e => hk b o e) hn, fun b hb => ⟨(R.new b hb).1, al b (R.new b hb).2⟩, R.lmut, ?_, ?_, R.cmut, ?_, R.apart, fun c hc => al c (R.clt c hc), R.mlt, fun b hb => ?_⟩, ⟨fun b o _ _ e => hk b o e, hn', fun b hb => .inl hb, fun _ h => List.mem_cons_of_mem _ h, fun b hb => al b (hb.elim (fun q => (R.new b q).2) R.wildAlive)⟩⟩
  · obtain ⟨h, t, e⟩ := R.sh; exact ⟨_, tk, by rw [e]⟩
  · obtain ⟨m, n⟩ := R.ns; exact ⟨m, n.at fun o e => hk _ o e⟩
  · exact fun x v e => (R.var x v e).later (fun o e => hk _ o e) (fun c o hc e => hk c o e) (fun b o _ e => hk b o e) hn
  · intro b vs hb
    obtain ⟨h1, vals, p, i⟩ := R.own b vs hb
    exact ⟨h1, vals, p.keeps hk, i.later (fun b o _ e => hk b o e) hn⟩
  · rcases List.mem_cons.mp hb with rfl | hb
    · exact ⟨R.size, ⟨_, Heap.get?_push_size _ hf⟩, fun hm => Nat.lt_irrefl _ (R.new _ hm).2.lt, fun hm => Nat.lt_irrefl _ (R.clt _ hm).lt⟩
    · have z := R.avn b hb
      exact ⟨z.1, al b z.2.1, z.2.2⟩

/-- everything that a fact speaks of lies below the heap's end -/
theorem Rep.pin_lt (R : Rep X σ s) : ∀ b ∈ pinned X σ, b < s.heap.objs.size := by
  intro b hb
  rcases List.mem_cons.mp hb with rfl | hb
  · exact (R.new _ R.lmut).2.lt
  · rcases List.mem_append.mp hb with hb | hb
    · exact (R.clt b hb).lt
    · obtain ⟨⟨a, vs⟩, hm, rfl⟩ := List.mem_map.mp hb
      exact (R.new _ (R.own a vs hm).1).2.lt

/-- a new list of the activation's own -/
theorem Rep.newOwn (R : Rep X σ s) {vs : List V} {vals : List Value} {n : Nat} {tk : Nat} (i : VAll s.heap (off X σ) vs vals) :
    Rep X { σ with mu := s.heap.objs.size :: σ.mu, own := (s.heap.objs.size, vs) :: σ.own } { s with heap := s.heap.push { cls := .type "list", data := .seq vals.toArray n }, toks := tk } ∧
      Later X σ s { σ with mu := s.heap.objs.size :: σ.mu, own := (s.heap.objs.size, vs) :: σ.own } { s with heap := s.heap.push { cls := .type "list", data := .seq vals.toArray n }, toks := tk } := by
  obtain ⟨R', L'⟩ := R.addMu (tk := tk) { cls := .type "list", data := .seq vals.toArray n } rfl
  refine ⟨⟨R'.ok, R'.sh, R'.keep, R'.frs, R'.tab, R'.new, R'.lmut, R'.ns, R'.var, R'.cmut, fun a ws hm => ?_, ?_, R'.clt, R'.mlt, R'.avn⟩, ⟨L'.keep, L'.new, L'.newM, L'.av, L'.live⟩⟩
  · rcases List.mem_cons.mp hm with e | hm
    · cases e
      exact ⟨List.mem_cons_self, vals, ⟨_, n, Heap.get?_push_size _ rfl, rfl, rfl, rfl⟩, Later.vall R L' i⟩
    · exact R'.own a ws hm
  · have lt := R.pin_lt
    have ap := List.nodup_cons.mp R.apart
    have ap2 := List.nodup_append.mp ap.2
    refine List.nodup_cons.mpr ⟨fun hm => ?_, List.nodup_append.mpr ⟨ap2.1, List.nodup_cons.mpr ⟨fun hm => ?_, ap2.2.1⟩, fun a ha b hb q => ?_⟩⟩
    · rcases List.mem_append.mp hm with hm | hm
      · exact ap.1 (List.mem_append_left _ hm)
      · rcases List.mem_cons.mp hm with q | hm
        · have := lt X.env.locals List.mem_cons_self
          rw [q] at this; exact Nat.lt_irrefl _ this
        · exact ap.1 (List.mem_append_right _ hm)
    · exact Nat.lt_irrefl _ (lt _ (List.mem_cons_of_mem _ (List.mem_append_right _ hm)))
    · rcases List.mem_cons.mp hb with r | hb
      · rw [q, r] at ha
        exact Nat.lt_irrefl _ (R.clt _ ha).lt
      · exact ap2.2.2 a ha b hb q

inductive OwnSet (a : Addr) (vs vs' : List V) : List (Addr × List V) → List (Addr × List V) → Prop
  | head {r} : OwnSet a vs vs' ((a, vs) :: r) ((a, vs') :: r)
  | tail {p r r'} : OwnSet a vs vs' r r' → OwnSet a vs vs' (p :: r) (p :: r')
theorem OwnSet.mem {a : Addr} {vs vs' : List V} : ∀ {l l'}, OwnSet a vs vs' l l' → (a, vs) ∈ l
  | _, _, .head => List.mem_cons_self
  | _, _, .tail r => List.mem_cons_of_mem _ r.mem
theorem OwnSet.keys {a : Addr} {vs vs' : List V} : ∀ {l l'}, OwnSet a vs vs' l l' → l'.map (·.1) = l.map (·.1)
  | _, _, .head => rfl
  | _, _, .tail r => by rw [List.map_cons, List.map_cons, r.keys]
theorem OwnSet.back {a : Addr} {vs vs' : List V} : ∀ {l l'}, OwnSet a vs vs' l l' → (l.map (·.1)).Nodup → ∀ b ws, (b, ws) ∈ l' → (b = a ∧ ws = vs') ∨ (b ≠ a ∧ (b, ws) ∈ l)
  | _, _, .head, hn, b, ws, hm => by
    rcases List.mem_cons.mp hm with e | hm
    · cases e; exact .inl ⟨rfl, rfl⟩
    · refine .inr ⟨fun q => (List.nodup_cons.mp hn).1 (q ▸ List.mem_map.mpr ⟨(b, ws), hm, rfl⟩), List.mem_cons_of_mem _ hm⟩
  | _, _, .tail (p := p) r, hn, b, ws, hm => by
    have nd := List.nodup_cons.mp hn
    rcases List.mem_cons.mp hm with e | hm
    · subst e
      refine .inr ⟨fun q => nd.1 ?_, List.mem_cons_self⟩
      have : b = a := q
      subst this
      exact List.mem_map.mpr ⟨(b, vs), r.mem, rfl⟩
    · exact (r.back nd.2 b ws hm).imp id fun ⟨x, y⟩ => ⟨x, List.mem_cons_of_mem _ y⟩

/-- a list of the activation's own is changed -/
theorem Rep.setOwn (R : Rep X σ s) {a : Addr} {vs vs' : List V} {own' : List (Addr × List V)} {h' : Heap} {tk : Nat} {vals' : List Value} (O : OwnSet a vs vs' σ.own own') (i : VAll s.heap (off X σ) vs' vals')
    (hp : PlainL h' a vals'.toArray) (hs : Heap.SameBut a s.heap h') :
    Rep X { σ with own := own' } { s with heap := h', toks := tk } ∧ Later X σ s { σ with own := own' } { s with heap := h', toks := tk } := by
  have ham := (R.own a vs O.mem).1
  have hap : a ∈ σ.own.map (·.1) := List.mem_map.mpr ⟨(a, vs), O.mem, rfl⟩
  have hk' : ∀ b o, b ∉ off X σ → s.heap.get? b = some o → h'.get? b = some o := fun b o hb e => hs.extBut b o (fun q => hb (off_mu (q ▸ ham))) e
  have hnn : ∀ b ∈ off X σ, b ∈ off X σ ∨ s.heap.get? b = none := fun b hb => .inl hb
  have ap := List.nodup_cons.mp R.apart
  have al : ∀ b, Alive s.heap b → Alive h' b := fun b x => by
    by_cases q : b = a
    · rw [q]; exact let ⟨o, _, e, _⟩ := hp; ⟨o, e⟩
    · exact x.keep fun o e => hs.extBut b o q e
  have ap2 := List.nodup_append.mp ap.2
  have hL : X.env.locals ≠ a := fun q => ap.1 (List.mem_append_right _ (q ▸ hap))
  have hC : ∀ c, c ∈ X.env.cells.map (·.2) → c ≠ a := fun c hc => ap2.2.2 c hc a hap
  refine ⟨⟨R.ok, ?_, ?_, R.frsStep fun b o hb e => hs.extBut b o (fun q => Nat.lt_irrefl _ (Nat.lt_of_lt_of_le (q ▸ hb) (R.new _ ham).1)) e, R.tab.later (fun o e => hs.extBut _ o (Ne.symm (R.mu_ne ham)) e) hk' hnn, fun b hb => ⟨(R.new b hb).1, al b (R.new b hb).2⟩, R.lmut, ?_, ?_, R.cmut, ?_, ?_, fun c hc => al c (R.clt c hc), R.mlt, fun b hb => let z := R.avn b hb; ⟨z.1, al b z.2.1, z.2.2⟩⟩, ⟨fun b o hb _ e => hs.extBut b o (fun q => hb (q ▸ ham)) e, fun b hb => .inl hb, fun b hb => .inl hb, fun _ h => h, fun b hb => al b (hb.elim (fun q => (R.new b q).2) R.wildAlive)⟩⟩
  · obtain ⟨h, t, e⟩ := R.sh; exact ⟨h', tk, by rw [e]⟩
  · exact fun b o hb e => hs.extBut b o (fun q => R.mu_s₀ ham (q ▸ e)) (R.keep b o hb e)
  · obtain ⟨m, n⟩ := R.ns; exact ⟨m, n.at fun o e => hs.extBut _ o hL e⟩
  · exact fun x v e => (R.var x v e).later (fun o e => hs.extBut _ o hL e) (fun c o hc e => hs.extBut c o (hC c hc) e) hk' hnn
  · intro b ws hb
    rcases O.back ap2.2.1 b ws hb with ⟨rfl, rfl⟩ | ⟨hne, hm⟩
    · exact ⟨ham, vals', hp, i.later hk' hnn⟩
    · obtain ⟨h1, vals, p, j⟩ := R.own b ws hm
      exact ⟨h1, vals, let ⟨o, n, e, r⟩ := p; ⟨o, n, hs.extBut _ o hne e, r⟩, j.later hk' hnn⟩
  · show (X.env.locals :: (X.env.cells.map (·.2) ++ own'.map (·.1))).Nodup
    rw [O.keys]; exact R.apart
end
end Mine
end
section
open PySem PySem.W PyProof.Rows PySem.Spec PySem.Calls
namespace Mine
section
variable {X : Act} {σ : St} {K : V → St → Prop} {KF : Fl → St → Prop} {KB : Bool → St → Prop}

theorem kd {env : Env} {sc : Scope} {x : Str} {k : NameKind} (h : env.scope = sc) (e : sc.names.lookup x = some k) : env.kindOf x = some k := by unfold Env.kindOf; rw [h]; exact e
theorem Ev_global {x : Str} {pos : Pos} {v : Value} (h : K (.any v) σ) (e : nsIn (heapK X.w.params) mainGlobals x = some (some v) := by rfl) (hk : X.env.kindOf x = some .globalImplicit := by first | assumption | exact kd (by assumption) (by rfl)) (hd : (x == ("__debug__" : Str)) = false := by decide) : Ev X (eval (.Name x pos) X.env) σ K := by
  intro s Q E R hQ
  obtain ⟨p, loose, mean, mg, mb, T'⟩ := R.ok.top
  have T := topRead_of T'
  exact Name_function_global R.ok.kind hk (loadGlobal_global (env := X.env) (by rw [R.ok.glob]; exact T.g.keeps R.base) (mg_of R.ok.kin T.g e) (hQ _ _ _ _ R (.refl R) (.any v) h)) hd
theorem Ev_builtin {x : Str} {pos : Pos} {v : Value} (h : K (.any v) σ) (hb : bootBuiltins x = some v := by rfl) (e : nsIn (heapK X.w.params) mainGlobals x = some none := by rfl) (hk : X.env.kindOf x = some .globalImplicit := by first | assumption | exact kd (by assumption) (by rfl)) (hn : x ≠ "__name__" := by decide) (hd : (x == ("__debug__" : Str)) = false := by decide) : Ev X (eval (.Name x pos) X.env) σ K := by
  intro s Q E R hQ
  obtain ⟨p, loose, mean, mg, mb, T'⟩ := R.ok.top
  have T := topRead_of T'
  exact Name_function_global R.ok.kind hk (loadGlobal_builtin (env := X.env) (by rw [R.ok.glob]; exact T.g.keeps R.base) (mg_none_of R.ok.kin T.g e) (by rw [R.ok.blt]; exact T.b.keeps R.base) ((T.builtins x hn).trans hb) (hQ _ _ _ _ R (.refl R) (.any v) h)) hd

theorem Ev_nameL {x : Str} {pos : Pos} {v : V} (h : K v σ) (hk : X.env.kindOf x = some .local := by first | assumption | exact kd (by assumption) (by rfl)) (hl : σ.loc.lookup x = some v := by repeat (first | exact lk_hit | (apply lk_miss; · decide) | assumption)) (hv : v ≠ .undef := by first | assumption | nofun) (hd : (x == ("__debug__" : Str)) = false := by decide) : Ev X (eval (.Name x pos) X.env) σ K := by
  intro s Q E R hQ
  obtain ⟨m, val, n, e, i⟩ := (R.var x v hl).loc hk hv
  exact wpAny_Name (wpAny_loadName_local R.ok.kind hk n e (hQ _ _ _ _ R (.refl R) i h)) hd
theorem Ev_nameC {x : Str} {pos : Pos} {v : V} (h : K v σ) (hk : X.env.kindOf x = some .cell := by first | assumption | exact kd (by assumption) (by rfl)) (hl : σ.loc.lookup x = some v := by repeat (first | exact lk_hit | (apply lk_miss; · decide) | assumption)) (hv : v ≠ .undef := by first | assumption | nofun) (hd : (x == ("__debug__" : Str)) = false := by decide) : Ev X (eval (.Name x pos) X.env) σ K := by
  intro s Q E R hQ
  obtain ⟨c, vo, hc, hx, i⟩ := (R.var x v hl).cell (.inl hk)
  obtain ⟨val, rfl, j⟩ := i hv
  exact wpAny_Name (wpAny_loadName_cell R.ok.kind hk hc hx (hQ _ _ _ _ R (.refl R) j h)) hd
theorem Ev_nameF {x : Str} {pos : Pos} {v : V} (h : K v σ) (hk : X.env.kindOf x = some .free := by first | assumption | exact kd (by assumption) (by rfl)) (hl : σ.loc.lookup x = some v := by repeat (first | exact lk_hit | (apply lk_miss; · decide) | assumption)) (hv : v ≠ .undef := by first | assumption | nofun) (hd : (x == ("__debug__" : Str)) = false := by decide) (hn : (x == ("__classdict__" : Str)) = false := by decide) : Ev X (eval (.Name x pos) X.env) σ K := by
  intro s Q E R hQ
  obtain ⟨c, vo, hc, hx, i⟩ := (R.var x v hl).cell (.inr hk)
  obtain ⟨val, rfl, j⟩ := i hv
  exact wpAny_Name (wpAny_loadName_free R.ok.kind hk hc hx (hQ _ _ _ _ R (.refl R) j h) hn) hd

theorem Ev_none {k : Nat} {pos : Pos} (h : K .none σ) : Ev X (eval (.Constant .none k pos) X.env) σ K := by
  intro s Q E R hQ
  rw [eval_Constant]
  exact wpAny_pure (hQ _ _ _ _ R (.refl R) .none h)
theorem Ev_bool {b : Bool} {k : Nat} {pos : Pos} (h : K (.bool b) σ) : Ev X (eval (.Constant (.bool b) k pos) X.env) σ K := by
  intro s Q E R hQ
  rw [eval_Constant]
  exact wpAny_pure (hQ _ _ _ _ R (.refl R) (.bool b) h)
theorem Ev_int {i : Int} {k : Nat} {pos : Pos} (h : K (.int i) σ) : Ev X (eval (.Constant (.int i) k pos) X.env) σ K := by
  intro s Q E R hQ
  exact wpAny_Constant_int (hQ _ _ _ _ R.tok.1 R.tok.2 (.int i _) h)
theorem Ev_str {x : Str} {k : Nat} {pos : Pos} (h : K (.str x) σ) : Ev X (eval (.Constant (.str x) k pos) X.env) σ K := by
  intro s Q E R hQ
  show wpAny _ _ (mkText x) _ _ s
  exact wpAny_mkText (hQ _ _ _ _ R.tok.1 R.tok.2 (.str x _) h)

theorem Ev_bin {l r : Expr} {op : Operator} {pos : Pos} (h : Ev X (eval l X.env) σ fun a σ₁ => Ev X (eval r X.env) σ₁ fun b σ₂ => Op2 X (binaryOp op) a b σ₂ K) : Ev X (eval (.BinOp l op r pos) X.env) σ K := by
  intro s Q E R hQ
  refine wpAny_BinOp (h s _ _ R fun va a σ₁ s₁ R₁ L₁ i₁ h₁ => h₁ s₁ _ _ R₁ fun vb b σ₂ s₂ R₂ L₂ i₂ h₂ => ?_)
  exact h₂ s₂ va vb _ _ R₂ (L₂.vin R₁ i₁) i₂ fun val v σ' s' R' L' i' k => hQ val v σ' s' R' ((L₁.trans L₂).trans L') i' k
theorem Ev_cmp {l r : Expr} {op : CmpOp} {pos : Pos} (h : Ev X (eval l X.env) σ fun a σ₁ => Ev X (eval r X.env) σ₁ fun b σ₂ => Op2 X (compareOp op) a b σ₂ K) (hm : behindInMarks op r = false := by with_unfolding_all rfl) : Ev X (eval (.Compare l [op] [r] pos) X.env) σ K := by
  intro s Q E R hQ
  refine wpAny_Compare1 (h s _ _ R fun va a σ₁ s₁ R₁ L₁ i₁ h₁ => h₁ s₁ _ _ R₁ fun vb b σ₂ s₂ R₂ L₂ i₂ h₂ => ?_) hm
  exact h₂ s₂ va vb _ _ R₂ (L₂.vin R₁ i₁) i₂ fun val v σ' s' R' L' i' k => hQ val v σ' s' R' ((L₁.trans L₂).trans L') i' k
theorem Tr_cmp {l r : Expr} {op : CmpOp} {pos : Pos} {whole : Sem Value} (h : Ev X (eval l X.env) σ fun a σ₁ => Ev X (eval r X.env) σ₁ fun b σ₂ => Op2 X (compareOp op) a b σ₂ fun c σ₃ => OpB X truthy c σ₃ KB) (hm : behindInMarks op r = false := by with_unfolding_all rfl) : Tr X (isTrue (.Compare l [op] [r] pos) X.env whole) σ KB := by
  intro s Q E R hQ
  refine wpAny_isTrue_Compare1 (h s _ _ R fun va a σ₁ s₁ R₁ L₁ i₁ h₁ => h₁ s₁ _ _ R₁ fun vb b σ₂ s₂ R₂ L₂ i₂ h₂ => ?_) hm
  refine h₂ s₂ va vb _ _ R₂ (L₂.vin R₁ i₁) i₂ fun vc c σ₃ s₃ R₃ L₃ i₃ h₃ => ?_
  exact h₃ s₃ vc _ _ R₃ i₃ fun b σ' s' R' L' k => hQ b σ' s' R' (((L₁.trans L₂).trans L₃).trans L') k
theorem Ev_una {op : UnaryOp} {x : Expr} {pos : Pos} (h : Ev X (eval x X.env) σ fun a σ₁ => Op1 X (unaryOp op) a σ₁ K) : Ev X (eval (.UnaryOp op x pos) X.env) σ K := by
  intro s Q E R hQ
  refine wpAny_UnaryOp (h s _ _ R fun va a σ₁ s₁ R₁ L₁ i₁ h₁ => h₁ s₁ va _ _ R₁ i₁ fun val v σ' s' R' L' i' k => hQ val v σ' s' R' (L₁.trans L') i' k)

/-- two ways -/
def brK (b : Bool) (p q : Prop) : Prop := match b with | true => p | false => q
theorem brK_t {p q : Prop} (h : p) : brK true p q := h
theorem brK_f {p q : Prop} (h : q) : brK false p q := h
theorem brK_split {b : Bool} {p q : Prop} (h : b = true → p) (k : b = false → q) : brK b p q := by cases b; exact k rfl; exact h rfl
theorem brK_of_t {b : Bool} {p q : Prop} (e : b = true) (h : p) : brK b p q := by subst e; exact h
theorem brK_of_f {b : Bool} {p q : Prop} (e : b = false) (h : q) : brK b p q := by subst e; exact h

theorem Ev_ifexp {test body orelse : Expr} {pos : Pos} (h : Tr X (isTrue test X.env (eval test X.env)) σ fun b σ₁ => brK b (Ev X (eval body X.env) σ₁ K) (Ev X (eval orelse X.env) σ₁ K)) : Ev X (eval (.IfExp test body orelse pos) X.env) σ K := by
  intro s Q E R hQ
  refine wpAny_IfExp (h s _ _ R fun b σ₁ s₁ R₁ L₁ h₁ => ?_)
  cases b <;> exact h₁ s₁ _ _ R₁ fun val v σ' s' R' L' i' k => hQ val v σ' s' R' (L₁.trans L') i' k
theorem Tr_not {x : Expr} {pos : Pos} {whole : Sem Value} (h : Tr X (isTrue x X.env (eval x X.env)) σ fun b σ₁ => KB (!b) σ₁) : Tr X (isTrue (.UnaryOp .Not x pos) X.env whole) σ KB := by
  intro s Q E R hQ
  exact wpAny_isTrue_Not (h s _ _ R fun b σ' s' R' L' k => hQ _ σ' s' R' L' k)
theorem Tr_and {x : Expr} {rest : List Expr} {pos : Pos} {whole : Sem Value} (h : Tr X (isTrue x X.env (eval x X.env)) σ fun b σ₁ => brK b (Tr X (isTrue (.BoolOp .And rest pos) X.env (pure .none)) σ₁ KB) (KB false σ₁)) : Tr X (isTrue (.BoolOp .And (x :: rest) pos) X.env whole) σ KB := by
  intro s Q E R hQ
  rw [arm_isTrue_BoolOp]
  show wpAny _ _ (do match BoolOp.And, ← isTrue x X.env (eval x X.env) with | .And, false => pure false | .Or, true => pure true | _, _ => allTrue .And rest X.env) _ _ s
  refine wpAny_bind (h s _ _ R fun b σ₁ s₁ R₁ L₁ h₁ => ?_)
  cases b with
  | false => exact wpAny_pure (hQ _ σ₁ s₁ R₁ L₁ h₁)
  | true => exact h₁ s₁ _ _ R₁ fun b σ' s' R' L' k => hQ b σ' s' R' (L₁.trans L') k
theorem Tr_or {x : Expr} {rest : List Expr} {pos : Pos} {whole : Sem Value} (h : Tr X (isTrue x X.env (eval x X.env)) σ fun b σ₁ => brK b (KB true σ₁) (Tr X (isTrue (.BoolOp .Or rest pos) X.env (pure .none)) σ₁ KB)) : Tr X (isTrue (.BoolOp .Or (x :: rest) pos) X.env whole) σ KB := by
  intro s Q E R hQ
  rw [arm_isTrue_BoolOp]
  show wpAny _ _ (do match BoolOp.Or, ← isTrue x X.env (eval x X.env) with | .And, false => pure false | .Or, true => pure true | _, _ => allTrue .Or rest X.env) _ _ s
  refine wpAny_bind (h s _ _ R fun b σ₁ s₁ R₁ L₁ h₁ => ?_)
  cases b with
  | true => exact wpAny_pure (hQ _ σ₁ s₁ R₁ L₁ h₁)
  | false => exact h₁ s₁ _ _ R₁ fun b σ' s' R' L' k => hQ b σ' s' R' (L₁.trans L') k
theorem Tr_and0 {pos : Pos} {whole : Sem Value} (h : KB true σ) : Tr X (isTrue (.BoolOp .And [] pos) X.env whole) σ KB := fun s _ _ R hQ => wpAny_pure (a := true) (hQ _ σ s R (.refl R) h)
theorem Tr_or0 {pos : Pos} {whole : Sem Value} (h : KB false σ) : Tr X (isTrue (.BoolOp .Or [] pos) X.env whole) σ KB := fun s _ _ R hQ => wpAny_pure (a := false) (hQ _ σ s R (.refl R) h)
/-- any other expression -/
theorem Tr_any {e : Expr} (he : isTrue e X.env (eval e X.env) = (do let v ← eval e X.env; standAt e.pos; holding [v] (truthy v))) (h : Ev X (eval e X.env) σ fun a σ₁ => OpB X truthy a σ₁ KB) : Tr X (isTrue e X.env (eval e X.env)) σ KB := by
  intro s Q E R hQ
  rw [he]
  refine wpAny_bind (h s _ _ R fun va a σ₁ s₁ R₁ L₁ i₁ h₁ => wpAny_bind (wpAny_standAt (wpAny_holding ?_)))
  exact h₁ s₁ va _ _ R₁ i₁ fun b σ' s' R' L' k => hQ b σ' s' R' (L₁.trans L') k

theorem Ex_nil (h : KF .next σ) : Ex X (execs [] X.env) σ KF := fun _ _ _ R hQ => wpAny_execs_nil (hQ _ _ _ _ R (.refl R) .next h)
def seqK (X : Act) (rest : List Stmt) (K : Fl → St → Prop) (fl : Fl) (σ : St) : Prop := match fl with
  | .next => Ex X (execs rest X.env) σ K
  | fl => K fl σ
theorem seqK_next {rest : List Stmt} (h : Ex X (execs rest X.env) σ KF) : seqK X rest KF .next σ := h
theorem seqK_brk {rest : List Stmt} (h : KF .brk σ) : seqK X rest KF .brk σ := h
theorem seqK_cont {rest : List Stmt} (h : KF .cont σ) : seqK X rest KF .cont σ := h
theorem seqK_ret {rest : List Stmt} {v : V} (h : KF (.ret v) σ) : seqK X rest KF (.ret v) σ := h
theorem Ex_cons {st : Stmt} {rest : List Stmt} (h : Ex X (exec st X.env) σ (seqK X rest KF)) : Ex X (execs (st :: rest) X.env) σ KF := by
  intro s Q E R hQ
  refine wpAny_execs_cons (h s _ _ R fun f fl σ₁ s₁ R₁ L₁ i₁ h₁ => ?_)
  cases i₁ with
  | next => exact h₁ s₁ _ _ R₁ fun f fl σ' s' R' L' i' k => hQ f fl σ' s' R' (L₁.trans L') i' k
  | brk => exact hQ _ _ _ _ R₁ L₁ .brk h₁
  | cont => exact hQ _ _ _ _ R₁ L₁ .cont h₁
  | ret i => exact hQ _ _ _ _ R₁ L₁ (.ret i) h₁

theorem Un_storeL {x : Str} {v : V} {val : Value} {s : Shared} {Q : Unit → Shared → Prop} {E : Value → Shared → Prop} (R : Rep X σ s) (hk : X.env.kindOf x = some .local) (i : VIn s.heap (off X σ) v val)
    (h : ∀ s', Rep X { σ with loc := (x, v) :: σ.loc } s' → Later X σ s { σ with loc := (x, v) :: σ.loc } s' → Q () s') : wpAny (model X.prog X.w) X.A (storeName X.env x val) Q E s := by
  obtain ⟨m, n⟩ := R.ns
  exact wpAny_storeName_local hk n (fun h' hn hs => let z := R.store (tk := s.toks + 1) hk i n hn hs; h _ z.1 z.2) R.kindp
theorem Un_storeC {x : Str} {v : V} {val : Value} {s : Shared} {Q : Unit → Shared → Prop} {E : Value → Shared → Prop} (R : Rep X σ s) (hmine : X.mine = true) (hk : X.env.kindOf x = some .cell) {u : V} (hl : σ.loc.lookup x = some u) (i : VIn s.heap (off X σ) v val)
    (h : ∀ s', Rep X { σ with loc := (x, v) :: σ.loc } s' → Later X σ s { σ with loc := (x, v) :: σ.loc } s' → Q () s') : wpAny (model X.prog X.w) X.A (storeName X.env x val) Q E s := by
  obtain ⟨c, vo, hc, hx, _⟩ := (R.var x u hl).cell (.inl hk)
  exact wpAny_storeName_cell R.ok.kind hk hc hx fun h' hn hs => let z := R.storeC (tk := s.toks) hmine hk hc i hn hs R.nodupC; h _ z.1 z.2

theorem Ex_assign {x : Str} {px pos : Pos} {value : Expr} (h : Ev X (eval value X.env) σ fun v σ₁ => KF .next { σ₁ with loc := (x, v) :: σ₁.loc })
    (hk : X.env.kindOf x = some .local := by first | assumption | exact kd (by assumption) (by rfl))
    (hs : swapsWith value (some (.Name x px)) pos.line X.env = pure false := by rfl) : Ex X (exec (.Assign [.Name x px] value pos) X.env) σ KF := by
  intro s Q E R hQ
  refine wpAny_Assign_Name (h s _ _ R fun val v σ₁ s₁ R₁ L₁ i₁ h₁ => ?_) hs
  exact Un_storeL R₁ hk i₁ fun s' R' L' => hQ _ _ _ _ R' (L₁.trans L') .next h₁
theorem Ex_assignC {x : Str} {px pos : Pos} {value : Expr} (hmine : X.mine = true) (h : Ev X (eval value X.env) σ fun v σ₁ => (∃ u, σ₁.loc.lookup x = some u) ∧ KF .next { σ₁ with loc := (x, v) :: σ₁.loc })
    (hk : X.env.kindOf x = some .cell := by first | assumption | exact kd (by assumption) (by rfl))
    (hs : swapsWith value (some (.Name x px)) pos.line X.env = pure false := by rfl) : Ex X (exec (.Assign [.Name x px] value pos) X.env) σ KF := by
  intro s Q E R hQ
  refine wpAny_Assign_Name (h s _ _ R fun val v σ₁ s₁ R₁ L₁ i₁ h₁ => ?_) hs
  obtain ⟨⟨u, hu⟩, h₁⟩ := h₁
  exact Un_storeC R₁ hmine hk hu i₁ fun s' R' L' => hQ _ _ _ _ R' (L₁.trans L') .next h₁
theorem Ex_aug {x : Str} {px pos : Pos} {op : Operator} {value : Expr} {old : V} (h : Ev X (eval value X.env) σ fun v σ₁ => Op2 X (inplaceOp op) old v σ₁ fun r σ₂ => KF .next { σ₂ with loc := (x, r) :: σ₂.loc })
    (hk : X.env.kindOf x = some .local := by first | assumption | exact kd (by assumption) (by rfl)) (hl : σ.loc.lookup x = some old := by repeat (first | exact lk_hit | (apply lk_miss; · decide) | assumption)) (hv : old ≠ .undef := by first | assumption | nofun) : Ex X (exec (.AugAssign (.Name x px) op value pos) X.env) σ KF := by
  intro s Q E R hQ
  obtain ⟨m, val, n, e, i⟩ := (R.var x old hl).loc hk hv
  refine wpAny_AugAssign_Name (wpAny_loadName_local R.ok.kind hk n e (h s _ _ R fun vb b σ₁ s₁ R₁ L₁ i₁ h₁ => ?_))
  refine h₁ s₁ val vb _ _ R₁ (L₁.vin R i) i₁ fun vc c σ₂ s₂ R₂ L₂ i₂ h₂ => ?_
  exact Un_storeL R₂ hk i₂ fun s' R' L' => hQ _ _ _ _ R' ((L₁.trans L₂).trans L') .next h₂
theorem Ex_if {test : Expr} {body orelse : List Stmt} {pos : Pos} (h : Tr X (isTrue test X.env (eval test X.env)) σ fun b σ₁ => brK b (Ex X (execs body X.env) σ₁ KF) (Ex X (execs orelse X.env) σ₁ KF)) : Ex X (exec (.If test body orelse pos) X.env) σ KF := by
  intro s Q E R hQ
  refine wpAny_If (h s _ _ R fun b σ₁ s₁ R₁ L₁ h₁ => ?_)
  cases b <;> exact h₁ s₁ _ _ R₁ fun f fl σ' s' R' L' i' k => hQ f fl σ' s' R' (L₁.trans L') i' k
theorem Ex_return {e : Expr} {pos : Pos} (h : Ev X (eval e X.env) σ fun v σ₁ => KF (.ret v) σ₁) : Ex X (exec (.Return (some e) pos) X.env) σ KF := by
  intro s Q E R hQ
  exact wpAny_Return_some (h s _ _ R fun val v σ₁ s₁ R₁ L₁ i₁ h₁ => hQ _ _ _ _ R₁ L₁ (.ret i₁) h₁)
theorem Ex_break {pos : Pos} (h : KF .brk σ) : Ex X (exec (.Break pos) X.env) σ KF := fun _ _ _ R hQ => wpAny_Break (hQ _ _ _ _ R (.refl R) .brk h)
theorem Ex_assert {test : Expr} {msg : Option Expr} {pos : Pos} (h : Tr X (isTrue test X.env (eval test X.env)) σ fun b σ₁ => b = true ∧ KF .next σ₁) : Ex X (exec (.Assert test msg pos) X.env) σ KF := by
  intro s Q E R hQ
  exact wpAny_Assert_holds (h s _ _ R fun b σ₁ s₁ R₁ L₁ h₁ => ⟨h₁.1, hQ _ _ _ _ R₁ L₁ .next h₁.2⟩)
/-- an expression statement whose value is None -/
theorem Ex_expr {e : Expr} {pos : Pos} (h : Ev X (eval e X.env) σ fun v σ₁ => v = .none ∧ KF .next σ₁) (hs : swapsWith e none pos.line X.env = pure false := by rfl) : Ex X (exec (.Expr e pos) X.env) σ KF := by
  intro s Q E R hQ
  refine wpAny_Expr (h s _ _ R fun val v σ₁ s₁ R₁ L₁ i₁ h₁ => ?_) (by unfold interactive; rw [R.ok.kind]; rfl) hs
  obtain ⟨rfl, h₁⟩ := h₁
  cases i₁
  exact hQ _ _ _ _ R₁ L₁ .next h₁
end
end Mine
end
section
open PySem PySem.W PyProof.Rows PySem.Spec PySem.Calls
namespace Mine
/-- the value is a list, and these are its items -/
inductive Its (σ : St) : V → List V → Prop
  | lst (vs : List V) : Its σ (.lst vs) vs
  | own {a : Addr} {vs : List V} : (a, vs) ∈ σ.own → Its σ (.own a) vs

section
variable {X : Act} {σ : St} {K : V → St → Prop} {KF : Fl → St → Prop} {KB : Bool → St → Prop}

theorem Its.get {v : V} {vs : List V} {s : Shared} {val : Value} (R : Rep X σ s) (I : Its σ v vs) (i : VIn s.heap (off X σ) v val) : ∃ a vals, val = .ref a ∧ s.heap.IsList a vals.toArray ∧ VAll s.heap (off X σ) vs vals := by
  cases I with
  | lst => cases i with | lst h1 h2 h3 => exact ⟨_, _, rfl, h1, h3⟩
  | own hm =>
    cases i
    obtain ⟨_, vals, p, q⟩ := R.own _ _ hm
    exact ⟨_, vals, rfl, p.isList, q⟩

theorem O_addI {a b : Int} (h : K (.int (a + b)) σ) : Op2 X (binaryOp .Add) (.int a) (.int b) σ K := by
  intro s va vb Q E R ia ib hQ
  cases ia; cases ib
  exact PyProof.Rows.add_int (hQ _ _ _ _ R.tok.1 R.tok.2 (.int _ _) h)
theorem O_iaddI {a b : Int} (h : K (.int (a + b)) σ) : Op2 X (inplaceOp .Add) (.int a) (.int b) σ K := by
  intro s va vb Q E R ia ib hQ
  cases ia; cases ib
  exact PyProof.Rows.iadd_int (hQ _ _ _ _ R.tok.1 R.tok.2 (.int _ _) h)
theorem O_subI {a b : Int} (h : K (.int (a - b)) σ) : Op2 X (binaryOp .Sub) (.int a) (.int b) σ K := by
  intro s va vb Q E R ia ib hQ
  cases ia; cases ib
  exact PyProof.Rows.sub_int (hQ _ _ _ _ R.tok.1 R.tok.2 (.int _ _) h)
theorem O_modI {a b : Int} (hb : b ≠ 0) (h : K (.int (a.fmod b)) σ) : Op2 X (binaryOp .Mod) (.int a) (.int b) σ K := by
  intro s va vb Q E R ia ib hQ
  cases ia; cases ib
  exact PyProof.Rows.mod_int hb (hQ _ _ _ _ R.tok.1 R.tok.2 (.int _ _) h)
theorem O_ltI {a b : Int} (h : K (.bool (decide (a < b))) σ) : Op2 X (compareOp .Lt) (.int a) (.int b) σ K := by
  intro s va vb Q E R ia ib hQ
  cases ia; cases ib
  exact PyProof.Rows.lt_int (hQ _ _ _ _ R (.refl R) (.bool _) h)
theorem O_gtI {a b : Int} (h : K (.bool (decide (b < a))) σ) : Op2 X (compareOp .Gt) (.int a) (.int b) σ K := by
  intro s va vb Q E R ia ib hQ
  cases ia; cases ib
  exact PyProof.Rows.gt_int (hQ _ _ _ _ R (.refl R) (.bool _) h)
theorem O_geI {a b : Int} (h : K (.bool (decide (b ≤ a))) σ) : Op2 X (compareOp .GtE) (.int a) (.int b) σ K := by
  intro s va vb Q E R ia ib hQ
  cases ia; cases ib
  exact PyProof.Rows.ge_int (hQ _ _ _ _ R (.refl R) (.bool _) h)
theorem O_eqI {a b : Int} (h : K (.bool (a == b)) σ) : Op2 X (compareOp .Eq) (.int a) (.int b) σ K := by
  intro s va vb Q E R ia ib hQ
  cases ia; cases ib
  exact PyProof.Rows.eq_int (hQ _ _ _ _ R (.refl R) (.bool _) h)
theorem O_eqS {a b : Str} (h : K (.bool (a == b)) σ) : Op2 X (compareOp .Eq) (.str a) (.str b) σ K := by
  intro s va vb Q E R ia ib hQ
  cases ia; cases ib
  exact PyProof.Rows.eq_str (hQ _ _ _ _ R (.refl R) (.bool _) h)
theorem O_addS {a b : Str} (hz : a.length + b.length ≤ sizeLine) (h : K (.str (a ++ b)) σ) : Op2 X (binaryOp .Add) (.str a) (.str b) σ K := by
  intro s va vb Q E R ia ib hQ
  cases ia; cases ib
  exact PyProof.Rows.add_str (fun t' tk => hQ _ _ _ _ R.tok.1 R.tok.2 (.str _ _) h) hz
theorem O_inS {a b : Str} (h : K (.bool (Txt.contains b a)) σ) : Op2 X (compareOp .In) (.str a) (.str b) σ K := by
  intro s va vb Q E R ia ib hQ
  cases ia; cases ib
  exact SB.contains (hQ _ _ _ _ R (.refl R) (.bool _) h)
theorem O_notInS {a b : Str} (h : K (.bool (!Txt.contains b a)) σ) : Op2 X (compareOp .NotIn) (.str a) (.str b) σ K := by
  intro s va vb Q E R ia ib hQ
  cases ia; cases ib
  exact SB.notContains (hQ _ _ _ _ R (.refl R) (.bool _) h)

inductive IsV : V → V → Bool → Prop
  | nn : IsV .none .none true
  | sn (x : Str) : IsV (.str x) .none false
  | ns (x : Str) : IsV .none (.str x) false
  | so (x : Str) (a : Addr) : IsV (.str x) (.obj a) false
  | os (a : Addr) (x : Str) : IsV (.obj a) (.str x) false
  | oo (a : Addr) : IsV (.obj a) (.obj a) true
  | bb (a b : Bool) : IsV (.bool a) (.bool b) (a == b)
theorem O_is {a b : V} {r : Bool} (i : IsV a b r) (h : K (.bool r) σ) : Op2 X (compareOp .Is) a b σ K := by
  intro s va vb Q E R ia ib hQ
  have k := fun r (h : K (.bool r) σ) => hQ _ _ _ _ R (.refl R) (.bool r) h
  cases i with
  | nn => cases ia; cases ib; exact wpAny_is_self rfl (k _ h)
  | sn => cases ia; cases ib; exact wpAny_is_other rfl (fun e => nomatch e) (k _ h)
  | ns => cases ia; cases ib; exact wpAny_is_other rfl (fun e => nomatch e) (k _ h)
  | so => cases ia; cases ib; exact wpAny_is_other rfl (fun e => nomatch e) (k _ h)
  | os => cases ia; cases ib; exact wpAny_is_other rfl (fun e => nomatch e) (k _ h)
  | oo => cases ia; cases ib; exact wpAny_is_ref_self (k _ h)
  | bb a b =>
    cases ia; cases ib
    refine wpAny_is_plain rfl ?_
    rw [show (Value.bool a == Value.bool b) = (a == b) by cases a <;> cases b <;> rfl]
    exact k _ h
theorem O_isNot {a b : V} {r : Bool} (i : IsV a b r) (h : K (.bool (!r)) σ) : Op2 X (compareOp .IsNot) a b σ K := by
  intro s va vb Q E R ia ib hQ
  have k := fun r (h : K (.bool r) σ) => hQ _ _ _ _ R (.refl R) (.bool r) h
  cases i with
  | nn => cases ia; cases ib; exact wpAny_isNot_self rfl (k _ h)
  | sn => cases ia; cases ib; exact wpAny_isNot_other rfl (fun e => nomatch e) (k _ h)
  | ns => cases ia; cases ib; exact wpAny_isNot_other rfl (fun e => nomatch e) (k _ h)
  | so => cases ia; cases ib; exact wpAny_isNot_other rfl (fun e => nomatch e) (k _ h)
  | os => cases ia; cases ib; exact wpAny_isNot_other rfl (fun e => nomatch e) (k _ h)
  | oo => cases ia; cases ib; exact wpAny_isNot_ref_self (k _ h)
  | bb a b =>
    cases ia; cases ib
    refine wpAny_isNot_plain rfl ?_
    rw [show (Value.bool a == Value.bool b) = (a == b) by cases a <;> cases b <;> rfl]
    exact k _ h

theorem O_addL {a b : V} {vs ws : List V} (ia : Its σ a vs) (ib : Its σ b ws) (hz : vs.length + ws.length ≤ sizeLine) (h : K (.lst (vs ++ ws)) σ) : Op2 X (binaryOp .Add) a b σ K := by
  intro s va vb Q E R ja jb hQ
  obtain ⟨l, vals, rfl, hl, il⟩ := ia.get R ja
  obtain ⟨r, wals, rfl, hr, ir⟩ := ib.get R jb
  obtain ⟨⟨cls, dd, data, sl⟩, ho, hc, n, hd⟩ := id hl
  obtain ⟨⟨cls2, dd2, data2, sl2⟩, ho2, hc2, n2, hd2⟩ := id hr
  simp only at hc hd hc2 hd2
  subst hc hd hc2 hd2
  have hz' : vals.toArray.size + wals.toArray.size ≤ sizeLine := by simpa [il.length, ir.length] using hz
  refine concat_meets ⟨_, ho, rfl⟩ ⟨_, ho2, rfl⟩ noFill_list_add seq_list_add PySem.F.slot_list_add PySem.F.entry_list_add (PySem.F.args_list_add_2 _ _) (list_addW l r vals.toArray wals.toArray n n2 dd dd2 sl sl2 hz') ⟨ho, ho2, ?_⟩
  have z := R.push (tk := s.toks) { cls := .type "list", data := .seq (vals.toArray ++ wals.toArray) }
  refine hQ _ _ _ _ z.1 z.2 (.lst (vals := vals ++ wals) ⟨_, Heap.get?_push_size _ rfl, rfl, 0, by simp⟩ (R.fresh (Nat.le_refl _)) (Later.vall R z.2 (il.append ir))) h

theorem O_not {a : V} (h : OpB X truthy a σ fun b σ₁ => K (.bool (!b)) σ₁) : Op1 X (unaryOp .Not) a σ K := by
  intro s va Q E R ia hQ
  exact PyProof.Rows.not_of (h s va _ _ R ia fun b σ' s' R' L' k => hQ _ _ _ _ R' L' (.bool _) k)
theorem O_neg {a : Int} (h : K (.int (-a)) σ) : Op1 X (unaryOp .USub) (.int a) σ K := by
  intro s va Q E R ia hQ
  cases ia
  exact PyProof.Rows.neg_int (hQ _ _ _ _ R.tok.1 R.tok.2 (.int _ _) h)
theorem B_bool {b : Bool} (h : KB b σ) : OpB X truthy (.bool b) σ KB := by
  intro s va Q E R ia hQ
  cases ia
  exact wpAny_truthy_bool (hQ _ _ _ R (.refl R) h)
theorem B_none (h : KB false σ) : OpB X truthy .none σ KB := by
  intro s va Q E R ia hQ
  cases ia
  exact PyProof.Rows.truthy_none (hQ _ _ _ R (.refl R) h)
theorem B_str {x : Str} (hz : x.length ≤ sizeLine) (h : KB ((x.length : Int) != 0) σ) : OpB X truthy (.str x) σ KB := by
  intro s va Q E R ia hQ
  cases ia
  exact P.truthy_str (by rw [sizeLine_eq] at hz; omega) (hQ _ _ _ R.tok.1 R.tok.2 h)
theorem B_list {v : V} {vs : List V} (I : Its σ v vs) (hz : vs.length ≤ sizeLine) (h : KB (!vs.isEmpty) σ) : OpB X truthy v σ KB := by
  intro s va Q E R ia hQ
  obtain ⟨l, vals, rfl, hl, il⟩ := I.get R ia
  refine wpAny_truthy_list hl (by rw [List.size_toArray, il.length]; rw [sizeLine_eq] at hz; omega) (hQ _ _ _ R.tok.1 R.tok.2 ?_)
  have : vals.toArray.isEmpty = vs.isEmpty := by
    have e := il.length
    cases vals <;> cases vs <;> simp_all
  rw [this]; exact h
end
end Mine
end
section
open PySem PySem.W PyProof.Rows PySem.Spec PySem.Calls
namespace Mine
section
variable {X : Act} {σ : St} {s : Shared} {K : V → St → Prop} {KF : Fl → St → Prop} {KB : Bool → St → Prop}

theorem Rep.touchAv (R : Rep X σ s) {h' : Heap} {tk : Nat} {a : Addr} (ha : a ∈ σ.av) (hk : ∀ b o, b ≠ a → s.heap.get? b = some o → h'.get? b = some o) (hla : Alive h' a) :
    Rep X σ { s with heap := h', toks := tk } := by
  have z := R.avn a ha
  refine R.touch a (off_av ha) z.1 (fun hm => ?_) hk hla
  rcases List.mem_cons.mp hm with q | hm
  · exact z.2.2.1 (q ▸ R.lmut)
  · rcases List.mem_append.mp hm with hm | hm
    · exact z.2.2.2 hm
    · obtain ⟨⟨b, vs⟩, hb, q⟩ := List.mem_map.mp hm
      exact z.2.2.1 (q ▸ (R.own b vs hb).1)
theorem Later.but {σ₀ : St} {s₀ : Shared} (L : Later X σ₀ s₀ σ s) {h' : Heap} {tk : Nat} {a : Addr} (ha : s₀.heap.get? a = Option.none) (hk : ∀ b o, b ≠ a → s.heap.get? b = some o → h'.get? b = some o) (hla : Alive h' a) : Later X σ₀ s₀ σ { s with heap := h', toks := tk } :=
  ⟨fun b o h p e => hk b o (fun q => by rw [← q, e] at ha; cases ha) (L.keep b o h p e), L.new, L.newM, L.av, fun b hb => by
    by_cases q : b = a
    · rw [q]; exact hla
    · exact (L.live b hb).keep fun o e => hk b o q e⟩

/-- the iterator is done with -/
theorem Rep.dropTouch (R : Rep X σ s) {h' : Heap} {tk : Nat} {a : Addr} (ha : a ∈ σ.av) (hk : ∀ b o, b ≠ a → s.heap.get? b = some o → h'.get? b = some o) :
    Rep X { σ with av := σ.av.filter (· != a) } { s with heap := h', toks := tk } := by
  have z := R.avn a ha
  have hp : a ∉ pinned X σ := fun hm => by
    rcases List.mem_cons.mp hm with q | hm
    · exact z.2.2.1 (q ▸ R.lmut)
    · rcases List.mem_append.mp hm with hm | hm
      · exact z.2.2.2 hm
      · obtain ⟨⟨b, vs⟩, hb, q⟩ := List.mem_map.mp hm
        exact z.2.2.1 (q ▸ (R.own b vs hb).1)
  have hk' : ∀ b o, b ∉ off X σ → s.heap.get? b = some o → h'.get? b = some o := fun b o hb e => hk b o (fun q => hb (q ▸ off_av ha)) e
  have hn : ∀ b ∈ off X { σ with av := σ.av.filter (· != a) }, b ∈ off X σ ∨ s.heap.get? b = Option.none := off_new (σ' := { σ with av := σ.av.filter (· != a) }) fun b hb => by
    rcases List.mem_append.mp hb with hb | hb
    · exact .inl (List.mem_append_left _ hb)
    · exact .inl (List.mem_append_right _ (List.mem_filter.mp hb).1)
  have hL : X.env.locals ≠ a := fun q => hp (q ▸ List.mem_cons_self)
  have hC : ∀ c, c ∈ X.env.cells.map (·.2) → c ≠ a := fun c hc q => hp (List.mem_cons_of_mem _ (List.mem_append_left _ (q ▸ hc)))
  have hPa : X.P ≠ a := fun q => Nat.lt_irrefl _ (Nat.lt_of_lt_of_le (q ▸ R.ok.plt) z.1)
  have al : ∀ b, b ≠ a → Alive s.heap b → Alive h' b := fun b q x => x.keep fun o e => hk b o q e
  have mua : ∀ b ∈ σ.mu, b ≠ a := fun b hb q => z.2.2.1 (q ▸ hb)
  refine ⟨R.ok, ?_, ?_, R.frsStep fun b o hb e => hk b o (fun q => Nat.lt_irrefl _ (Nat.lt_of_lt_of_le hb (q ▸ z.1))) e, R.tab.later (fun o e => hk _ o hPa e) hk' hn, fun b hb => ⟨(R.new b hb).1, al b (mua b hb) (R.new b hb).2⟩, R.lmut, ?_, ?_, R.cmut, ?_, R.apart, fun c hc => al c (hC c hc) (R.clt c hc), R.mlt, fun b hb => ?_⟩
  · obtain ⟨h, t, e⟩ := R.sh; exact ⟨h', tk, by rw [e]⟩
  · exact fun b o hb e => hk b o (fun q => Nat.lt_irrefl _ (Nat.lt_of_lt_of_le (Heap.lt_size e) (q ▸ z.1))) (R.keep b o hb e)
  · obtain ⟨m, n⟩ := R.ns; exact ⟨m, n.at fun o e => hk _ o hL e⟩
  · exact fun x v e => (R.var x v e).later (fun o e => hk _ o hL e) (fun c o hc e => hk c o (hC c hc) e) hk' hn
  · intro b vs hb
    obtain ⟨h1, vals, p, i⟩ := R.own b vs hb
    exact ⟨h1, vals, let ⟨o, n, e, r⟩ := p; ⟨o, n, hk _ o (mua b h1) e, r⟩, i.later hk' hn⟩
  · obtain ⟨h1, h2⟩ := List.mem_filter.mp hb
    have y := R.avn b h1
    exact ⟨y.1, al b (by simpa using h2) y.2.1, y.2.2⟩
theorem Later.drop {σ₀ : St} {s₀ : Shared} (R₀ : Rep X σ₀ s₀) (R : Rep X σ s) (L : Later X σ₀ s₀ σ s) {h' : Heap} {tk : Nat} {a : Addr} (haa : a ∈ σ.av) (ha : s₀.heap.get? a = Option.none) (hk : ∀ b o, b ≠ a → s.heap.get? b = some o → h'.get? b = some o) : Later X σ₀ s₀ { σ with av := σ.av.filter (· != a) } { s with heap := h', toks := tk } where
  keep b o h p e := hk b o (fun q => by rw [← q, e] at ha; cases ha) (L.keep b o h p e)
  new b hb := L.new b (by
    rcases List.mem_append.mp hb with hb | hb
    · exact List.mem_append_left _ hb
    · exact List.mem_append_right _ (List.mem_filter.mp hb).1)
  newM := L.newM
  av b hb := List.mem_filter.mpr ⟨L.av b hb, by
    have : b ≠ a := fun q => by obtain ⟨o, e⟩ := (R₀.avn b hb).2.1; rw [q, ha] at e; cases e
    simpa using this⟩
  live b hb := (L.live b hb).keep fun o e => hk b o (fun q => by
    rcases hb with hb | hb
    · obtain ⟨o, e⟩ := (R₀.new b hb).2; rw [q, ha] at e; cases e
    · exact Nat.lt_irrefl _ (Nat.lt_of_lt_of_le (q ▸ R.wild_lt hb) (R.avn a haa).1)) e

def loopK (I : Nat → St → Prop) (KF : Fl → St → Prop) (n : Nat) (fl : Fl) (σ : St) : Prop := match fl with
  | .next => ∃ m, m < n ∧ I m σ
  | .cont => ∃ m, m < n ∧ I m σ
  | .brk => KF .next σ
  | .ret v => KF (.ret v) σ
theorem Ex_while {test : Expr} {body : List Stmt} {pos : Pos} (I : Nat → St → Prop) (n : Nat) (h : I n σ)
    (turn : ∀ n σ, I n σ → Tr X (isTrue test X.env (eval test X.env)) σ fun b σ₁ => brK b (Ex X (execs body X.env) σ₁ (loopK I KF n)) (KF .next σ₁)) : Ex X (exec (.While test body [] pos) X.env) σ KF := by
  intro s Q E R hQ
  refine wpAny_While (codeAny_whileLoop (fun n s' => ∃ σ', I n σ' ∧ Rep X σ' s' ∧ Later X σ s σ' s') ?_ n ⟨σ, h, R, .refl R⟩)
  rintro n s' ⟨σ', hI, R', L'⟩
  refine turn n σ' hI s' _ _ R' fun b σ₁ s₁ R₁ L₁ h₁ => ?_
  cases b with
  | false =>
    rw [if_neg Bool.false_ne_true]
    exact wpAny_execs_nil (hQ _ _ _ _ R₁ (L'.trans L₁) .next h₁)
  | true =>
    rw [if_pos rfl]
    refine h₁ s₁ _ _ R₁ fun f fl σ₂ s₂ R₂ L₂ i₂ h₂ => ?_
    cases i₂ with
    | next => obtain ⟨m, hm, hI⟩ := h₂; exact ⟨m, hm, σ₂, hI, R₂, (L'.trans L₁).trans L₂⟩
    | cont => obtain ⟨m, hm, hI⟩ := h₂; exact ⟨m, hm, σ₂, hI, R₂, (L'.trans L₁).trans L₂⟩
    | brk => exact hQ _ _ _ _ R₂ ((L'.trans L₁).trans L₂) .next h₂
    | ret i => exact hQ _ _ _ _ R₂ ((L'.trans L₁).trans L₂) (.ret i) h₂

def forK (I : Nat → St → Prop) (KF : Fl → St → Prop) (i : Nat) (fl : Fl) (σ : St) : Prop := match fl with
  | .next => I (i + 1) σ
  | .cont => I (i + 1) σ
  | .brk => KF .next σ
  | .ret v => KF (.ret v) σ
theorem forK_next {I : Nat → St → Prop} {i : Nat} (h : I (i + 1) σ) : forK I KF i .next σ := h

/-- a fact that lasts where what lies off mu is kept -/
def Lasts (G : Heap → List Addr → Prop) : Prop := ∀ h mu h' mu', (∀ b o, b ∉ mu → h.get? b = some o → h'.get? b = some o) → (∀ b ∈ mu', b ∈ mu ∨ h.get? b = none) → G h mu → G h' mu'
theorem Lasts.later {G : Heap → List Addr → Prop} (g : Lasts G) {σ' : St} {s' : Shared} (R : Rep X σ s) (L : Later X σ s σ' s') (x : G s.heap (off X σ)) : G s'.heap (off X σ') := g _ _ _ _ (L.off_keep R) (off_new L.new) x

/-- an iterator over the V's vs -/
structure Walk (X : Act) (it : Addr) (vs : List V) (fp : List Addr) (P : Nat → Value → Prop) (S : Nat → Heap → Prop) (G : Heap → List Addr → Prop) : Prop where
  walks : Walks X.prog X.w X.A it fp [it] vs.length P S
  lasts : Lasts G
  live : ∀ i h, S i h → Alive h it
  item : ∀ h mu i val, G h mu → P i val → ∃ v, vs[i]? = some v ∧ VIn h mu v val
  fp : ∀ h mu, it ∈ mu → G h mu → ∀ b ∈ fp, b = it ∨ b ∉ mu

theorem forW {it : Addr} {fp : List Addr} {vs : List V} {P : Nat → Value → Prop} {S : Nat → Heap → Prop} {G : Heap → List Addr → Prop} {x : Str} {px : Pos} {body : List Stmt} {RR : Result → Shared → Prop} (I : Nat → St → Prop)
    (R : Rep X σ s) (hit : it ∈ σ.av) (W : Walk X it vs fp P S G) (hst : S 0 s.heap) (hg : G s.heap (off X σ))
    {σ₀ : St} {s₀ : Shared} (R₀ : Rep X σ₀ s₀) (L₀ : Later X σ₀ s₀ σ s) (hnew : s₀.heap.get? it = none) (h0 : I 0 σ) (hk : X.env.kindOf x = some .local ∨ X.env.kindOf x = some .cell ∧ X.mine = true ∧ ∀ i σ, I i σ → ∃ u, σ.loc.lookup x = some u)
    (turn : ∀ i v σ, vs[i]? = some v → I i σ → Ex X (execs body X.env) { σ with loc := (x, v) :: σ.loc } (forK I KF i)) (done : ∀ σ av, I vs.length σ → KF .next { σ with av := av })
    (hR : ∀ f fl σ' s', Rep X σ' s' → Later X σ₀ s₀ σ' s' → FlIn s'.heap (off X σ') fl f → KF fl σ' → RR (.ok f) s') :
    codeAny (model X.prog X.w) X.A (.forLoop (.Name x px) (.ref it) body [] X.env) RR s := by
  refine codeAny_forLoop (fun k s' => ∃ i σ', i ≤ vs.length ∧ k = vs.length + 1 - i ∧ I i σ' ∧ Rep X σ' s' ∧ Later X σ₀ s₀ σ' s' ∧ it ∈ σ'.av ∧ S i s'.heap ∧ G s'.heap (off X σ')) ?_ (vs.length + 1) ⟨0, σ, Nat.zero_le _, rfl, h0, R, L₀, hit, hst, hg⟩
  rintro k s' ⟨i, σ', hi, rfl, hI, R', L', hit', hs, hg'⟩
  have hnn : ∀ b ∈ off X σ', b ∈ off X σ' ∨ s'.heap.get? b = none := fun b hb => .inl hb
  by_cases hlt : i < vs.length
  · refine W.walks.item i s' _ _ hlt hs fun val h₁ tk₁ hPv hs₁ hk₁ => ?_
    have hk₁' : ∀ b o, b ≠ it → s'.heap.get? b = some o → h₁.get? b = some o := fun b o hb e => hk₁ b o (fun hm => hb (List.mem_singleton.mp hm)) e
    have hsz₁ : Alive h₁ it := W.live _ _ hs₁
    have R₁ := R'.touchAv (tk := tk₁) hit' hk₁' hsz₁
    have L₁ := L'.but (tk := tk₁) hnew hk₁' hsz₁
    have hg₁ : G h₁ (off X σ') := W.lasts _ _ _ _ (fun b o hb e => hk₁' b o (fun q => hb (q ▸ off_av hit')) e) hnn hg'
    obtain ⟨v, hv, iv⟩ := W.item h₁ _ i val hg₁ hPv
    have go : ∀ s₂, Rep X { σ' with loc := (x, v) :: σ'.loc } s₂ → Later X σ' { s' with heap := h₁, toks := tk₁ } { σ' with loc := (x, v) :: σ'.loc } s₂ → wpAny (model X.prog X.w) X.A (execs body X.env) (fun f s₃ => match f with
          | .next | .cont => ∃ m, m < vs.length + 1 - i ∧ ∃ i σ', i ≤ vs.length ∧ m = vs.length + 1 - i ∧ I i σ' ∧ Rep X σ' s₃ ∧ Later X σ₀ s₀ σ' s₃ ∧ it ∈ σ'.av ∧ S i s₃.heap ∧ G s₃.heap (off X σ')
          | .brk => RR (.ok .next) s₃
          | .ret v => RR (.ok (.ret v)) s₃) (notedBy (model X.prog X.w) X.A X.env fun e s' => RR (.error e) s') s₂ := by
      intro s₂ R₂ L₂
      have stepK : ∀ {σ₃ : St} {s₃ : Shared}, Rep X σ₃ s₃ → Later X { σ' with loc := (x, v) :: σ'.loc } s₂ σ₃ s₃ → I (i + 1) σ₃ →
          ∃ m, m < vs.length + 1 - i ∧ ∃ i σ', i ≤ vs.length ∧ m = vs.length + 1 - i ∧ I i σ' ∧ Rep X σ' s₃ ∧ Later X σ₀ s₀ σ' s₃ ∧ it ∈ σ'.av ∧ S i s₃.heap ∧ G s₃.heap (off X σ') := by
        intro σ₃ s₃ R₃ L₃ hI₃
        have hit₂ : it ∈ ({ σ' with loc := (x, v) :: σ'.loc } : St).av := L₂.av it hit'
        have hg₂ := W.lasts.later R₁ L₂ hg₁
        have keep1 : ∀ b ∈ fp, ∀ o, h₁.get? b = some o → s₂.heap.get? b = some o := fun b hb o e => by
          rcases W.fp _ _ (off_av hit') hg₁ b hb with q | q
          · exact L₂.keep b o (fun hm => (R₁.avn it hit').2.2.1 (q ▸ hm)) (fun z => Nat.lt_irrefl _ (Nat.lt_of_lt_of_le (q ▸ R₁.wild_lt z) (R₁.avn it hit').1)) e
          · exact L₂.off_keep R₁ b o q e
        have keep2 : ∀ b ∈ fp, ∀ o, s₂.heap.get? b = some o → s₃.heap.get? b = some o := fun b hb o e => by
          rcases W.fp _ _ (off_av hit₂) hg₂ b hb with q | q
          · exact L₃.keep b o (fun hm => (R₂.avn it hit₂).2.2.1 (q ▸ hm)) (fun z => Nat.lt_irrefl _ (Nat.lt_of_lt_of_le (q ▸ R₂.wild_lt z) (R₂.avn it hit₂).1)) e
          · exact L₃.off_keep R₂ b o q e
        exact ⟨vs.length + 1 - (i + 1), by omega, i + 1, σ₃, hlt, rfl, hI₃, R₃, (L₁.trans L₂).trans L₃, L₃.av it hit₂, W.walks.frame _ _ _ (W.walks.frame _ _ _ hs₁ keep1) keep2, W.lasts.later R₂ L₃ hg₂⟩
      refine turn i v σ' hv hI s₂ _ _ R₂ fun f fl σ₃ s₃ R₃ L₃ i₃ h₃ => ?_
      cases i₃ with
      | next => exact stepK R₃ L₃ h₃
      | cont => exact stepK R₃ L₃ h₃
      | brk => exact hR _ _ _ _ R₃ ((L₁.trans L₂).trans L₃) .next h₃
      | ret j => exact hR _ _ _ _ R₃ ((L₁.trans L₂).trans L₃) (.ret j) h₃
    rcases hk with hk | ⟨hk, hmine, hu⟩
    · exact wpAny_assign_Name (Un_storeL R₁ hk iv go)
    · obtain ⟨u, hu⟩ := hu i σ' hI
      exact wpAny_assign_Name (Un_storeC R₁ hmine hk hu iv go)
  · obtain rfl : i = vs.length := Nat.le_antisymm hi (Nat.not_lt.mp hlt)
    refine W.walks.done s' _ _ hs fun h₁ tk₁ hk₁ => wpAny_execs_nil ?_
    have hk₁' : ∀ b o, b ≠ it → s'.heap.get? b = some o → h₁.get? b = some o := fun b o hb e => hk₁ b o (fun hm => hb (List.mem_singleton.mp hm)) e
    exact hR _ _ _ _ (R'.dropTouch (tk := tk₁) hit' hk₁') (L'.drop R₀ R' (tk := tk₁) hit' hnew hk₁') .next (done σ' _ hI)
end
end Mine
end
section
open PySem PySem.W PyProof.Rows PySem.Spec PySem.Calls
namespace Mine
/-- no exception is at hand, or one without a context -/
def HOk (A : Around) (h : Heap) : Prop := A.handled = none ∨ ∃ e o vs, A.handled = some (.ref e) ∧ h.get? e = some o ∧ o.data = .fields vs ∧ vs[2]? = some .none
theorem entry_unchain : entryFor table "proto.unchain" = some Builtin.«proto.unchain» := entryFor_of_fast (by kernel_rfl)
section
variable {prog : Program} {w : World} {A : Around} {E : Value → Shared → Prop} {s : Shared}
theorem raiseNew_ok {α : Type} {e : Addr} {o : Obj} {vs : Array Value} {Q : α → Shared → Prop} (hA : HOk A s.heap) (he : s.heap.get? e = some o) (hd : o.data = .fields vs) (h3 : 2 < vs.size) (hnot : ∀ b, A.handled = some (.ref b) → b ≠ e)
    (h : ∀ h', (∀ b o', b ≠ e → s.heap.get? b = some o' → h'.get? b = some o') → (∃ o', h'.get? e = some o' ∧ o'.cls = o.cls) → E (.ref e) { s with heap := h' }) : wpAny (model prog w) A (raiseNew (.ref e) : Sem α) Q E s := by
  simp only [raiseNew]
  refine wpAny_bind (wpAny_handled ?_)
  rcases hA with q | ⟨b, ob, ws, q, hb, hdb, h2⟩
  · rw [q]
    exact wpAny_bind (wpAny_pure (wpAny_throw (h s.heap (fun _ _ _ e => e) ⟨o, he, rfl⟩)))
  · rw [q]
    have hne := hnot b q
    dsimp only
    rw [if_pos (by simpa using hne)]
    refine wpAny_bind (wpAny_holding (wpAny_runValue (codeAny_builtin entry_unchain ?_)))
    unfold Builtin.«proto.unchain»
    show wpAny _ _ (field (.ref b) 2 >>= _) _ _ s
    refine wpAny_bind (wpAny_field hb hdb h2 ?_)
    rw [if_pos (by rfl)]
    refine wpAny_bind (wpAny_pure (wpAny_pure ?_))
    have hs : Heap.SameBut e s.heap (s.heap.update e (Obj.mapFields (·.setIfInBounds 2 (.ref b)))) := Heap.SameBut.update ..
    have := wpAny_setField (M := model prog w) (A := A) (E := E) (Q := fun (_ : Unit) s' => wpAny (model prog w) A (throw (Value.ref e) : Sem α) Q E s') (x := .ref b) he hd h3 ?_
    · exact wpAny_bind (by simpa only [setField] using this)
    · refine wpAny_throw (h _ (fun c o' hc q => hs.extBut c o' hc q) ⟨_, Heap.get?_update_self _ he (Obj.isFreed_of_fields (Obj.data_mapFields hd _)), Obj.cls_mapFields ..⟩)

theorem list_end {it l : Addr} {i : Nat} {items : Array Value} {Q : Option Value → Shared → Prop} (hA : HOk A s.heap) (hne : ∀ b, A.handled = some (.ref b) → b ≠ it)
    (hit : s.heap.IsListIter it l i) (hl : s.heap.IsList l items) (hx : items[i]? = none)
    (hQ : ∀ h', Heap.ExtBut it s.heap h' → Q none { s with heap := h' }) : wpAny (model prog w) A (pyNext (.ref it)) Q E s := by
  obtain ⟨o, ho, hc, hd⟩ := id hit
  obtain ⟨ol, hol, _, nl, hdl⟩ := hl
  unfold pyNext
  refine wpAny_bind (wpAny_attempt (wpAny_callSpecial?_slot (name := Str.ofString "__next__") hit.typeIs slot_listiter_next
    (wpAny_call_entry slot_listiter_next hit.typeIs entry_listiter_next ?_ (args_listiter_next _))))
  show wpAny _ _ (field (.ref it) 0 >>= _) _ _ s
  refine wpAny_bind (wpAny_field ho hd (x := .ref l) rfl ?_)
  show wpAny _ _ (if (Value.ref l == Value.none) = true then _ else _) _ _ s
  rw [if_neg (show ¬ ((Value.ref l == Value.none) = true) from Bool.false_ne_true)]
  show wpAny _ _ (field (.ref it) 1 >>= _) _ _ s
  refine wpAny_bind (wpAny_field ho hd (x := .int i 0) rfl ?_)
  show wpAny _ _ (seqItems? (.ref l) >>= _) _ _ s
  refine wpAny_bind (wpAny_seqItems hol hdl ?_)
  simp only [Int.toNat_natCast, hx]
  refine wpAny_bind (wpAny_rule (wpAny_bind (wpAny_setField ho hd (by simp) ?_)))
  show wpAny _ _ (newExc (.type "StopIteration") [] >>= _) _ _ _
  refine wpAny_bind ?_
  simp only [newExc, newTuple]
  refine wpAny_bind (wpAny_newObj_type ?_ (by size_fits))
  refine wpAny_bind (m := firstArgMember _ _) (wpAny_of_eq (a := Value.none) (by first | rfl | (simp only [firstArgMember]; rfl)) ?_)
  refine wpAny_newObj_type ?_ (by size_fits)
  generalize hH : s.heap.update it (Obj.mapFields (·.setIfInBounds 0 Value.none)) = H
  have hs : Heap.SameBut it s.heap H := hH ▸ Heap.SameBut.update ..
  have old : ∀ b o', b ≠ it → s.heap.get? b = some o' → ((H.push { cls := .type "tuple", data := .seq ([] : List Value).toArray }).push { cls := .type "StopIteration", data := .fields (#[.ref H.objs.size, .none, .none, .none, .bool false, .none] ++ ownMembersOf (.type "StopIteration") []) }).get? b = some o' :=
    fun b o' hb e => Heap.get?_push_of_some _ (Heap.get?_push_of_some _ (hs.extBut b o' hb e))
  have hA' : HOk A.in1 ((H.push { cls := .type "tuple", data := .seq ([] : List Value).toArray }).push { cls := .type "StopIteration", data := .fields (#[.ref H.objs.size, .none, .none, .none, .bool false, .none] ++ ownMembersOf (.type "StopIteration") []) }) :=
    hA.imp id fun ⟨b, ob, ws, q, hb, r⟩ => ⟨b, ob, ws, q, old b ob (hne b q) hb, r⟩
  refine raiseNew_ok (s := { s with heap := (H.push { cls := .type "tuple", data := .seq ([] : List Value).toArray }).push { cls := .type "StopIteration", data := .fields (#[.ref H.objs.size, .none, .none, .none, .bool false, .none] ++ ownMembersOf (.type "StopIteration") []) } }) hA' (Heap.get?_push_size _ rfl) rfl (by rw [Array.size_append]; exact Nat.lt_of_lt_of_le (by decide : 2 < 6) (Nat.le_add_right _ _)) (fun b q => ?_) fun h' hk he => ?_
  · rcases hA with q' | ⟨b', ob, ws, q', hb, _⟩
    · rw [Around.in1_handled, q'] at q; cases q
    · rw [Around.in1_handled, q'] at q; cases q
      have := Heap.lt_size hb
      rw [Heap.size_push, hs.1]
      exact Nat.ne_of_lt (Nat.lt_succ_of_lt this)
  · obtain ⟨o', eo, hcls⟩ := he
    refine wpAny_bind (wpAny_isInstance (T := "StopIteration") (b := true) ⟨_, eo, hcls⟩ isSubtype_stop ?_)
    refine wpAny_pure (hQ h' fun b ob hb e => hk b ob ?_ (old b ob hb e))
    have := Heap.lt_size e
    rw [Heap.size_push, hs.1]
    exact Nat.ne_of_lt (Nat.lt_succ_of_lt this)

theorem walks_list (I ax : Addr) (hne : ax ≠ I) (items : Array Value) (fe : List Addr) (hfe : ∀ e, A.handled = some (.ref e) → e ∈ fe ∧ e ≠ I) :
    Walks prog w A I (I :: ax :: fe) [I] items.size (fun i v => items[i]? = some v) (fun i h => h.IsListIter I ax i ∧ h.IsList ax items ∧ HOk A h) where
  sub := fun b hb => by rw [List.mem_singleton.mp hb]; exact List.mem_cons_self
  frame := fun _ _ _ st hk => ⟨st.1.at fun o e => hk I (by simp) o e, st.2.1.at fun o e => hk ax (by simp) o e, st.2.2.imp id fun ⟨e, o, vs, q, he, r⟩ => ⟨e, o, vs, q, hk e (by simp [(hfe e q).1]) o he, r⟩⟩
  item := fun i s Q E hi st hQ => by
    refine wpAny_pyNext_list_item st.1 st.2.1 (x := items[i]) (by simp [hi]) fun h' hit' hs' => ?_
    exact hQ _ h' s.toks (by simp [hi]) ⟨hit', st.2.1.extBut hs'.extBut hne, st.2.2.imp id fun ⟨e, o, vs, q, he, r⟩ => ⟨e, o, vs, q, hs'.extBut e o (hfe e q).2 he, r⟩⟩ fun b o hb e => hs'.extBut b o (fun h => hb (by simp [h])) e
  done := fun s Q E st hQ => list_end st.2.2 (fun b q => (hfe b q).2) st.1 st.2.1 (by simp) fun h' he' => hQ h' s.toks fun b o hb e => he' b o (fun h => hb (by simp [h])) e
  self := fun _ _ _ _ st hQ => wpAny_pyIter_listiter st.1 hQ
end
end Mine
namespace Mine
section
variable {X : Act} {σ : St} {s : Shared} {K : V → St → Prop} {KF : Fl → St → Prop} {KB : Bool → St → Prop}

theorem Rep.hOk (R : Rep X σ s) : HOk X.A s.heap := R.tab.hd.imp id fun ⟨e, o, vs, q, he, hd, h2, _⟩ => ⟨e, o, vs, q, he, hd, h2⟩
def heldAt (A : Around) : List Addr := match A.handled with
  | some (.ref e) => [e]
  | _ => []
theorem heldAt_mem {A : Around} {e : Addr} (h : A.handled = some (.ref e)) : e ∈ heldAt A := by unfold heldAt; rw [h]; exact List.mem_cons_self
theorem of_heldAt {A : Around} {e : Addr} (h : e ∈ heldAt A) : A.handled = some (.ref e) := by
  unfold heldAt at h
  split at h
  · rename_i q; rw [q, List.mem_singleton.mp h]
  · cases h
theorem Rep.held_off (R : Rep X σ s) {e : Addr} (h : e ∈ heldAt X.A) : e ∉ off X σ ∧ Alive s.heap e := by
  have q := of_heldAt h
  rcases R.tab.hd with n | ⟨e', o, vs, q', he, _, _, hm⟩
  · rw [n] at q; cases q
  · rw [q'] at q; cases q
    exact ⟨hm, o, he⟩

/-- the value's items, one after the other -/
def Iter (X : Act) (v : V) (vs : List V) : Prop := ∀ σ s val Q E, Rep X σ s → VIn s.heap (off X σ) v val →
  (∀ o fp P S G, o.isFreed = false → Walk X s.heap.objs.size vs fp P S G → S 0 (s.heap.push o) → G (s.heap.push o) (off X { σ with av := s.heap.objs.size :: σ.av }) → Q (.ref s.heap.objs.size) { s with heap := s.heap.push o }) →
  wpAny (model X.prog X.w) X.A (pyIter val) Q E s

theorem iter_lst (vs : List V) : Iter X (.lst vs) vs := by
  intro σ₁ s₁ val Q E R₁ i₁ hQ
  cases i₁ with
  | @lst a vals _ hl ha hi =>
    refine wpAny_pyIter_list hl ?_
    have z := R₁.addAv (tk := s₁.toks) { cls := .type "list_iterator", data := .fields #[.ref a, .int 0 0] } rfl
    have hne : a ≠ s₁.heap.objs.size := Nat.ne_of_lt (isList_lt hl)
    have held : ∀ e, X.A.handled = some (.ref e) → e ∈ heldAt X.A ∧ e ≠ s₁.heap.objs.size := fun e q => ⟨heldAt_mem q, Nat.ne_of_lt (R₁.held_off (heldAt_mem q)).2.lt⟩
    have W := walks_list (prog := X.prog) (w := X.w) (A := X.A) s₁.heap.objs.size a hne vals.toArray (heldAt X.A) held
    have e : vals.toArray.size = vs.length := by rw [List.size_toArray, hi.length]
    rw [e] at W
    refine hQ _ (s₁.heap.objs.size :: a :: heldAt X.A) _ _ (fun h mu => h.IsList a vals.toArray ∧ a ∉ mu ∧ VAll h mu vs vals ∧ ∀ e ∈ heldAt X.A, e ∉ mu ∧ Alive h e) rfl ⟨W, ?_, ?_, ?_, ?_⟩ ⟨⟨_, Heap.get?_push_size _ rfl, rfl, rfl⟩, hl.push _, z.1.hOk⟩ ?_
    · rintro h mu h' mu' hk hn ⟨h1, h2, h3, h4⟩
      refine ⟨isList_keep h1 fun o e => hk a o h2 e, fun hm => (hn a hm).elim h2 fun q => ?_, h3.later hk hn, fun e he => ⟨fun hm => (hn e hm).elim (h4 e he).1 fun q => ?_, (h4 e he).2.keep fun o z => hk e o (h4 e he).1 z⟩⟩
      · obtain ⟨o, z, _⟩ := h1; rw [q] at z; cases z
      · obtain ⟨o, z⟩ := (h4 e he).2; rw [q] at z; cases z
    · rintro i h ⟨⟨o, e, _⟩, _⟩; exact ⟨o, e⟩
    · rintro h mu i val ⟨h1, h2, h3, _⟩ hv
      have hv' : vals[i]? = some val := by simpa using hv
      have hlt : i < vs.length := by rw [← h3.length]; exact (List.getElem?_eq_some_iff.mp hv').1
      obtain ⟨val', e, iv⟩ := h3.get (List.getElem?_eq_getElem hlt)
      rw [hv'] at e; cases e
      exact ⟨_, List.getElem?_eq_getElem hlt, iv⟩
    · rintro h mu him ⟨h1, h2, h3, h4⟩ b hb
      rcases List.mem_cons.mp hb with rfl | hb
      · exact .inl rfl
      · rcases List.mem_cons.mp hb with rfl | hb
        · exact .inr h2
        · exact .inr (h4 b hb).1
    · have zi := Later.vall R₁ z.2 hi
      refine ⟨hl.push _, ?_, zi, fun e he => z.1.held_off he⟩
      intro hm
      rcases off_new z.2.new a hm with q | q
      · exact ha q
      · obtain ⟨o, zz, _⟩ := hl; rw [q] at zz; cases zz
theorem iter_rng (hh : X.A.handled = none) (n : Nat) (hn : n ≤ 2 ^ 24) : Iter X (.rng n) ((List.range n).map fun (i : Nat) => V.int i) := by
  intro σ₁ s₁ val Q E R₁ i₁ hQ
  cases i₁ with
  | @rng a _ t u v hr ha =>
    have hsm : Builtin.Range.small 0 n 1 = true := by
      unfold Builtin.Range.small
      rw [rangeSize_nat]
      have f : ∀ i : Int, 0 ≤ i → i ≤ 2 ^ 24 → Builtin.Range.rangeFitsLong i = true := fun i h0 h1 => by
        unfold Builtin.Range.rangeFitsLong
        rw [Bool.and_eq_true]
        exact ⟨decide_eq_true (by omega), decide_eq_true (by omega)⟩
      have hn' : ((((n : Int) - 0).toNat : Nat) : Int) = n := by omega
      rw [hn', f 0 (by decide) (by decide), f n (by omega) (by omega), f 1 (by decide) (by decide), if_pos (by decide), show (n : Int) + (1 - 1) = n by omega, f n (by omega) (by omega)]
      simp
    have hsz : Builtin.Range.rangeSize 0 n 1 = (n : Int) := by rw [rangeSize_nat]; omega
    refine wpAny_pyIter_range hr hsm ?_
    have W := Walks.range (prog := X.prog) (w := X.w) (A := X.A) hh s₁.heap.objs.size 0 1 n
    have e : ((List.range n).map fun (i : Nat) => V.int i).length = n := by simp
    rw [hsz]
    have W' := W.bound
    refine hQ _ [s₁.heap.objs.size] (fun i v => i < n ∧ ∃ t, v = .int (0 + i * 1) t) (fun i h => IsRangeIter h s₁.heap.objs.size (0 + (i : Nat) * 1) ((n : Int) - (i : Nat)) 1) (fun h mu => True) rfl ⟨(by rw [e]; exact W'), fun _ _ _ _ _ _ _ => trivial, fun i h st => ⟨_, st⟩, ?_, ?_⟩ ?_ trivial
    · rintro h mu i val _ ⟨hi, t', rfl⟩
      refine ⟨.int i, by simp [hi], ?_⟩
      rw [show (0 + (i : Int) * 1) = i by omega]
      exact .int _ _
    · rintro h mu _ _ b hb; exact .inl (List.mem_singleton.mp hb)
    · show IsRangeIter _ _ _ _ _
      simpa using Heap.get?_push_size s₁.heap (o := { cls := .type "range_iterator", data := .fields #[rawInt 0, rawInt n, rawInt 1] }) rfl

/-- a for over a list or a range -/
theorem Ex_for {x : Str} {px pos : Pos} {iter : Expr} {body : List Stmt} (h : Ev X (eval iter X.env) σ fun v σ₁ => ∃ vs, Iter X v vs ∧ ∃ I : Nat → St → Prop,
      (∀ av, I 0 { σ₁ with av := av }) ∧ (X.env.kindOf x = some .local ∨ X.env.kindOf x = some .cell ∧ X.mine = true ∧ ∀ i σ, I i σ → ∃ u, σ.loc.lookup x = some u) ∧
      (∀ i v σ, vs[i]? = some v → I i σ → Ex X (execs body X.env) { σ with loc := (x, v) :: σ.loc } (forK I KF i)) ∧ (∀ σ av, I vs.length σ → KF .next { σ with av := av }))
    (hs : ∀ x, foldedSetIterable iter X.env x = pure x := by intro _; rfl) : Ex X (exec (.For (.Name x px) iter body [] pos) X.env) σ KF := by
  intro s Q E R hQ
  refine wpAny_For (h s _ _ R fun val v σ₁ s₁ R₁ L₁ i₁ h₁ => ?_) hs
  obtain ⟨vs, it, I, h0, hk, turn, done⟩ := h₁
  refine it σ₁ s₁ val _ _ R₁ i₁ fun o fp P S G hf W hS hG => ?_
  have z := R₁.addAv (tk := s₁.toks) o hf
  exact forW I z.1 List.mem_cons_self W hS hG R (L₁.trans z.2) (L₁.none (get_size _)) (h0 _) hk turn done fun f fl σ' s' R' L' i' k => hQ f fl σ' s' R' L' i' k
end
end Mine
end
section
open PySem PySem.W PyProof.Rows PySem.Spec PySem.Calls
namespace Mine
theorem lk_append : typeLookup (.type "list") (Str.ofString "append") = pure (some (.builtin "list.append")) := slot_list_append.lookup
theorem md_get : typeLookup (.type "method_descriptor") "__get__" = pure (some (.builtin "method_descriptor.__get__")) := by rw [typeLookup_type, builtinLookup_eq_fast]; kernel_rfl
theorem md_set : typeLookup (.type "method_descriptor") "__set__" = pure none := by rw [typeLookup_type, builtinLookup_eq_fast]; kernel_rfl
theorem md_del : typeLookup (.type "method_descriptor") "__delete__" = pure none := by rw [typeLookup_type, builtinLookup_eq_fast]; kernel_rfl
theorem slot_md_get : Slot "method_descriptor" "__get__" "method_descriptor.__get__" :=
  .of (owner := "method_descriptor") (n := "__get__") md_get (by decide +kernel) (by decide +kernel) (by decide +kernel)
    (by first | exact .inl (by decide +kernel) | exact .inr (by decide +kernel)) (by rw [isSubtype_type]; kernel_rfl)
theorem entry_md_get : entryFor table "method_descriptor.__get__" = some Builtin.«method_descriptor.__get__» := entryFor_of_tree (by kernel_rfl)
theorem owner_md : Manifest.owners.lookup (String.ofList "method_descriptor".toList.reverse.reverse) = some Manifest.sig_method_descriptor := by kernel_rfl
theorem args_md_get (a b c : Value) : argsOk "method_descriptor.__get__" ⟨[a, b, c], []⟩ := by
  unfold argsOk; rw [signature?_of (id := "method_descriptor.__get__") (n := "__get__".toList.reverse) (o := "method_descriptor".toList.reverse) (by kernel_rfl) owner_md]; kernel_rfl
theorem meets_md_get (a : Addr) (xs : Array Value) (k : Nat) (sl : Array (Option Value)) :
    Meets (Builtin.«method_descriptor.__get__» ⟨[.builtin "list.append", .ref a, .type "list"], []⟩) (fun A R s => s.heap.get? a = some { cls := .type "list", dict := none, data := .seq xs k, slots := sl } ∧
      R (.ok (.ret (.ref s.heap.objs.size))) { s with heap := s.heap.push { cls := .type "builtin_function_or_method", data := .fields #[.builtin "list.append", .ref a] } }) :=
  Meets.of_wp fun prog w A R s hs => by
    obtain ⟨hp, g, d, tk, os⟩ := s
    obtain ⟨hx, hs⟩ := hs
    have hT : (⟨hp, g, d, tk, os⟩ : Shared).TypeIs (.ref a) "list" := ⟨_, hx, rfl⟩
    have f1 := lk_append
    have f2 := type_list_append
    have f3 : Manifest.toldItsClass.contains "list.append" = false := by decide +kernel
    unfold Builtin.«method_descriptor.__get__»
    refine wpAny_bind (wpAny_of_eq (a := (Value.builtin "list.append", some (Value.ref a), some (Value.type "list"))) rfl ?_)
    dsimp only
    rw [if_neg (by rw [f3]; exact Bool.false_ne_true)]
    refine wpAny_bind (wpAny_bind (wpAny_of_eq (a := (Str.ofString "append", Value.type "list")) (by kernel_rfl) ?_))
    dsimp only
    refine wpAny_bind (wpAny_isInstance hT (b := true) (by rw [isSubtype_type]; kernel_rfl) ?_)
    refine wpAny_pure (wpAny_bind (wpAny_newObj_type ?_))
    exact wpAny_pure ⟨_, rfl, hs⟩
theorem meets_getattribute_append (a : Addr) (xs : Array Value) (k : Nat) (sl : Array (Option Value)) (u : Tok) :
    Meets (Builtin.«object.__getattribute__» ⟨[.ref a, .str (Str.ofString "append") u], []⟩) (fun A R s => s.heap.get? a = some { cls := .type "list", dict := none, data := .seq xs k, slots := sl } ∧
      R (.ok (.ret (.ref s.heap.objs.size))) { s with heap := s.heap.push { cls := .type "builtin_function_or_method", data := .fields #[.builtin "list.append", .ref a] } }) :=
  Meets.of_wp fun prog w A R s hs => by
    obtain ⟨hp, g, d, tk, os⟩ := s
    obtain ⟨hx, hs⟩ := hs
    have hT : (⟨hp, g, d, tk, os⟩ : Shared).TypeIs (.ref a) "list" := ⟨_, hx, rfl⟩
    have f1 := lk_append
    have f2 := type_list_append
    have f3 := md_get
    have f4 := md_set
    have f5 := md_del
    unfold Builtin.«object.__getattribute__»
    repeat (any_goals (first | assumption | wp_step))
    refine codeAny_call_builtin slot_md_get.plain entry_md_get (slot_md_get.check _ _ _ _ _ _ _ _ f2 (args_md_get _ _ _) ?_)
    exact meets_md_get a xs k sl prog w _ (fun r s' => match r with
      | .ok (.ret v) => wpAny (model prog w) A.in1 (ret v) (fun fin s' => ∃ v, fin = Fin.done (.ret v) ∧ R (.ok (.ret v)) s') (fun e s' => R (.error e) s') s'
      | .ok _ => False
      | .error e => R (.error e) s') _ ⟨hx, wpAny_pure ⟨_, rfl, hs⟩⟩
end Mine
end
section
open PySem PySem.W PyProof.Rows PySem.Spec PySem.Calls
namespace Mine
abbrev appObj (a : Addr) : Obj := { cls := .type "builtin_function_or_method", data := .fields #[.builtin "list.append", .ref a] }
section
variable {prog : Program} {w : World} {A : Around} {E : Value → Shared → Prop} {s : Shared}
theorem getAttr_append {a : Addr} {its : Array Value} {Q : Value → Shared → Prop} (hl : PlainL s.heap a its)
    (h : Q (.ref s.heap.objs.size) { s with heap := s.heap.push (appObj a), toks := s.toks + 1 }) : wpAny (model prog w) A (getAttr (.ref a) (Str.ofString "append") true) Q E s := by
  obtain ⟨o, k, hx, hc, hd, hdat⟩ := hl
  obtain ⟨c, dct, dat, sl⟩ := o
  simp only at hc hdat hd
  subst hc hdat hd
  obtain ⟨hp, g, d, tk, os⟩ := s
  have hT : ∀ tk', (⟨hp, g, d, tk', os⟩ : Shared).TypeIs (.ref a) "list" := fun _ => ⟨_, hx, rfl⟩
  have f3 := PySem.F.slot_list_getattribute.lookup
  have f4 := PySem.F.slot_list_getattribute.bind (.ref a)
  have f5 := am_list_getattr_none
  unfold getAttr getAttrBy
  repeat (any_goals (first | assumption | exact hT _ | ((with_reducible show wpAny _ _ (call (Value.builtin "list.__getattribute__") _ _) _ _ _); refine call_meets PySem.F.slot_list_getattribute (hT _) am_entry_list_getattribute (PySem.F.args_list_getattribute_2 _ _) (meets_getattribute_append a _ k sl _) ⟨hx, ?_⟩) | wp_step))
  show wpAny _ A (handedOut _) _ _ _
  unfold handedOut
  repeat (any_goals (first | assumption | wp_step))
theorem bound_check {a : Addr} {its : Array Value} {x : Value} {Q : Unit → Shared → Prop} (hl : PlainL s.heap a its) (h : Q () s) : wpAny (model prog w) A (checkBoundCall "list.append" ⟨[.ref a, x], []⟩) Q E s := by
  have hT : s.TypeIs (.ref a) "list" := hl.isList.typeIs
  have f1 : isSubtype (.type "list") (.type "module") = pure false := by rw [isSubtype_type]; kernel_rfl
  have f3 : Manifest.varargsMethods.contains "list.append" = false := by decide +kernel
  unfold checkBoundCall
  repeat (any_goals (first | assumption | wp_step))
  obtain ⟨o, k, hx, hc, hd, hdat⟩ := hl
  refine wpAny_loadPart hx ?_
  rw [hdat]
  refine wpAny_pure ?_
  refine wpAny_bind (m := typeOf (.ref a)) (wpAny_typeOf hT ?_)
  exact wpAny_of_eq (a := ()) (by kernel_rfl) h
theorem entry_list_append' : entryFor table "list.append" = some Builtin.«list.append» := entry_list_append
theorem call_meth {a b : Addr} {o : Obj} {its : Array Value} {x : Value} {Q : Value → Shared → Prop} (hb : s.heap.get? b = some o) (hc : o.cls = .type "builtin_function_or_method") (hd : o.data = .fields #[.builtin "list.append", .ref a])
    (hl : PlainL s.heap a its) (hQ : ∀ h', PlainL h' a (its.push x) → Heap.SameBut a s.heap h' → Q .none { s with heap := h' })
    (hsz : its.size ≤ sizeLine := by size_fits) : wpAny (model prog w) A (call (.ref b) [x]) Q E s := by
  refine wpAny_call (codeAny_of_tree ?_)
  show wpAny _ A.in1 (callAny (.ref b) ⟨[x], []⟩) _ _ s
  simp only [callAny]
  refine wpAny_bind (wpAny_load hb ?_)
  rw [hd]
  dsimp only
  rw [hc]
  simp only [show (Value.type "builtin_function_or_method" == Value.type "method" || Value.type "builtin_function_or_method" == Value.type "builtin_function_or_method" || Value.type "builtin_function_or_method" == Value.type "method-wrapper") = true by decide, if_true]
  refine KFB.if_so (by decide) ?_
  refine wpAny_bind (bound_check hl ?_)
  refine wpAny_bind (wpAny_pure (wpAny_pure ?_))
  refine ⟨plainId_quiet slot_list_append.plain _, ?_⟩
  refine codeAny_builtin entry_list_append ?_
  show wpAny _ _ (updateSeq a (·.push x) >>= fun _ => ret .none) _ _ s
  obtain ⟨o, n, ho, hc, hdn, hd⟩ := id hl
  obtain ⟨n', hd'⟩ := Obj.data_mapSeq hd (·.push x)
  refine wpAny_bind ?_
  refine wpAny_updateSeq ho hd (wpAny_pure (hQ _ ?_ (Heap.SameBut.update ..)))
  refine ⟨_, n', Heap.get?_update_self _ ho (Obj.isFreed_of_seq hd'), (Obj.cls_mapSeq ..).trans hc, ?_, hd'⟩
  obtain ⟨c, d, dt, sl⟩ := o
  subst hd
  exact hdn
end
end Mine
end
section
open PySem PySem.W PyProof.Rows PySem.Spec PySem.Calls
namespace Mine
section
variable {X : Act} {σ : St} {s : Shared} {K : V → St → Prop}

theorem nsSlots {h h' : Heap} {L : Addr} {m : Str → Option Value} (n : h.Ns L m) (hk : ∀ o, h.get? L = some o → ∃ sl, h'.get? L = some { o with slots := sl }) : h'.Ns L m := by
  obtain ⟨o, es, ep, ho, hd, r⟩ := n
  obtain ⟨sl, e⟩ := hk o ho
  exact ⟨_, es, ep, e, hd, r⟩
/-- new objects; of the old ones the code table alone may have changed, and the slots of the frames -/
theorem Rep.growP (R : Rep X σ s) {s' : Shared} (hsh : ∃ h tk, s' = { s with heap := h, toks := tk }) (hk : ∀ b o, b ≠ X.P → b ≠ X.env.locals → b ∉ X.fr → s.heap.get? b = some o → s'.heap.get? b = some o)
    (hs : ∀ b, b = X.env.locals ∨ b ∈ X.fr → ∀ o, s.heap.get? b = some o → ∃ sl, s'.heap.get? b = some { o with slots := sl }) (ht : TabIn X s'.heap (off X σ)) :
    Rep X σ s' ∧ Later X σ s σ s' := by
  have hP : X.P ∈ off X σ := off_mu₀ R.ok.pmu
  have hk' : ∀ b o, b ∉ off X σ → s.heap.get? b = some o → s'.heap.get? b = some o := fun b o hb e => hk b o (fun q => hb (q ▸ hP)) (fun q => hb (off_mu (q ▸ R.lmut))) (fun q => hb (off_mu₀ (R.ok.frm b q))) e
  have hn : ∀ b ∈ off X σ, b ∈ off X σ ∨ s.heap.get? b = none := fun b hb => .inl hb
  have al : ∀ b, Alive s.heap b → Alive s'.heap b := fun b x => by
    by_cases q : b = X.P
    · rw [q]; exact ht.alive
    · obtain ⟨o, e⟩ := x
      by_cases q2 : b = X.env.locals ∨ b ∈ X.fr
      · obtain ⟨sl, z⟩ := hs b q2 o e; exact ⟨_, z⟩
      · exact ⟨o, hk b o q (fun z => q2 (.inl z)) (fun z => q2 (.inr z)) e⟩
  have ap := List.nodup_cons.mp R.apart
  have hC : ∀ c o, c ∈ X.env.cells.map (·.2) → s.heap.get? c = some o → s'.heap.get? c = some o := fun c o hc e =>
    hk c o (fun q => R.ok.pc (q ▸ hc)) (fun q => ap.1 (List.mem_append_left _ (q ▸ hc))) (fun q => R.ok.frC c q hc) e
  have hN : ∀ m, s.heap.Ns X.env.locals m → s'.heap.Ns X.env.locals m := fun m n => nsSlots n fun o e => hs _ (.inl rfl) o e
  refine ⟨⟨R.ok, ?_, fun b o hb e => ?_, fun b hb o e => ?_, ht, fun b hb => ⟨(R.new b hb).1, al b (R.new b hb).2⟩, R.lmut, ?_, ?_, R.cmut, ?_, R.apart, fun c hc => al c (R.clt c hc), R.mlt, fun b hb => let z := R.avn b hb; ⟨z.1, al b z.2.1, z.2.2⟩⟩, ⟨fun b o hm hb e => hk b o (fun q => hb (.inl q)) (fun q => hm (q ▸ R.lmut)) (fun q => hb (.inr q)) e, fun b hb => .inl hb, fun b hb => .inl hb, fun _ h => h, fun b hb => al b (hb.elim (fun q => (R.new b q).2) R.wildAlive)⟩⟩
  · obtain ⟨h, t, e⟩ := R.sh; obtain ⟨h', t', e'⟩ := hsh; exact ⟨h', t', by rw [e', e]⟩
  · exact hk b o (fun q => hb (.inl q)) (fun q => R.mu_s₀ R.lmut (q ▸ e)) (fun q => hb (.inr q)) (R.keep b o hb e)
  · obtain ⟨sl, q⟩ := R.frs b hb o e
    obtain ⟨sl', q'⟩ := hs b (.inr hb) _ q
    exact ⟨sl', q'⟩
  · obtain ⟨m, n⟩ := R.ns; exact ⟨m, hN m n⟩
  · intro x v e
    have y := R.var x v e
    refine ⟨fun a b => let ⟨m, val, n, e, i⟩ := y.loc a b; ⟨m, val, hN m n, e, i.later hk' hn⟩, fun a => ?_⟩
    obtain ⟨c, vo, e, ⟨o, ho, hd⟩, i⟩ := y.cell a
    exact ⟨c, vo, e, ⟨o, hC c o (List.mem_map.mpr ⟨(x, c), mem_of_lookup e, rfl⟩) ho, hd⟩, fun hv => let ⟨val, q, j⟩ := i hv; ⟨val, q, j.later hk' hn⟩⟩
  · intro b vs hb
    obtain ⟨h1, vals, p, i⟩ := R.own b vs hb
    have hne : b ≠ X.env.locals := fun q => ap.1 (List.mem_append_right _ (q ▸ List.mem_map.mpr ⟨(b, vs), hb, rfl⟩))
    exact ⟨h1, vals, let ⟨o, n, e, r⟩ := p; ⟨o, n, hk _ o (R.mu_ne h1) hne (fun q => R.mu_nw h1 (.inr q)) e, r⟩, i.later hk' hn⟩

mutual
/-- what a value stands for when the activation is over -/
inductive Frz (own : List (Addr × List V)) : V → V → Prop
  | same (v : V) : Frz own v v
  | own {a : Addr} {vs ws : List V} : (a, vs) ∈ own → FrzAll own vs ws → Frz own (.own a) (.lst ws)
inductive FrzAll (own : List (Addr × List V)) : List V → List V → Prop
  | nil : FrzAll own [] []
  | cons {v w : V} {vs ws : List V} : Frz own v w → FrzAll own vs ws → FrzAll own (v :: vs) (w :: ws)
end
theorem FrzAll.same {own : List (Addr × List V)} : ∀ vs, FrzAll own vs vs
  | [] => .nil
  | v :: vs => .cons (.same v) (FrzAll.same vs)

theorem Rep.out (R : Rep X σ s) {v : V} {val : Value} (x : VIn s.heap (off X σ) v val) : VIn s.heap X.mu₀ v val := x.later (fun _ _ _ e => e) fun b hb => .inl (off_mu₀ hb)
theorem Rep.mu_out (R : Rep X σ s) {b : Addr} (hb : b ∈ σ.mu) : b ∉ X.mu₀ := fun h => Nat.lt_irrefl _ (Nat.lt_of_lt_of_le (R.mlt b h) (R.new b hb).1)
mutual
theorem Frz.vin (R : Rep X σ s) : ∀ {v w : V} {val : Value}, Frz σ.own v w → VIn s.heap (off X σ) v val → VIn s.heap X.mu₀ w val
  | _, _, _, .same v, x => R.out x
  | _, _, _, .own (a := a) hm r, x => by
    cases x
    obtain ⟨h1, vals, p, i⟩ := R.own _ _ hm
    exact .lst p.isList (R.mu_out h1) (FrzAll.vin R r i)
theorem FrzAll.vin (R : Rep X σ s) : ∀ {vs ws : List V} {vals : List Value}, FrzAll σ.own vs ws → VAll s.heap (off X σ) vs vals → VAll s.heap X.mu₀ ws vals
  | _, _, _, .nil, .nil => .nil
  | _, _, _, .cons a r, .cons x y => .cons (Frz.vin R a x) (FrzAll.vin R r y)
end

def flV : Fl → V
  | .ret v => v
  | _ => .none
def flVal : Flow → Value
  | .ret v => v
  | _ => .none
theorem FlIn.val {h : Heap} {mu : List Addr} {fl : Fl} {f : Flow} (x : FlIn h mu fl f) : VIn h mu (flV fl) (flVal f) := by
  cases x with
  | ret i => exact i
  | next => exact .none
  | brk => exact .none
  | cont => exact .none

/-- the activation of a function that is called -/
abbrev Act.callee (X : Act) (σ : St) (s : Shared) (env : Env) : Act := { prog := X.prog, w := X.w, A := X.A.deeper env, env := env, s₀ := s, mu₀ := off X σ, hb := X.hb, P := X.P, lamPos := X.lamPos, lamQual := X.lamQual, lvl := X.lvl - 1, fr := X.env.locals :: X.fr, mine := true }

theorem Rep.okIn (R : Rep X σ s) {env : Env} (hc : X.P ∉ env.cells.map (·.2)) (hf : ∀ b ∈ X.env.locals :: X.fr, b ∉ env.cells.map (·.2)) (hk : env.scope.kind = .function) (hg : env.globals = mainGlobals) (hb : env.builtins = builtinsNs) (hl : 1 ≤ X.lvl) : ActOk (X.callee σ s env) where
  kin := R.ok.kin
  top := R.ok.top
  chd := R.ok.chd
  pc := hc
  room := by
    obtain ⟨h1, h2⟩ := R.ok.room
    constructor
    · show X.A.depth + 1 + (X.lvl - 1) ≤ 500; omega
    · show X.A.units + 3 + 10 * (X.lvl - 1) ≤ 2000; omega
  hbP := R.ok.hbP
  frC := hf
  frm b hb := by
    rcases List.mem_cons.mp hb with rfl | hb
    · exact off_mu R.lmut
    · exact off_mu₀ (R.ok.frm b hb)
  hbF b hb := by
    rcases List.mem_cons.mp hb with rfl | hb
    · cases e : X.hb.get? X.env.locals with
      | none => rfl
      | some o => exact absurd (R.ok.base _ o e) (R.mu_s₀ R.lmut)
    · exact R.ok.hbF b hb
  fal b hb := by
    rcases List.mem_cons.mp hb with rfl | hb
    · exact (R.new _ R.lmut).2
    · exact R.wildAlive (.inr hb)
  frP hm := by
    rcases List.mem_cons.mp hm with q | q
    · exact R.mu_ne R.lmut q.symm
    · exact R.ok.frP q
  base := R.base
  pmu := off_mu₀ R.ok.pmu
  plt := Nat.lt_of_lt_of_le R.ok.plt R.size
  kind := hk
  glob := hg
  blt := hb
theorem Rep.off_lt (R : Rep X σ s) : ∀ b ∈ off X σ, b < s.heap.objs.size := fun b hb => by
  rcases List.mem_append.mp hb with hb | hb
  · exact (R.new b hb).2.lt
  · rcases List.mem_append.mp hb with hb | hb
    · exact (R.avn b hb).2.1.lt
    · exact Nat.lt_of_lt_of_le (R.mlt b hb) R.size

theorem Rep.enter (R : Rep X σ s) {env : Env} {h₀ : Heap} {tk : Nat} {m : Str → Option Value} {loc : List (Str × V)} (hns : h₀.Ns s.heap.objs.size m) (hkeep : ∀ b o, s.heap.get? b = some o → h₀.get? b = some o)
    (hL : env.locals = s.heap.objs.size) (hc : env.cells = []) (hk : env.scope.kind = .function) (hg : env.globals = mainGlobals) (hb : env.builtins = builtinsNs) (hnc : ∀ x, env.kindOf x ≠ some .cell ∧ env.kindOf x ≠ some .free)
    (hl : 1 ≤ X.lvl) (hloc : ∀ x v, loc.lookup x = some v → ∃ val, m x = some val ∧ VIn s.heap (off X σ) v val) :
    Rep (X.callee σ s env) ⟨loc, [], [s.heap.objs.size], []⟩ { s with heap := h₀, toks := tk } := by
  have hnn : ∀ b ∈ off (X.callee σ s env) ⟨loc, [], [s.heap.objs.size], []⟩, b ∈ off X σ ∨ s.heap.get? b = none := fun b hb => by
    rcases List.mem_append.mp hb with hb | hb
    · exact .inr (List.mem_singleton.mp hb ▸ get_size _)
    · exact .inl hb
  refine ⟨R.okIn (by rw [hc]; exact List.not_mem_nil) (fun b _ => by rw [hc]; exact List.not_mem_nil) hk hg hb hl, ⟨h₀, tk, rfl⟩, fun b o _ e => hkeep b o e, fun b _ o e => ⟨o.slots, hkeep b o e⟩, (let z := R.tab.later (fun o e => hkeep _ o e) (fun b o _ e => hkeep b o e) hnn; ⟨z.tab, z.hd⟩), fun b hb => ?_, by rw [hL]; exact List.mem_singleton.mpr rfl, ⟨m, by rw [hL]; exact hns⟩, ?_, fun _ x c q => absurd q (hnc x).1, (fun a vs hm => nomatch hm), ?_, fun c q => ?_, R.off_lt, (fun b q => nomatch q)⟩
  · obtain rfl := List.mem_singleton.mp hb
    exact ⟨Nat.le_refl _, let ⟨o, _, _, e, _⟩ := hns; ⟨o, e⟩⟩
  · intro x v e
    obtain ⟨val, hm, i⟩ := hloc x v e
    refine ⟨fun _ _ => ⟨m, val, by rw [hL]; exact hns, hm, i.later (fun b o _ e => hkeep b o e) hnn⟩, fun q => ?_⟩
    rcases q with q | q
    · exact absurd q (hnc x).1
    · exact absurd q (hnc x).2
  · show (env.locals :: (env.cells.map (·.2) ++ [])).Nodup
    rw [hc]; simp
  · rw [show (X.callee σ s env).env.cells = [] from hc] at q; cases q

theorem lookup_app {β : Type} (x : Str) : ∀ (l r : List (Str × β)), (l ++ r).lookup x = (l.lookup x).or (r.lookup x)
  | [], r => by simp
  | (y, b) :: l, r => by
    rw [List.cons_append, List.lookup_cons, List.lookup_cons]
    cases x == y
    · exact lookup_app x l r
    · rfl
theorem zip_both {h : Heap} {mu : List Addr} (x : Str) : ∀ {ps : List Str} {as : List V} {vals : List Value}, VAll h mu as vals →
    ((ps.zip as).reverse.lookup x = none ∧ (ps.zip vals).reverse.lookup x = none) ∨ ∃ v val, (ps.zip as).reverse.lookup x = some v ∧ (ps.zip vals).reverse.lookup x = some val ∧ VIn h mu v val
  | [], _, _, _ => .inl ⟨rfl, rfl⟩
  | _ :: _, _, _, .nil => .inl ⟨rfl, rfl⟩
  | p :: ps, _, _, .cons (v := a) (val := val) i r => by
    rw [List.zip_cons_cons, List.zip_cons_cons, List.reverse_cons, List.reverse_cons, lookup_app, lookup_app]
    rcases zip_both x (ps := ps) r with ⟨h1, h2⟩ | ⟨v, w, h1, h2, i'⟩
    · rw [h1, h2, Option.none_or, Option.none_or, List.lookup_cons, List.lookup_cons]
      cases x == p
      · exact .inl ⟨rfl, rfl⟩
      · exact .inr ⟨_, _, rfl, rfl, i⟩
    · rw [h1, h2]
      exact .inr ⟨_, _, rfl, rfl, i'⟩
theorem zip_lookup {ps : List Str} {h : Heap} {mu : List Addr} {as : List V} {vals : List Value} (i : VAll h mu as vals) : ∀ x v, (ps.zip as).reverse.lookup x = some v → ∃ val, (ps.zip vals).reverse.lookup x = some val ∧ VIn h mu v val := fun x v e => by
  rcases zip_both x (ps := ps) i with ⟨h1, _⟩ | ⟨u, w, h1, h2, i'⟩
  · rw [h1] at e; cases e
  · rw [h1] at e; cases e; exact ⟨w, h2, i'⟩

/-- the frames around are known -/
def Framed (X : Act) : Prop := ∃ outer, X.A.frames = some (X.env :: outer) ∧ X.env.frame = some X.env.locals ∧
  ∀ e ∈ outer, e.scope.kind ≠ .module ∧ ∃ L, L ∈ X.fr ∧ e.frame = some L ∧ ∃ o, X.s₀.heap.get? L = some o ∧ ∀ vs, o.data ≠ .fields vs
theorem Framed.callee (F : Framed X) (R : Rep X σ s) {env : Env} (hf : env.frame = some env.locals) : Framed (X.callee σ s env) := by
  obtain ⟨outer, h1, h2, h3⟩ := F
  refine ⟨X.env :: outer, ?_, hf, fun e he => ?_⟩
  · show X.A.frames.map _ = _
    rw [h1]; rfl
  · rcases List.mem_cons.mp he with rfl | he
    · obtain ⟨m, o, es, ep, ho, hd, _⟩ := R.ns
      exact ⟨by rw [R.ok.kind]; decide, _, List.mem_cons_self, h2, o, ho, fun vs q => by rw [hd] at q; cases q⟩
    · obtain ⟨hk, L, hL, hf, o, ho, hd⟩ := h3 e he
      obtain ⟨sl, z⟩ := R.frs L hL o ho
      exact ⟨hk, L, List.mem_cons_of_mem _ hL, hf, _, z, hd⟩
/-- what is known of the activation of a called function -/
structure InCall (X Y : Act) (fd : FuncData) : Prop where
  sc : Y.env.scope = fd.scope
  lvl : Y.lvl = X.lvl - 1
  w : Y.w = X.w
  hd : Y.A.handled = X.A.handled
  code : Y.env.code = fd.code
  qual : Y.env.qual = fd.qualname ++ ".<locals>."
  pp : Y.P = X.P
  lp : Y.lamPos = X.lamPos
  lq : Y.lamQual = X.lamQual
  frm : Framed X → Framed Y

/-- a call of a function of the text, one without cells -/
theorem O_call {f : Addr} {o : Obj} {fd : FuncData} {body : List Stmt} {as : List V} (ps : List Str) (h : ∀ (Y : Act) (L : Addr), InCall X Y fd → Ex Y (execs body Y.env) ⟨(ps.zip as).reverse, [], [L], []⟩ fun fl σ' => ∃ r, Frz σ'.own (flV fl) r ∧ K r σ)
    (hl : 1 ≤ X.lvl) (hlen : as.length = ps.length) (ho : (heapK X.w.params).lookup f = some o) (hdata : o.data = .func fd) (hcd : codeIn (heapK X.w.params) fd.code fd.qualname = true) (hbody : fd.body = .stmts body)
    (hbind : ∀ vals : List Value, vals.length = ps.length → bindArgs fd ⟨vals, []⟩ = pure (ps.zip vals)) (hnc : ∀ x ∈ fd.scope.names, x.2 ≠ .cell ∧ x.2 ≠ .free) (hloc : ∀ x ∈ ps, fd.scope.names.lookup x = some .local)
    (hclo : fd.closure = []) (hg : fd.globals = mainGlobals) (hb : fd.builtins = builtinsNs) (hco : fd.scope.isCoroutine = false) (hgen : fd.scope.isGenerator = false) (hk : fd.scope.kind = .function) : OpN X (fun vals => call (.ref f) vals) as σ K := by
  intro s vals Q E R i hQ
  obtain ⟨p, loose, mean, mg, mb, T'⟩ := R.ok.top
  have T := topRead_of T'
  have hlen' : vals.length = ps.length := by rw [i.length, hlen]
  have room : X.A.depth < recursionLimit := by have := R.ok.room.1; show _ < 1000; omega
  have hcells : (callEnv fd s.heap.objs.size f).cells = [] := by show fd.closure = []; exact hclo
  have hnc' : ∀ x, (callEnv fd s.heap.objs.size f).kindOf x ≠ some .cell ∧ (callEnv fd s.heap.objs.size f).kindOf x ≠ some .free := fun x => ⟨fun q => (hnc _ (mem_of_lookup q)).1 rfl, fun q => (hnc _ (mem_of_lookup q)).2 rfl⟩
  refine wpAny_call (codeAny_call_def (body := body) (binds := ps.zip vals) room (R.base _ _ (R.ok.kin _ _ ho)) hdata (T.nolimit.keeps R.base) (codeRec_of (R.ok.kin.keeps R.base) hcd) hbody (.of_eq (hbind vals hlen')) (fun x hx => (hnc x hx).1)
    (fun x hx => hloc _ (List.of_mem_zip hx).1) (fun h₀ hns hk₀ => ?_) hco hgen hk)
  have R' := R.enter (env := callEnv fd s.heap.objs.size f) (tk := s.toks + (ps.zip vals).length) (loc := (ps.zip as).reverse) hns hk₀ rfl hcells hk hg hb hnc' hl (zip_lookup i)
  refine wpAny_mono (h (X.callee σ s (callEnv fd s.heap.objs.size f)) s.heap.objs.size ⟨rfl, rfl, rfl, rfl, rfl, rfl, rfl, rfl, rfl, fun F => F.callee R rfl⟩ _ (fun f s' => Q (flVal f) s') (fun e s' => wpAny (model X.prog X.w) (X.A.deeper (callEnv fd s.heap.objs.size f)) (leaving (callEnv fd s.heap.objs.size f) e) (fun _ s'' => E e s'') (fun e' s'' => E e' s'') s') R' fun fl' fl σ' s' R₁ L₁ i₁ h₁ => ?_) (fun fl s' hq => by cases fl <;> exact hq) fun _ _ z => z
  obtain ⟨r, fr, hK⟩ := h₁
  have z := R.growP (s' := s') R₁.sh (fun b o h1 h2 h3 e => R₁.keep b o (fun q => q.elim h1 fun q => (List.mem_cons.mp q).elim h2 h3) e) (fun b hb o e => R₁.frs b (List.mem_cons.mpr hb) o e) (let z := R₁.tab.later (fun _ e => e) (fun _ _ _ e => e) fun b hb => .inl (off_mu₀ hb); ⟨z.tab, z.hd⟩)
  exact hQ _ _ _ _ z.1 z.2 (fr.vin R₁ i₁.val) hK
end
end Mine
end
section
open PySem PySem.W PyProof.Rows PySem.Spec PySem.Calls
namespace Mine
mutual
/-- the plain datum that a value is -/
inductive Dat : V → PyData → Prop
  | none : Dat .none .none
  | bool (b : Bool) : Dat (.bool b) (.bool b)
  | int (i : Int) : Dat (.int i) (.int i)
  | str (x : Str) : Dat (.str x) (.str x)
  | lst {vs : List V} {ds : List PyData} : DatAll vs ds → Dat (.lst vs) (.list ds)
inductive DatAll : List V → List PyData → Prop
  | nil : DatAll [] []
  | cons {v : V} {d : PyData} {vs : List V} {ds : List PyData} : Dat v d → DatAll vs ds → DatAll (v :: vs) (d :: ds)
end
mutual
theorem Dat.reads {h : Heap} {mu : List Addr} : ∀ {v : V} {d : PyData} {val : Value}, Dat v d → VIn h mu v val → ∃ as, Reads h val d as
  | _, _, _, .none, x => by cases x; exact ⟨_, .none⟩
  | _, _, _, .bool b, x => by cases x; exact ⟨_, .bool b⟩
  | _, _, _, .int i, x => by cases x; exact ⟨_, .int i _⟩
  | _, _, _, .str s, x => by cases x; exact ⟨_, .str s _⟩
  | _, _, _, .lst r, x => by
    cases x with
    | lst hl _ hi =>
      obtain ⟨as, q⟩ := DatAll.reads r hi
      obtain ⟨o, e, c, n, d⟩ := hl
      exact ⟨_, .list e c d (by simpa using q)⟩
theorem DatAll.reads {h : Heap} {mu : List Addr} : ∀ {vs : List V} {ds : List PyData} {vals : List Value}, DatAll vs ds → VAll h mu vs vals → ∃ as, ReadsAll h vals ds as
  | _, _, _, .nil, .nil => ⟨_, .nil⟩
  | _, _, _, .cons a r, .cons x y => let ⟨_, q⟩ := Dat.reads a x; let ⟨_, q'⟩ := DatAll.reads r y; ⟨_, .cons q q'⟩
end
theorem DatAll.map {α : Type} (f : α → V) (g : α → PyData) (h : ∀ x, Dat (f x) (g x)) : ∀ l : List α, DatAll (l.map f) (l.map g)
  | [] => .nil
  | x :: l => .cons (h x) (DatAll.map f g h l)

section
variable {X : Act} {σ : St} {K : V → St → Prop} {KF : Fl → St → Prop} {KB : Bool → St → Prop} {KL : List V → St → Prop}

theorem Its.reads {c : V} {vs : List V} {ds : List PyData} {s : Shared} {val : Value} (R : Rep X σ s) (I : Its σ c vs) (D : DatAll vs ds) (i : VIn s.heap (off X σ) c val) : ∃ as, Reads s.heap val (.list ds) as := by
  obtain ⟨a, vals, rfl, hl, il⟩ := I.get R i
  obtain ⟨as, q⟩ := D.reads il
  obtain ⟨o, e, c, n, d⟩ := hl
  exact ⟨_, .list e c d (by simpa using q)⟩
theorem Rep.units (R : Rep X σ s) : X.A.units ≤ 2000 := by have := R.ok.room.2; omega

theorem O_inD {x c : V} {vs : List V} {d : PyData} {ds : List PyData} (D : Dat x d) (I : Its σ c vs) (E : DatAll vs ds) (h1 : PyData.canLayAll0 ds = true) (h2 : d.canLay0 = true) (h3 : d.depth ≤ 64) (h : K (.bool (ds.any fun y => PyData.eqv y d)) σ) : Op2 X (compareOp .In) x c σ K := by
  intro s va vb Q E' R ia ib hQ
  obtain ⟨as, q⟩ := D.reads ia
  obtain ⟨bs, r⟩ := I.reads R E ib
  have := R.units
  exact PySem.SeqAt.in_list_reads r q h1 h2 (by have : min (PyData.depthAll ds) d.depth ≤ d.depth := Nat.min_le_right _ _; show _ < 9900; omega) (hQ _ _ _ _ R (.refl R) (.bool _) h)
theorem O_notInD {x c : V} {vs : List V} {d : PyData} {ds : List PyData} (D : Dat x d) (I : Its σ c vs) (E : DatAll vs ds) (h1 : PyData.canLayAll0 ds = true) (h2 : d.canLay0 = true) (h3 : d.depth ≤ 64) (h : K (.bool (!ds.any fun y => PyData.eqv y d)) σ) : Op2 X (compareOp .NotIn) x c σ K := by
  intro s va vb Q E' R ia ib hQ
  obtain ⟨as, q⟩ := D.reads ia
  obtain ⟨bs, r⟩ := I.reads R E ib
  have := R.units
  exact PySem.SeqAt.notIn_list_reads r q h1 h2 (by have : min (PyData.depthAll ds) d.depth ≤ d.depth := Nat.min_le_right _ _; show _ < 9900; omega) (hQ _ _ _ _ R (.refl R) (.bool _) h)
theorem O_eqD {x y : V} {d e : PyData} (D : Dat x d) (E : Dat y e) (h1 : PySem.SeqAt.shaped d = true) (h2 : PySem.SeqAt.shaped e = true) (h : K (.bool (PyData.eqv d e)) σ) : Op2 X (compareOp .Eq) x y σ K := by
  intro s va vb Q E' R ia ib hQ
  obtain ⟨as, q⟩ := D.reads ia
  obtain ⟨bs, r⟩ := E.reads ib
  have := R.units
  exact eq_dataH q r h1 h2 (by show _ < 9900; omega) (hQ _ _ _ _ R (.refl R) (.bool _) h)
theorem O_neD {x y : V} {d e : PyData} (D : Dat x d) (E : Dat y e) (h1 : PySem.SeqAt.shaped d = true) (h2 : PySem.SeqAt.shaped e = true) (h : K (.bool (!PyData.eqv d e)) σ) : Op2 X (compareOp .NotEq) x y σ K := by
  intro s va vb Q E' R ia ib hQ
  obtain ⟨as, q⟩ := D.reads ia
  obtain ⟨bs, r⟩ := E.reads ib
  have := R.units
  exact ne_dataH q r h1 h2 (by show _ < 9900; omega) (hQ _ _ _ _ R (.refl R) (.bool _) h)

theorem Evs_nil {pos : Pos} (h : KL [] σ) : Evs X (spliced (backTo pos (starEach [] X.env))) σ KL := fun _ _ _ R hQ => PyProof.Rows.args_nil (hQ _ _ _ _ R (.refl R) .nil h)
theorem Evs_cons {e : Expr} {rest : List Expr} {pos : Pos} (h : Ev X (eval e X.env) σ fun v σ₁ => Evs X (spliced (backTo pos (starEach rest X.env))) σ₁ fun vs σ₂ => KL (v :: vs) σ₂)
    (he : starEach (e :: rest) X.env = (false, eval e X.env) :: starEach rest X.env := by rfl) : Evs X (spliced (backTo pos (starEach (e :: rest) X.env))) σ KL := by
  intro s Q E R hQ
  refine PyProof.Rows.args_cons (h s _ _ R fun val v σ₁ s₁ R₁ L₁ i₁ h₁ => h₁ s₁ _ _ R₁ fun vals vs σ₂ s₂ R₂ L₂ i₂ h₂ => ?_) he
  exact hQ _ _ _ _ R₂ (L₁.trans L₂) (.cons (L₂.vin R₁ i₁) i₂) h₂

/-- a list display that the activation will change -/
theorem Ev_listO {elts : List Expr} {pos : Pos} (h : Evs X (spliced (backTo pos (starEach elts X.env))) σ fun vs σ₁ => vs.length ≤ sizeLine ∧ ∀ a, (∀ ws, (a, ws) ∉ σ₁.own) → K (.own a) { σ₁ with mu := a :: σ₁.mu, own := (a, vs) :: σ₁.own }) : Ev X (eval (.List elts pos) X.env) σ K := by
  intro s Q E R hQ
  refine PyProof.Rows.List_ (h s _ _ R fun vals vs σ₁ s₁ R₁ L₁ i₁ h₁ => ?_)
  have z := R₁.newOwn (n := 0) (tk := s₁.toks) i₁
  exact wpAny_newObj_type (hQ _ _ _ _ z.1 (L₁.trans z.2) (.own _) (h₁.2 _ fun ws hm => Nat.lt_irrefl _ (R₁.new _ (R₁.own _ _ hm).1).2.lt)) (by show vals.toArray.size ≤ sizeLine; rw [List.size_toArray, i₁.length]; exact h₁.1)
/-- a list display that stays as it is -/
theorem Ev_listF {elts : List Expr} {pos : Pos} (h : Evs X (spliced (backTo pos (starEach elts X.env))) σ fun vs σ₁ => vs.length ≤ sizeLine ∧ K (.lst vs) σ₁) : Ev X (eval (.List elts pos) X.env) σ K := by
  intro s Q E R hQ
  refine PyProof.Rows.List_ (h s _ _ R fun vals vs σ₁ s₁ R₁ L₁ i₁ h₁ => ?_)
  have z := R₁.push (tk := s₁.toks) { cls := .type "list", data := .seq vals.toArray 0 }
  exact wpAny_newObj_type (hQ _ _ _ _ z.1 (L₁.trans z.2) (.lst (vals := vals) ⟨_, Heap.get?_push_size _ rfl, rfl, 0, rfl⟩ (R₁.fresh (Nat.le_refl _)) (Later.vall R₁ z.2 i₁)) h₁.2) (by show vals.toArray.size ≤ sizeLine; rw [List.size_toArray, i₁.length]; exact h₁.1)

theorem Ev_append {o e : Expr} {apos pos : Pos} (h : Ev X (eval o X.env) σ fun v σ₁ => ∃ a its, v = .own a ∧ (a, its) ∈ σ₁.own ∧ Ev X (eval e X.env) σ₁ fun u σ₂ => ∃ its own', OwnSet a its (its ++ [u]) σ₂.own own' ∧ its.length ≤ sizeLine ∧ K .none { σ₂ with own := own' })
    (hbase : attributeBase o "append" X.env (eval o X.env) = eval o X.env := by rfl)
    (hfew : ((backTo pos (starEach [e] X.env)).all (fun x => !x.1) && (backToKw pos (keywordEach [] X.env)).all (fun x => x.1.isSome)
      && decide (([e] : List Expr).length + ([] : List Keyword).length + (if ([] : List Keyword).isEmpty then 0 else 1) < 30)) = true := by rfl)
    (hline : (apos.endLine == pos.line) = true := by rfl)
    (htrees : backTo pos (starEach [e] X.env) = [(false, eval e X.env)] := by rfl) : Ev X (eval (.Call (.Attribute o "append" apos) [e] [] pos) X.env) σ K := by
  intro s Q E R hQ
  refine wpAny_Call_append hbase hfew hline htrees (h s _ _ R fun val v σ₁ s₁ R₁ L₁ i₁ h₁ => ?_)
  obtain ⟨a, its, rfl, hm, h₁⟩ := h₁
  obtain ⟨_, vals, p, _⟩ := R₁.own a its hm
  cases i₁
  refine ⟨a, _, rfl, p, h₁ s₁ _ _ R₁ fun y u σ₂ s₂ R₂ L₂ i₂ h₂ => ?_⟩
  obtain ⟨its₂, own', O, hz, h₂⟩ := h₂
  obtain ⟨_, vals₂, p₂, il₂⟩ := R₂.own a its₂ O.mem
  refine list_append_plainL p₂ (fun h' p' hs => ?_) (by rw [List.size_toArray, il₂.length]; exact hz)
  have z := R₂.setOwn (tk := s₂.toks) (vals' := vals₂ ++ [y]) O (il₂.append (.one i₂)) (by simpa using p') hs
  exact hQ _ _ _ _ z.1 ((L₁.trans L₂).trans z.2) .none h₂
end
end Mine
end
section
open PySem PySem.W PyProof.Rows PySem.Spec PySem.Calls
namespace Mine
section
variable {X : Act} {σ : St} {s : Shared} {K : V → St → Prop} {KF : Fl → St → Prop} {KB : Bool → St → Prop} {KL : List V → St → Prop}

/-- a call of a function of the text -/
theorem Ev_callF {func e : Expr} {rest : List Expr} {pos : Pos} (f : Addr)
    (h : Ev X (eval func X.env) σ fun v σ₁ => v = .any (.ref f) ∧ Evs X (spliced (backTo pos (starEach (e :: rest) X.env))) σ₁ fun vs σ₂ => OpN X (fun vals => call (.ref f) vals) vs σ₂ K)
    (ho : ∃ o fd, (heapK X.w.params).lookup f = some o ∧ o.data = .func fd := by exact ⟨_, _, rfl, rfl⟩)
    (he : starEach (e :: rest) X.env = (false, eval e X.env) :: starEach rest X.env := by rfl)
    (hc : eval (.Call func (e :: rest) [] pos) X.env = (do callWith pos (← eval func X.env) [] (backTo pos (starEach (e :: rest) X.env)) (backToKw pos (keywordEach [] X.env))) := by rfl) : Ev X (eval (.Call func (e :: rest) [] pos) X.env) σ K := by
  intro s Q E R hQ
  refine PyProof.Rows.Call_ (h s _ _ R fun val v σ₁ s₁ R₁ L₁ i₁ h₁ => ?_) hc
  obtain ⟨rfl, h₁⟩ := h₁
  cases i₁
  obtain ⟨o, fd, ho, hd⟩ := ho
  refine PyProof.Rows.callWith_def hd (h₁ s₁ _ _ R₁ fun vals vs σ₂ s₂ R₂ L₂ i₂ h₂ => ⟨R₂.base _ _ (R₂.ok.kin _ _ ho), ?_⟩) he
  exact h₂ s₂ vals _ _ R₂ i₂ fun val v σ' s' R' L' i' k => hQ val v σ' s' R' ((L₁.trans L₂).trans L') i' k
/-- a call of a builtin function -/
theorem Ev_callB {func e : Expr} {rest : List Expr} {pos : Pos} (id : String)
    (h : Ev X (eval func X.env) σ fun v σ₁ => v = .any (.builtin id) ∧ Evs X (spliced (backTo pos (starEach (e :: rest) X.env))) σ₁ fun vs σ₂ => OpN X (fun vals => call (.builtin id) vals) vs σ₂ K)
    (he : starEach (e :: rest) X.env = (false, eval e X.env) :: starEach rest X.env := by rfl)
    (hplain : (backTo pos (starEach rest X.env)).any (·.1) = false := by rfl)
    (hc : eval (.Call func (e :: rest) [] pos) X.env = (do callWith pos (← eval func X.env) [] (backTo pos (starEach (e :: rest) X.env)) (backToKw pos (keywordEach [] X.env))) := by rfl) : Ev X (eval (.Call func (e :: rest) [] pos) X.env) σ K := by
  intro s Q E R hQ
  refine PyProof.Rows.Call_ (h s _ _ R fun val v σ₁ s₁ R₁ L₁ i₁ h₁ => ?_) hc
  obtain ⟨rfl, h₁⟩ := h₁
  cases i₁
  refine PyProof.Rows.callWith_builtin1 (h₁ s₁ _ _ R₁ fun vals vs σ₂ s₂ R₂ L₂ i₂ h₂ => ?_) he hplain
  exact h₂ s₂ vals _ _ R₂ i₂ fun val v σ' s' R' L' i' k => hQ val v σ' s' R' ((L₁.trans L₂).trans L') i' k
/-- a call of a builtin type -/
theorem Ev_callT {func e : Expr} {rest : List Expr} {pos : Pos} (T : String)
    (h : Ev X (eval func X.env) σ fun v σ₁ => v = .any (.type T) ∧ Evs X (spliced (backTo pos (starEach (e :: rest) X.env))) σ₁ fun vs σ₂ => OpN X (fun vals => call (.type T) vals) vs σ₂ K)
    (he : starEach (e :: rest) X.env = (false, eval e X.env) :: starEach rest X.env := by rfl)
    (hplain : (backTo pos (starEach rest X.env)).any (·.1) = false := by rfl)
    (hc : eval (.Call func (e :: rest) [] pos) X.env = (do callWith pos (← eval func X.env) [] (backTo pos (starEach (e :: rest) X.env)) (backToKw pos (keywordEach [] X.env))) := by rfl) : Ev X (eval (.Call func (e :: rest) [] pos) X.env) σ K := by
  intro s Q E R hQ
  refine PyProof.Rows.Call_ (h s _ _ R fun val v σ₁ s₁ R₁ L₁ i₁ h₁ => ?_) hc
  obtain ⟨rfl, h₁⟩ := h₁
  cases i₁
  refine PyProof.Rows.callWith_type1 (h₁ s₁ _ _ R₁ fun vals vs σ₂ s₂ R₂ L₂ i₂ h₂ => ?_) he hplain
  exact h₂ s₂ vals _ _ R₂ i₂ fun val v σ' s' R' L' i' k => hQ val v σ' s' R' ((L₁.trans L₂).trans L') i' k
theorem Ev_callT0 {func : Expr} {pos : Pos} (T : String)
    (h : Ev X (eval func X.env) σ fun v σ₁ => v = .any (.type T) ∧ OpN X (fun vals => call (.type T) vals) [] σ₁ K)
    (hc : eval (.Call func [] [] pos) X.env = (do callWith pos (← eval func X.env) [] (backTo pos (starEach [] X.env)) (backToKw pos (keywordEach [] X.env))) := by rfl) : Ev X (eval (.Call func [] [] pos) X.env) σ K := by
  intro s Q E R hQ
  refine PyProof.Rows.Call_ (h s _ _ R fun val v σ₁ s₁ R₁ L₁ i₁ h₁ => ?_) hc
  obtain ⟨rfl, h₁⟩ := h₁
  cases i₁
  refine PyProof.Rows.callWith_type0 ?_
  exact h₁ s₁ [] _ _ R₁ .nil fun val v σ' s' R' L' i' k => hQ val v σ' s' R' (L₁.trans L') i' k

theorem callWith_bm {prog : Program} {w : World} {A : Around} {E : Value → Shared → Prop} {env : Env} {pos : Pos} {u a : Addr} {e : Expr} {Q : Value → Shared → Prop}
    (h : wpAny (model prog w) A (spliced (backTo pos (starEach [e] env))) (fun vs s₁ => (∃ o, s₁.heap.get? u = some o ∧ o.cls = .type "builtin_function_or_method" ∧ o.data = .fields #[.builtin "list.append", .ref a]) ∧ wpAny (model prog w) A (call (.ref u) vs) Q E s₁) E s)
    (he : starEach [e] env = (false, eval e env) :: starEach [] env) : wpAny (model prog w) A (callWith pos (.ref u) [] (backTo pos (starEach [e] env)) []) Q E s := by
  rw [he] at h ⊢
  unfold callWith
  refine wpAny_bind (wpAny_holding (PySem.Calls.evalArgs_plain (wpAny_mono h (fun vs s₁ h₁ => wpAny_bind (wpAny_standAt ?_)) fun _ _ x => x)))
  obtain ⟨⟨o, ho, hcls, hdata⟩, hcall⟩ := h₁
  have hplain : (backTo pos ((false, eval e env) :: starEach [] env)).any (·.1) = false := rfl
  dsimp only
  rw [hplain]
  refine wpAny_bind (m := keeperOf (.ref u)) ?_
  unfold keeperOf
  refine wpAny_bind (wpAny_load ho ?_)
  rw [hdata]
  dsimp only
  rw [hcls]
  simp only [show (Value.type "builtin_function_or_method" != Value.type "method") = true by decide, show (Value.type "builtin_function_or_method" == Value.type "builtin_function_or_method" || Value.type "builtin_function_or_method" == Value.type "method-wrapper") = true by decide, if_true]
  refine wpAny_pure ?_
  exact wpAny_bind (wpAny_mono hcall (fun r s₂ hr => wpAny_bind (wpAny_holding (wpAny_point (wpAny_pure hr)))) fun _ _ x => x)
/-- a call of a list's bound append -/
theorem Ev_callM {func e : Expr} {pos : Pos}
    (h : Ev X (eval func X.env) σ fun v σ₁ => ∃ a, v = .meth a ∧ Ev X (eval e X.env) σ₁ fun u σ₂ => ∃ its own', OwnSet a its (its ++ [u]) σ₂.own own' ∧ its.length ≤ sizeLine ∧ K .none { σ₂ with own := own' })
    (he : starEach [e] X.env = (false, eval e X.env) :: starEach [] X.env := by rfl)
    (hc : eval (.Call func [e] [] pos) X.env = (do callWith pos (← eval func X.env) [] (backTo pos (starEach [e] X.env)) (backToKw pos (keywordEach [] X.env))) := by rfl) : Ev X (eval (.Call func [e] [] pos) X.env) σ K := by
  intro s Q E R hQ
  refine PyProof.Rows.Call_ (h s _ _ R fun val v σ₁ s₁ R₁ L₁ i₁ h₁ => ?_) hc
  obtain ⟨a, rfl, h₁⟩ := h₁
  refine callWith_bm (a := a) (u := match val with | .ref b => b | _ => 0) ?_ he |> fun z => by cases i₁; exact z
  refine PyProof.Rows.args_cons (h₁ s₁ _ _ R₁ fun val₂ u σ₂ s₂ R₂ L₂ i₂ h₂ => ?_) he
  refine PyProof.Rows.args_nil ?_
  obtain ⟨its, own', O, hz, h₂⟩ := h₂
  have i₁' := L₂.vin R₁ i₁
  cases i₁' with
  | meth hb hcls hd _ =>
    obtain ⟨_, vals, p, il⟩ := R₂.own a its O.mem
    refine ⟨⟨_, hb, hcls, hd⟩, call_meth hb hcls hd p (fun h' p' hs => ?_) (by rw [List.size_toArray, il.length]; exact hz)⟩
    have z := R₂.setOwn (tk := s₂.toks) (vals' := vals ++ [val₂]) O (il.append (.one i₂)) (by simpa using p') hs
    exact hQ _ _ _ _ z.1 ((L₁.trans L₂).trans z.2) .none h₂
/-- x.append as a value -/
theorem Ev_bound {x : Str} {px pos : Pos} (h : Ev X (eval (.Name x px) X.env) σ fun v σ₁ => ∃ a vs, v = .own a ∧ (a, vs) ∈ σ₁.own ∧ K (.meth a) σ₁) : Ev X (eval (.Attribute (.Name x px) (Str.ofString "append") pos) X.env) σ K := by
  intro s Q E R hQ
  show wpAny _ _ (do
    let o ← eval (.Name x px) X.env
    standAt pos.atName
    let r ← holding [o] (getAttr o (Str.ofString "append") true)
    letTemporaryGo (.Name x px) o r
    pure r) _ _ s
  refine wpAny_bind (h s _ _ R fun val v σ₁ s₁ R₁ L₁ i₁ h₁ => ?_)
  obtain ⟨a, vs, rfl, hm, h₁⟩ := h₁
  cases i₁
  obtain ⟨_, vals, p, _⟩ := R₁.own a vs hm
  refine wpAny_bind (wpAny_standAt (wpAny_bind (wpAny_holding (getAttr_append p ?_))))
  refine wpAny_bind (wpAny_letTemporaryGo (wpAny_pure ?_))
  have z := R₁.push (tk := s₁.toks + 1) (appObj a)
  exact hQ _ _ _ _ z.1 (L₁.trans z.2) (.meth (Heap.get?_push_size _ rfl) rfl rfl (R₁.fresh (Nat.le_refl _))) h₁

theorem O_lenL {v : V} {vs : List V} (I : Its σ v vs) (hz : vs.length ≤ sizeLine) (h : K (.int vs.length) σ) : OpN X (fun vals => call (.builtin "len") vals) [v] σ K := by
  intro s vals Q E R i hQ
  obtain ⟨_, rfl⟩ : ∃ val, vals = [val] := by cases i with | cons a r => cases r; exact ⟨_, rfl⟩
  cases i with
  | cons i _ =>
    obtain ⟨a, its, rfl, hl, il⟩ := I.get R i
    have e : its.toArray.size = vs.length := by rw [List.size_toArray, il.length]
    refine PyProof.Rows.len_list hl (by rw [e]; rw [sizeLine_eq] at hz; omega) ?_
    rw [e]
    have z := R.tok (tk := s.toks + 1 + 1)
    exact hQ _ _ _ _ z.1 z.2 (.int _ _) h
theorem O_lenS {x : Str} (hz : x.length ≤ sizeLine) (h : K (.int x.length) σ) : OpN X (fun vals => call (.builtin "len") vals) [.str x] σ K := by
  intro s vals Q E R i hQ
  obtain ⟨_, rfl⟩ : ∃ val, vals = [val] := by cases i with | cons a r => cases r; exact ⟨_, rfl⟩
  cases i with
  | cons i _ =>
    cases i
    have z := R.tok (tk := s.toks + 1 + 1)
    exact PyProof.Rows.len_str (by rw [sizeLine_eq] at hz; omega) (hQ _ _ _ _ z.1 z.2 (.int _ _) h)

theorem Ev_sub {value slice : Expr} {pos : Pos} (h : Ev X (eval value X.env) σ fun o σ₁ => Ev X (eval slice X.env) σ₁ fun i σ₂ => Op2 X (subscriptTail value slice) o i σ₂ K) : Ev X (eval (.Subscript value slice pos) X.env) σ K := by
  intro s Q E R hQ
  refine PyProof.Rows.Subscript_ (h s _ _ R fun va a σ₁ s₁ R₁ L₁ i₁ h₁ => h₁ s₁ _ _ R₁ fun vb b σ₂ s₂ R₂ L₂ i₂ h₂ => ?_)
  exact h₂ s₂ va vb _ _ R₂ (L₂.vin R₁ i₁) i₂ fun val v σ' s' R' L' i' k => hQ val v σ' s' R' ((L₁.trans L₂).trans L') i' k
theorem O_itemL {value slice : Expr} {o v : V} {vs : List V} {k : Int} (I : Its σ o vs) (h0 : 0 ≤ k) (hz : k < 2 ^ 63) (hv : vs[k.toNat]? = some v) (h : K v σ)
    (hs : ∀ a t, subscripted slice false (.ref a) (.int k t) = operate [.ref a, .int k t] (getItem (.ref a) (.int k t)) := by intro _ _; with_unfolding_all rfl) : Op2 X (subscriptTail value slice) o (.int k) σ K := by
  intro s va vb Q E R ia ib hQ
  obtain ⟨a, vals, rfl, hl, il⟩ := I.get R ia
  cases ib
  obtain ⟨val, e, iv⟩ := il.get hv
  exact subscriptTail_builtinR hl.typeIs slot_list_getitem.lookup (wpAny_getItem_list hl h0 hz (x := val) (by simpa using e) ⟨rfl, hQ _ _ _ _ R (.refl R) iv h⟩) (hs _ _)
theorem O_itemLn {value slice : Expr} {o v : V} {vs : List V} {k : Int} (I : Its σ o vs) (h0 : k < 0) (h1 : -(vs.length : Int) ≤ k) (hz : -(2 ^ 63) ≤ k) (hv : vs[(k + vs.length).toNat]? = some v) (h : K v σ)
    (hs : ∀ a t, subscripted slice false (.ref a) (.int k t) = operate [.ref a, .int k t] (getItem (.ref a) (.int k t)) := by intro _ _; with_unfolding_all rfl) : Op2 X (subscriptTail value slice) o (.int k) σ K := by
  intro s va vb Q E R ia ib hQ
  obtain ⟨a, vals, rfl, hl, il⟩ := I.get R ia
  cases ib
  obtain ⟨val, e, iv⟩ := il.get hv
  exact subscriptTail_builtinR hl.typeIs slot_list_getitem.lookup (wpAny_getItem_list_neg hl h0 (by rw [List.size_toArray, il.length]; exact h1) hz (x := val) (by rw [List.size_toArray, il.length]; simpa using e) ⟨rfl, hQ _ _ _ _ R (.refl R) iv h⟩) (hs _ _)
theorem O_itemS {value slice : Expr} {x y : Str} {k : Int} (h1 : -(x.length : Int) ≤ k) (h2 : k < x.length) (hr : fitsSsize k = true) (hy : Txt.item x k = y) (h : K (.str y) σ)
    (hs : ∀ t u, subscripted slice false (.str x t) (.int k u) = operate [.str x t, .int k u] (getItem (.str x t) (.int k u)) := by intro _ _; with_unfolding_all rfl)
    (ht : ∀ t r, letTemporaryGo value (.str x t) r = pure () := by intro _ _; with_unfolding_all rfl) : Op2 X (subscriptTail value slice) (.str x) (.int k) σ K := by
  intro s va vb Q E R ia ib hQ
  cases ia; cases ib
  subst hy
  exact PyProof.Rows.item_str hr h1 h2 (fun _ => hQ _ _ _ _ R.tok.1 R.tok.2 (.str _ _) h) (hs _ _) (ht _)

/-- the parts of an f-string -/
def Jn (X : Act) (out : Str) (ts : List (Sem Value)) (σ : St) (K : V → St → Prop) : Prop := Ev X (joinParts out ts) σ K
theorem Ev_fstr {v₁ v₂ : Expr} {rest : List Expr} {pos : Pos} (h : Jn X Str.empty (eval v₁ X.env :: eval v₂ X.env :: evalEach rest X.env) σ K) : Ev X (eval (.JoinedStr (v₁ :: v₂ :: rest) pos) X.env) σ K :=
  fun s Q E R hQ => PyProof.Rows.JoinedStr_many (h s Q E R hQ)
theorem Jn_nilE {out : Str} (hz : out.length ≤ sizeLine) (h : K (.str out) σ) : Jn X out (evalEach [] X.env) σ K := fun s Q E R hQ => PyProof.Rows.joinParts_nilE (PyProof.Rows.joinParts_nil (hQ _ _ _ _ R.tok.1 R.tok.2 (.str _ _) h) hz)
theorem Jn_consE {out : Str} {e : Expr} {es : List Expr} (h : Jn X out (eval e X.env :: evalEach es X.env) σ K) : Jn X out (evalEach (e :: es) X.env) σ K := fun s Q E R hQ => PyProof.Rows.joinParts_consE (h s Q E R hQ)
theorem Jn_cons {out : Str} {t : Sem Value} {rest : List (Sem Value)} (h : Ev X t σ fun v σ₁ => ∃ y, v = .str y ∧ (out ++ y).length ≤ sizeLine ∧ Jn X (out ++ y) rest σ₁ K) : Jn X out (t :: rest) σ K := by
  intro s Q E R hQ
  refine PyProof.Rows.joinParts_cons (h s _ _ R fun val v σ₁ s₁ R₁ L₁ i₁ h₁ => ?_)
  obtain ⟨y, rfl, hz, h₁⟩ := h₁
  cases i₁
  exact ⟨hz, h₁ s₁ _ _ R₁ fun val v σ' s' R' L' i' k => hQ val v σ' s' R' (L₁.trans L') i' k⟩
theorem Ev_field {value : Expr} {pos : Pos} (h : Ev X (eval value X.env) σ fun v σ₁ => ∃ y, v = .str y ∧ y.length ≤ sizeLine ∧ K (.str y) σ₁) : Ev X (eval (.FormattedValue value (-1) none pos) X.env) σ K := by
  intro s Q E R hQ
  refine PyProof.Rows.FormattedValue_plain (h s _ _ R fun val v σ₁ s₁ R₁ L₁ i₁ h₁ => ?_)
  obtain ⟨y, rfl, hz, h₁⟩ := h₁
  cases i₁
  exact PySem.SB.field_str (fun t' k => hQ _ _ _ _ R₁.tok.1 (L₁.trans R₁.tok.2) (.str _ _) h₁) hz

theorem strsAre {h : Heap} {mu : List Addr} : ∀ {ys : List Str} {vals : List Value}, VAll h mu (ys.map V.str) vals → StrsAre vals ys
  | [], _, .nil => .nil
  | _ :: _, _, .cons i r => by cases i; exact .cons _ _ (strsAre r)
/-- sep.join(a list) -/
theorem Ev_join {o e : Expr} {apos pos : Pos} {x : Str} {ys : List Str} (h : Ev X (eval o X.env) σ fun v σ₁ => v = .str x ∧ Ev X (eval e X.env) σ₁ fun u σ₂ => Its σ₂ u (ys.map V.str) ∧ (ys.map (·.length)).sum + ys.length * x.length ≤ 16777216 ∧ K (.str (Txt.join x ys)) σ₂)
    (he : ∃ pl, eval (.Call (.Attribute o (Str.ofString "join") apos) [e] [] pos) X.env = (do
      let ov ← eval o X.env
      standAt apos.atName
      let (f, first) ← holding [ov] (getMethod ov (Str.ofString "join") pl)
      callWith pos f first (backTo pos (starEach [e] X.env)) []) := by exact ⟨_, rfl⟩)
    (hs : starEach [e] X.env = (false, eval e X.env) :: starEach [] X.env := by rfl) : Ev X (eval (.Call (.Attribute o (Str.ofString "join") apos) [e] [] pos) X.env) σ K := by
  intro s Q E R hQ
  obtain ⟨pl, he⟩ := he
  refine PyProof.Rows.MethodCall_ (h s _ _ R fun val v σ₁ s₁ R₁ L₁ i₁ h₁ => ?_) he
  obtain ⟨rfl, h₁⟩ := h₁
  cases i₁
  with_reducible refine GM.join ?_
  rw [hs]
  refine PySem.Calls.callWith_builtin rfl (PySem.Calls.evalArgs_plain (PySem.Calls.spliced_cons (h₁ s₁ _ _ R₁ fun val₂ u σ₂ s₂ R₂ L₂ i₂ h₂ => PySem.Calls.spliced_nil ?_)))
  obtain ⟨I, hz, h₂⟩ := h₂
  obtain ⟨a, vals, rfl, hl, il⟩ := I.get R₂ i₂
  exact PyProof.Rows.join_list hl (strsAre il) hz fun t' k => hQ _ _ _ _ R₂.tok.1 ((L₁.trans L₂).trans R₂.tok.2) (.str _ _) h₂
end
end Mine
end
section
open PySem PySem.W PyProof.Rows PySem.Spec PySem.Calls
namespace Mine
/-- a kind of values that are told apart by == as what they stand for is -/
structure Kd (α : Type) [DecidableEq α] where
  v : α → V
  d : α → PyData
  n : Nat
  dat : ∀ x, Dat (v x) (d x)
  eqv : ∀ x y, PyData.eqv (d x) (d y) = decide (x = y)
  lay : ∀ x, (d x).canLay0 = true
  dep : ∀ x, (d x).depth ≤ n

section
variable {α : Type} [DecidableEq α] (k : Kd α)
theorem Kd.layAll : ∀ l : List α, PyData.canLayAll0 (l.map k.d) = true
  | [] => by simp [PyData.canLayAll0]
  | x :: l => by simp [PyData.canLayAll0, k.lay x, Kd.layAll l]
theorem Kd.depAll : ∀ l : List α, PyData.depthAll (l.map k.d) ≤ k.n
  | [] => by simp [PyData.depthAll]
  | x :: l => by simp only [List.map_cons, PyData.depthAll]; exact Nat.max_le.mpr ⟨k.dep x, Kd.depAll l⟩
theorem Kd.eqvAll : ∀ l l' : List α, PyData.eqvAll (l.map k.d) (l'.map k.d) = decide (l = l')
  | [], [] => by simp [PyData.eqvAll]
  | [], _ :: _ => by simp [PyData.eqvAll]
  | _ :: _, [] => by simp [PyData.eqvAll]
  | x :: l, y :: l' => by
    simp only [List.map_cons, PyData.eqvAll, k.eqv, Kd.eqvAll l l', List.cons.injEq]
    exact (Bool.decide_and _ _).symm
theorem Kd.datAll (l : List α) : DatAll (l.map k.v) (l.map k.d) := .map _ _ k.dat l
theorem Kd.any (l : List α) (x : α) : ((l.map k.d).any fun y => PyData.eqv y (k.d x)) = decide (x ∈ l) := by
  induction l with
  | nil => simp
  | cons y l ih =>
    rw [List.map_cons, List.any_cons, ih, k.eqv]
    by_cases h : y = x
    · subst h; simp
    · have h' : x ≠ y := fun e => h e.symm
      simp [h, h']
def Kd.list : Kd (List α) where
  v l := .lst (l.map k.v)
  d l := .list (l.map k.d)
  n := k.n + 1
  dat l := .lst (k.datAll l)
  eqv x y := by simp only [PyData.eqv]; exact k.eqvAll x y
  lay l := by simp only [PyData.canLay0]; exact k.layAll l
  dep l := by simp only [PyData.depth]; exact Nat.succ_le_succ (k.depAll l)
theorem Kd.shaped (hn : k.n ≤ 64) (x : α) : PySem.SeqAt.shaped (k.d x) = true := by
  unfold PySem.SeqAt.shaped
  rw [k.lay x, decide_eq_true (Nat.le_trans (k.dep x) hn)]
  rfl

/-- the first of each -/
def dd (acc : List α) : List α → List α
  | [] => acc
  | x :: l => dd (if x ∈ acc then acc else acc ++ [x]) l
theorem dd_app (acc l : List α) (x : α) : dd acc (l ++ [x]) = if x ∈ dd acc l then dd acc l else dd acc l ++ [x] := by
  induction l generalizing acc with
  | nil => rfl
  | cons y l ih => simp only [List.cons_append, dd]; exact ih _
theorem dd_length (acc l : List α) : (dd acc l).length ≤ acc.length + l.length := by
  induction l generalizing acc with
  | nil => simp [dd]
  | cons y l ih =>
    simp only [dd]
    refine Nat.le_trans (ih _) ?_
    split <;> simp <;> omega
end

/-- a text by its characters -/
def S (l : List Nat) : Str := ⟨l.toArray⟩
theorem S_app (a b : List Nat) : S a ++ S b = S (a ++ b) := by show Str.mk (a.toArray ++ b.toArray) = Str.mk (a ++ b).toArray; simp
theorem S_len (a : List Nat) : (S a).length = a.length := by show a.toArray.size = _; simp
theorem S_inj {a b : List Nat} : S a = S b ↔ a = b := ⟨fun h => by have := congrArg (fun s => s.cps.toList) h; simpa [S] using this, fun h => by rw [h]⟩
theorem S_beq (a b : List Nat) : (S a == S b) = decide (a = b) := by
  by_cases h : a = b
  · subst h; simp
  · rw [decide_eq_false h]; exact beq_eq_false_iff_ne.mpr fun e => h (S_inj.mp e)
theorem empty_S : Str.empty = S [] := rfl
def catL (ys : List (List Nat)) : List Nat := ys.flatten
theorem join_S (ys : List (List Nat)) : Txt.join (S []) (ys.map S) = S (catL ys) := by
  show Str.mk _ = Str.mk _
  congr 1
  apply Array.ext'
  have go : ∀ (ys : List (List Nat)) (acc : Array Nat), ((ys.map S).foldl (fun acc p => acc ++ (S []).cps ++ p.cps) acc).toList = acc.toList ++ catL ys := by
    intro ys
    induction ys with
    | nil => intro acc; simp [catL]
    | cons y ys ih => intro acc; rw [List.map_cons, List.foldl_cons, ih]; simp [S, catL]
  cases ys with
  | nil => rfl
  | cons y ys =>
    rw [List.map_cons, List.drop_one, List.tail_cons, List.headD_cons, go]
    simp [S, catL]

/-- the pieces: 0 for the star -/
def pl (n : Fin 6) : List Nat := match n.val with
  | 1 => [46]
  | 2 => [97]
  | 3 => [91, 97, 98, 93]
  | 4 => [91, 94, 98, 93]
  | 5 => [92, 46]
  | _ => []
def pst (n : Fin 6) : Str := S (pl n)
def pv (sv : V) (x : Fin 6) : V := if x = 0 then sv else .str (pst x)
def kp : Kd (Fin 6) where
  v x := if x = 0 then .none else .str (pst x)
  d x := if x = 0 then .none else .str (pst x)
  n := 0
  dat x := by split; exact .none; exact .str _
  eqv := by decide +kernel
  lay := by decide +kernel
  dep x := by split <;> simp [PyData.depth]
end Mine
end
section
open PySem PySem.W PyProof.Rows PySem.Spec PySem.Calls
namespace Mine
theorem sw {env : Env} {sc : Scope} {ts : List Expr} {v : Expr} (h : env.scope = sc) : swappedStores ts v env = swappedStores ts v (envOf Str.empty sc 0 0 .none) := by
  unfold swappedStores Env.blockKind Env.kindOf
  rw [h]
  rfl
theorem OwnSet.of_mem {a : Addr} {vs vs' : List V} : ∀ {l : List (Addr × List V)}, (a, vs) ∈ l → ∃ l', OwnSet a vs vs' l l' ∧ (a, vs') ∈ l'
  | p :: l, h => by
    rcases List.mem_cons.mp h with e | h
    · subst e; exact ⟨_, .head, List.mem_cons_self⟩
    · obtain ⟨l', o, m⟩ := OwnSet.of_mem h; exact ⟨_, .tail o, List.mem_cons_of_mem _ m⟩
theorem OwnSet.other {a c : Addr} {vs vs' ws : List V} (hne : c ≠ a) : ∀ {l l' : List (Addr × List V)}, OwnSet a vs vs' l l' → (c, ws) ∈ l → (c, ws) ∈ l'
  | _, _, .head, h => by
    rcases List.mem_cons.mp h with e | h
    · cases e; exact absurd rfl hne
    · exact List.mem_cons_of_mem _ h
  | _, _, .tail r, h => by
    rcases List.mem_cons.mp h with e | h
    · cases e; exact List.mem_cons_self
    · exact List.mem_cons_of_mem _ (r.other hne h)
section
variable {X : Act} {σ : St} {s : Shared} {K : V → St → Prop} {KF : Fl → St → Prop} {KB : Bool → St → Prop} {KL : List V → St → Prop}
theorem Ev_tuple {elts : List Expr} {k : Nat} {pos : Pos} (h : Evs X (spliced (backTo pos (starEach elts X.env))) σ fun vs σ₁ => vs.length ≤ sizeLine ∧ K (.tup vs) σ₁) : Ev X (eval (.Tuple elts k pos) X.env) σ K := by
  intro s Q E R hQ
  refine PyProof.Rows.Tuple_ (h s _ _ R fun vals vs σ₁ s₁ R₁ L₁ i₁ h₁ => ?_)
  have z := R₁.push (tk := s₁.toks) { cls := .type "tuple", data := .seq vals.toArray 0 }
  exact wpAny_newObj_type (hQ _ _ _ _ z.1 (L₁.trans z.2) (.tup (vals := vals) ⟨_, Heap.get?_push_size _ rfl, rfl, 0, rfl⟩ (R₁.fresh (Nat.le_refl _)) (Later.vall R₁ z.2 i₁)) h₁.2) (by show vals.toArray.size ≤ sizeLine; rw [List.size_toArray, i₁.length]; exact h₁.1)
theorem Rep.ext (R : Rep X σ s) {h' : Heap} (he : Heap.ExtBut s.heap.objs.size s.heap h') : Rep X σ { s with heap := h' } ∧ Later X σ s σ { s with heap := h' } :=
  R.grow (tk := s.toks) fun b o e => he b o (Nat.ne_of_lt (Heap.lt_size e)) e
/-- x, y = a, b for two names -/
theorem Ex_assignT {x y : Str} {elts : List Expr} {k : Nat} {tpos pos : Pos} {value : Expr} (hh : X.A.handled = none)
    (h : Ev X (eval value X.env) σ fun v σ₁ => ∃ a b, v = .tup [a, b] ∧ KF .next { σ₁ with loc := (x, a) :: (y, b) :: σ₁.loc })
    (hw : swappedStores [.Tuple elts k tpos] value X.env = pure (some [x, y]) := by exact (sw (by assumption)).trans (by rfl))
    (hx : X.env.kindOf x = some .local := by exact kd (by assumption) (by rfl)) (hy : X.env.kindOf y = some .local := by exact kd (by assumption) (by rfl))
    (hs : swapsWithSole [.Tuple elts k tpos] value pos.line X.env = pure false := by rfl) : Ex X (exec (.Assign [.Tuple elts k tpos] value pos) X.env) σ KF := by
  intro s Q E R hQ
  refine Assign_Tuple_swapped (names := [x, y]) (h s _ _ R fun val v σ₁ s₁ R₁ L₁ i₁ h₁ => ?_) hs hw
  obtain ⟨a, b, rfl, h₁⟩ := h₁
  cases i₁ with
  | tup ht _ il =>
    cases il with
    | @cons _ va _ _ ia r =>
      cases r with
      | @cons _ vb _ _ ib r =>
        cases r
        have e2 : [x, y].length = ([va, vb].toArray).size := rfl
        rw [e2]
        refine unpackItems_tuple hh ht fun h' he => ?_
        have z := R₁.ext he
        show wpAny _ _ (assignInOrder [bindName X.env y, bindName X.env x] [vb, va]) _ _ _
        show wpAny _ _ (do holding [va] (bindName X.env y vb); assignInOrder [bindName X.env x] [va]) _ _ _
        refine wpAny_bind (wpAny_holding (wpAny_bindName (Un_storeL z.1 hy (z.2.vin R₁ ib) fun s₂ R₂ L₂ => ?_)))
        show wpAny _ _ (do holding [] (bindName X.env x va); assignInOrder [] []) _ _ _
        refine wpAny_bind (wpAny_holding (wpAny_bindName (Un_storeL R₂ hx (L₂.vin z.1 (z.2.vin R₁ ia)) fun s₃ R₃ L₃ => ?_)))
        exact wpAny_pure (hQ _ _ _ _ R₃ (((L₁.trans z.2).trans L₂).trans L₃) .next h₁)
theorem Ex_mono {t : Sem Flow} {KF' : Fl → St → Prop} (h : Ex X t σ KF) (k : ∀ fl σ, KF fl σ → KF' fl σ) : Ex X t σ KF' := fun s Q E R hQ => h s Q E R fun f fl σ' s' R' L' i' q => hQ f fl σ' s' R' L' i' (k _ _ q)
theorem Ev_mono {t : Sem Value} {K' : V → St → Prop} (h : Ev X t σ K) (k : ∀ v σ, K v σ → K' v σ) : Ev X t σ K' := fun s Q E R hQ => h s Q E R fun f fl σ' s' R' L' i' q => hQ f fl σ' s' R' L' i' (k _ _ q)
def nextK (P : St → Prop) (KF : Fl → St → Prop) (fl : Fl) (σ : St) : Prop := match fl with
  | .next => P σ
  | fl => KF fl σ
theorem nextK_next {P : St → Prop} (h : P σ) : nextK P KF .next σ := h
theorem loopK_next {I : Nat → St → Prop} {n : Nat} (m : Nat) (hm : m < n) (h : I m σ) : loopK I KF n .next σ := ⟨m, hm, h⟩
theorem loopK_brk {I : Nat → St → Prop} {n : Nat} (h : KF .next σ) : loopK I KF n .brk σ := h
/-- a while, with what holds behind it -/
theorem Ex_whileX {test : Expr} {body : List Stmt} {pos : Pos} (I : Nat → St → Prop) (P : St → Prop) (n : Nat) (h : I n σ)
    (turn : ∀ n σ, I n σ → Tr X (isTrue test X.env (eval test X.env)) σ fun b σ₁ => brK b (Ex X (execs body X.env) σ₁ (loopK I (nextK P KF) n)) (P σ₁)) (exit : ∀ σ, P σ → KF .next σ) : Ex X (exec (.While test body [] pos) X.env) σ KF :=
  Ex_mono (Ex_while I n h (KF := nextK P KF) turn) fun fl σ q => by cases fl <;> first | exact exit _ q | exact q
end
end Mine
end
section
open PySem PySem.W PyProof.Rows PySem.Spec PySem.Calls
namespace Mine
theorem map_get {α β : Type} {f : α → β} {l : List α} {i : Nat} {v : β} (h : (l.map f)[i]? = some v) : ∃ x, l[i]? = some x ∧ v = f x := by
  rw [List.getElem?_map] at h
  cases e : l[i]? with
  | none => rw [e] at h; cases h
  | some x => rw [e] at h; cases h; exact ⟨x, rfl, rfl⟩
theorem take_next {α : Type} {l : List α} {i : Nat} {x : α} (h : l[i]? = some x) : l.take (i + 1) = l.take i ++ [x] := by
  rw [List.take_add_one, h]; rfl
theorem dd_take_length {α : Type} [DecidableEq α] (l : List α) (i : Nat) : (dd [] (l.take i)).length ≤ l.length := by
  refine Nat.le_trans (dd_length _ _) ?_
  simp [List.length_take]; omega
theorem Dat.ne {v : V} {d : PyData} (h : Dat v d) : v ≠ .undef := fun e => by subst e; cases h
theorem T_dedup {α : Type} [DecidableEq α] (k : Kd α) (hn : k.n ≤ 60) (l : List α) (hz : l.length ≤ 1000) {X : Act} {σ : St} {K : V → St → Prop} (hl : 1 ≤ X.lvl) (h : K (.lst ((dd [] l).map k.v)) σ) : OpN X (fun vals => call (.ref 46) vals) [.lst (l.map k.v)] σ K := by
  refine O_call (f := 46) [Str.ofString "unhashable_params"] (fun Y L hc => ?_) hl rfl rfl rfl (by kernel_rfl) rfl (fun vals e => ?_) (by decide +kernel) (by decide +kernel) rfl rfl rfl rfl rfl rfl
  · have hsc := hc.sc
    conv at hsc => rhs; whnf
    conv in bodyOf _ => whnf
    change Ex Y _ ⟨(Str.ofString "unhashable_params", _) :: [], _, _, _⟩ _
    refine Ex_cons (Ex_assign (Ev_listO (Evs_nil ⟨Nat.zero_le _, fun a ha => ?_⟩)))
    refine seqK_next (Ex_cons (Ex_for (Ev_nameL ⟨_, iter_lst _, fun i σ' => σ'.loc.lookup (Str.ofString "new_unhashable") = some (.own a) ∧ σ'.own = [(a, (dd [] (l.take i)).map k.v)], fun av => ⟨lk_hit, rfl⟩, .inl (kd hsc (by rfl)), ?_, ?_⟩)))
    · rintro i v ⟨loc, own, mu, av⟩ hv ⟨h1, h2⟩
      obtain ⟨x, hx, rfl⟩ := map_get hv
      dsimp only at h1 h2 ⊢
      subst h2
      have hne := (k.dat x).ne
      refine Ex_cons (Ex_if (Tr_cmp (Ev_nameL (Ev_nameL (O_notInD (k.dat x) (.own List.mem_cons_self) (k.datAll _) (k.layAll _) (k.lay x) (Nat.le_trans (k.dep x) (by omega)) (B_bool ?_))))))
      rw [k.any]
      refine brK_split (fun hc => ?_) (fun hc => ?_)
      · refine Ex_cons (Ex_expr (Ev_append (Ev_nameL ⟨a, _, rfl, List.mem_cons_self, Ev_nameL ⟨_, _, .head, ?_, rfl, ?_⟩⟩)))
        · rw [List.length_map]
          exact Nat.le_trans (dd_take_length l i) (Nat.le_trans hz (by decide))
        · refine seqK_next (Ex_nil (seqK_next (Ex_nil (forK_next ⟨lk_miss (by decide) h1, ?_⟩))))
          have hc' : x ∉ dd [] (l.take i) := by simpa using hc
          dsimp only
          rw [take_next hx, dd_app, if_neg hc', List.map_append]
          rfl
      · refine Ex_nil (seqK_next (Ex_nil (forK_next ⟨lk_miss (by decide) h1, ?_⟩)))
        have hc' : x ∈ dd [] (l.take i) := by simpa using hc
        dsimp only
        rw [take_next hx, dd_app, if_pos hc']
    · rintro ⟨loc, own, mu, av⟩ av' ⟨h1, h2⟩
      dsimp only at h1 h2 ⊢
      subst h2
      refine seqK_next (Ex_cons (Ex_return (Ev_nameL (seqK_ret ⟨_, .own List.mem_cons_self (.same _), ?_⟩))))
      rw [List.length_map, List.take_length]
      exact h
  · match vals, e with
    | [a], _ => rfl
end Mine
end
section
open PySem PySem.W PyProof.Rows PySem.Spec PySem.Calls
namespace Mine
/-- cut at the stars -/
def sp : List (Fin 6) → List (Fin 6) × List (List (Fin 6))
  | [] => ([], [])
  | x :: l => if x = 0 then ([], (sp l).1 :: (sp l).2) else (x :: (sp l).1, (sp l).2)
def J (f : List (Fin 6)) : List Nat := catL (f.map pl)
def midT : List (List (Fin 6)) → List Nat
  | [] => []
  | f :: s => if s = [] then [46, 42] ++ J f else [40, 63, 62, 46, 42, 63] ++ J f ++ [41] ++ midT s
def body (l : List (Fin 6)) : List Nat := J (sp l).1 ++ midT (sp l).2
def textT (l : List (Fin 6)) : List Nat := [40, 63, 115, 58] ++ body l ++ [41, 92, 90]
theorem catL_app (a b : List (List Nat)) : catL (a ++ b) = catL a ++ catL b := by simp [catL]
theorem catL_one (a : List Nat) : catL [a] = a := by simp [catL]
theorem J_cons (x : Fin 6) (f : List (Fin 6)) : J (x :: f) = pl x ++ J f := by simp [J, catL]
theorem pl_len (x : Fin 6) : (pl x).length ≤ 4 := by revert x; decide
theorem body_len (l : List (Fin 6)) : (body l).length ≤ 12 * l.length := by
  have h : ∀ l : List (Fin 6), (J (sp l).1).length + (midT (sp l).2).length ≤ 12 * l.length := by
    intro l
    induction l with
    | nil => simp [sp, J, catL, midT]
    | cons x l ih =>
      unfold sp
      split
      · simp only [midT]
        split <;> simp [J, catL] at ih ⊢ <;> omega
      · have := pl_len x
        simp only [J_cons, List.length_append, List.length_cons] at ih ⊢
        omega
  have := h l
  simpa [body] using this
/-- no star behind a star -/
def Fair (l : List (_root_.Fin 6)) : Prop := ∀ i : Nat, l[i]? = some 0 → l[i + 1]? ≠ some 0
theorem drop_next {α : Type} {l : List α} {i : Nat} {x : α} (h : l[i]? = some x) : l.drop i = x :: l.drop (i + 1) := by
  obtain ⟨hi, e⟩ := List.getElem?_eq_some_iff.mp h
  rw [List.drop_eq_getElem_cons hi, e]
theorem sp_star (l : List (Fin 6)) : sp (0 :: l) = ([], (sp l).1 :: (sp l).2) := by simp [sp]
theorem sp_else {x : Fin 6} (h : x ≠ 0) (l : List (Fin 6)) : sp (x :: l) = (x :: (sp l).1, (sp l).2) := by simp [sp, h]
theorem pv_star {sv : V} : pv sv 0 = sv := rfl
theorem pv_else {sv : V} {x : Fin 6} (h : x ≠ 0) : pv sv x = .str (S (pl x)) := by simp [pv, h, pst]

structure J0 (l : List (Fin 6)) (so ra : Addr) (σ : St) (k : Nat) (ys : List (List Nat)) : Prop where
  a1 : σ.loc.lookup (Str.ofString "i") = some (.int k)
  a2 : σ.loc.lookup (Str.ofString "n") = some (.int l.length)
  a3 : σ.loc.lookup (Str.ofString "inp") = some (.lst (l.map (pv (.obj so))))
  a4 : σ.loc.lookup (Str.ofString "STAR") = some (.obj so)
  a5 : σ.loc.lookup (Str.ofString "add") = some (.meth ra)
  a6 : σ.loc.lookup (Str.ofString "res") = some (.own ra)
  a7 : (ra, (ys.map S).map V.str) ∈ σ.own
  a8 : k ≤ l.length
  a9 : ys.length ≤ k

theorem lit_ds : Str.ofString ".*" = S [46, 42] := by decide +kernel
theorem lit_e : Str.ofString "" = S [] := by decide +kernel
theorem lit_a : Str.ofString "(?s:" = S [40, 63, 115, 58] := by decide +kernel
theorem lit_b : Str.ofString "(?>.*?" = S [40, 63, 62, 46, 42, 63] := by decide +kernel
theorem lit_c : Str.ofString ")" = S [41] := by decide +kernel
theorem lit_z : Str.ofString ")\\Z" = S [41, 92, 90] := by decide +kernel
theorem two_le : 2 ≤ sizeLine := by decide
set_option maxRecDepth 4000 in
set_option maxHeartbeats 4000000 in
theorem T_join (l : List (Fin 6)) (hl : l.length ≤ 1000) (hf : Fair l) {X : Act} {σ : St} {K : V → St → Prop} {so : Addr} (hv : 1 ≤ X.lvl) (hh : X.A.handled = none) (h : K (.str (S (textT l))) σ) :
    OpN X (fun vals => call (.ref 91) vals) [.lst (l.map (pv (.obj so))), .obj so] σ K := by
  refine O_call (f := 91) [Str.ofString "inp", Str.ofString "STAR"] (fun Y L hc => ?_) hv rfl rfl rfl (by kernel_rfl) rfl (fun vals e => ?_) (by decide +kernel) (by decide +kernel) rfl rfl rfl rfl rfl rfl
  · have hsc := hc.sc
    conv at hsc => rhs; whnf
    conv in bodyOf _ => whnf
    have hh' := hc.hd
    rw [hh] at hh'
    change Ex Y _ ⟨(Str.ofString "STAR", _) :: (Str.ofString "inp", _) :: [], _, _, _⟩ _
    refine Ex_cons (Ex_assign (Ev_listO (Evs_nil ⟨Nat.zero_le _, fun ra _ => seqK_next (Ex_cons (Ex_assign (Ev_bound (Ev_nameL ⟨ra, _, rfl, List.mem_cons_self, ?_⟩))))⟩)))
    refine seqK_next (Ex_cons (Ex_assignT (x := Str.ofString "i") (y := Str.ofString "n") hh' (Ev_tuple (Evs_cons (Ev_int (Evs_cons (Ev_callB "len" (Ev_builtin ⟨rfl, Evs_cons (Ev_nameL (Evs_nil (O_lenL (.lst _) ?_ (Evs_nil ⟨two_le, ⟨_, _, rfl, ?_⟩⟩))))⟩))))))))
    · rw [List.length_map]; exact Nat.le_trans hl (by decide)
    rw [List.length_map]
    refine seqK_next (Ex_cons (Ex_whileX (fun m σ => ∃ k ys, m = l.length - k ∧ J0 l so ra σ k ys ∧ catL ys ++ J (sp (l.drop k)).1 = J (sp l).1 ∧ (sp (l.drop k)).2 = (sp l).2)
      (fun σ => ∃ k ys, J0 l so ra σ k ys ∧ catL ys = J (sp l).1 ∧ (sp (l.drop k)).2 = (sp l).2 ∧ ∀ x, l[k]? = some x → x = 0) l.length
      ⟨0, [], by omega, ⟨lk_hit, lk_miss (by decide) lk_hit, lk_miss (by decide) (lk_miss (by decide) (lk_miss (by decide) (lk_miss (by decide) (lk_miss (by decide) lk_hit)))), lk_miss (by decide) (lk_miss (by decide) (lk_miss (by decide) (lk_miss (by decide) lk_hit))), lk_miss (by decide) (lk_miss (by decide) lk_hit), lk_miss (by decide) (lk_miss (by decide) (lk_miss (by decide) lk_hit)), List.mem_cons_self, Nat.zero_le _, Nat.le_refl _⟩, by simp [catL], rfl⟩ ?_ ?_))
    · rintro m σ₁ ⟨k, ys, rfl, ⟨a1, a2, a3, a4, a5, a6, a7, a8, a9⟩, b1, b2⟩
      refine Tr_and (Tr_cmp (Ev_nameL (Ev_nameL (O_ltI (B_bool (brK_split (fun hc => ?_) (fun hc => ?_)))))))
      · have hk : k < l.length := by simpa using hc
        obtain ⟨x, hx⟩ : ∃ x, l[k]? = some x := ⟨_, List.getElem?_eq_getElem hk⟩
        have hxm : (l.map (pv (.obj so)))[((k : Nat) : Int).toNat]? = some (pv (.obj so) x) := by rw [List.getElem?_map, Int.toNat_natCast, hx]; rfl
        refine Tr_and (Tr_cmp (Ev_sub (Ev_nameL (Ev_nameL (O_itemL (.lst _) (by omega) (by omega) hxm (Ev_nameL ?_))))))
        by_cases h0 : x = 0
        · subst h0
          refine O_isNot (.oo so) (B_bool (brK_f (brK_f ⟨k, ys, ⟨a1, a2, a3, a4, a5, a6, a7, a8, a9⟩, ?_, b2, fun x hx' => by rw [hx] at hx'; exact (Option.some.inj hx').symm⟩)))
          rw [drop_next hx, sp_star] at b1
          simpa [J, catL] using b1
        · rw [pv_else h0] at hxm ⊢
          refine O_isNot (.so _ _) (B_bool (brK_t (Tr_and0 (brK_t ?_))))
          obtain ⟨own', O, hm'⟩ := OwnSet.of_mem (vs' := (ys.map S).map V.str ++ [.str (S (pl x))]) a7
          refine Ex_cons (Ex_expr (Ev_callM (Ev_nameL ⟨ra, rfl, Ev_sub (Ev_nameL (Ev_nameL (O_itemL (.lst _) (by omega) (by omega) hxm ⟨_, own', O, ?_, rfl, ?_⟩)))⟩)))
          · simp only [List.length_map]; exact Nat.le_trans (Nat.le_trans a9 a8) (Nat.le_trans hl (by decide))
          · refine seqK_next (Ex_cons (Ex_aug (Ev_int (O_iaddI (seqK_next (Ex_nil (loopK_next (l.length - (k + 1)) (by omega) ⟨k + 1, ys ++ [pl x], rfl, ⟨lk_hit, lk_miss (by decide) a2, lk_miss (by decide) a3, lk_miss (by decide) a4, lk_miss (by decide) a5, lk_miss (by decide) a6, by simpa using hm', hk, by simpa using a9⟩, ?_, ?_⟩)))))))
            · rw [drop_next hx, sp_else h0] at b1
              rw [catL_app, catL_one, ← b1, J_cons, List.append_assoc]
            · rw [drop_next hx, sp_else h0] at b2
              exact b2
      · have hk : l.length ≤ k := by simpa using hc
        have hd : l.drop k = [] := List.drop_eq_nil_of_le hk
        refine brK_f ⟨k, ys, ⟨a1, a2, a3, a4, a5, a6, a7, a8, a9⟩, ?_, b2, fun x hx => ?_⟩
        · rw [hd] at b1; simpa [sp, J, catL] using b1
        · rw [List.getElem?_eq_none hk] at hx; cases hx
    · rintro σ₁ ⟨k₀, ys₀, j0, c1, c2, c3⟩
      refine seqK_next (Ex_cons (Ex_whileX (fun m σ => ∃ k ys, m = l.length - k ∧ J0 l so ra σ k ys ∧ catL ys ++ midT (sp (l.drop k)).2 = body l ∧ ∀ x, l[k]? = some x → x = 0)
        (fun σ => ∃ ys, J0 l so ra σ l.length ys ∧ catL ys = body l) (l.length - k₀) ⟨k₀, ys₀, rfl, j0, by rw [c1, c2]; rfl, c3⟩ ?_ ?_))
      · rintro m σ₁ ⟨k, ys, rfl, ⟨a1, a2, a3, a4, a5, a6, a7, a8, a9⟩, b1, b2⟩
        refine Tr_cmp (Ev_nameL (Ev_nameL (O_ltI (B_bool (brK_split (fun hc => ?_) (fun hc => ?_))))))
        · have hk : k < l.length := by simpa using hc
          obtain ⟨x, hx⟩ : ∃ x, l[k]? = some x := ⟨_, List.getElem?_eq_getElem hk⟩
          obtain rfl := b2 x hx
          have hxm : (l.map (pv (.obj so)))[((k : Nat) : Int).toNat]? = some (.obj so) := by rw [List.getElem?_map, Int.toNat_natCast, hx]; rfl
          rw [drop_next hx, sp_star] at b1
          refine Ex_cons (Ex_assert (Tr_cmp (Ev_sub (Ev_nameL (Ev_nameL (O_itemL (.lst _) (by omega) (by omega) hxm (Ev_nameL (O_is (.oo so) (B_bool ⟨rfl, ?_⟩)))))))))
          refine seqK_next (Ex_cons (Ex_aug (Ev_int (O_iaddI (seqK_next (Ex_cons (Ex_if (Tr_cmp (Ev_nameL (Ev_nameL (O_eqI (B_bool (brK_split (fun hd => ?_) (fun hd => ?_))))))))))))))
          · have hd' : (k : Int) + 1 = l.length := by simpa using hd
            have hk1 : k + 1 = l.length := by omega
            obtain ⟨own', O, hm'⟩ := OwnSet.of_mem (vs' := (ys.map S).map V.str ++ [.str (Str.ofString ".*")]) a7
            rw [lit_ds] at hm'
            refine Ex_cons (Ex_expr (Ev_callM (Ev_nameL ⟨ra, rfl, Ev_str ⟨_, own', O, ?_, rfl, ?_⟩⟩)))
            · simp only [List.length_map]; exact Nat.le_trans (Nat.le_trans a9 a8) (Nat.le_trans hl (by decide))
            · refine seqK_next (Ex_cons (Ex_break (seqK_brk (seqK_brk (loopK_brk (nextK_next ⟨ys ++ [[46, 42]], ⟨?_, lk_miss (by decide) a2, lk_miss (by decide) a3, lk_miss (by decide) a4, lk_miss (by decide) a5, lk_miss (by decide) a6, by simpa using hm', Nat.le_refl _, ?_⟩, ?_⟩))))))
              · rw [← hk1]; exact lk_hit
              · simp; omega
              · rw [List.drop_eq_nil_of_le (Nat.le_of_eq hk1.symm)] at b1
                rw [catL_app, catL_one, ← b1]
                simp [sp, midT, J, catL]
          · have hd' : (k : Int) + 1 ≠ l.length := by simpa using hd
            have hk1 : k + 1 < l.length := by omega
            obtain ⟨y, hy⟩ : ∃ y, l[k + 1]? = some y := ⟨_, List.getElem?_eq_getElem hk1⟩
            have hy0 : y ≠ 0 := fun e => hf k hx (e ▸ hy)
            have hym : (l.map (pv (.obj so)))[((k : Int) + 1).toNat]? = some (.str (S (pl y))) := by
              rw [List.getElem?_map, show ((k : Int) + 1).toNat = k + 1 by omega, hy, ← pv_else (sv := .obj so) hy0]; rfl
            refine Ex_nil (seqK_next ?_)
            refine Ex_cons (Ex_assert (Tr_cmp (Ev_sub (Ev_nameL (Ev_nameL (O_itemL (.lst _) (by omega) (by omega) hym (Ev_nameL (hl := lk_miss (by decide) a4) (O_isNot (.so _ _) (B_bool ⟨rfl, ?_⟩)))))))))
            refine seqK_next (Ex_cons (Ex_assign (Ev_listO (Evs_nil ⟨Nat.zero_le _, fun b hb => ?_⟩))))
            have hne : ra ≠ b := fun e => hb _ (e ▸ a7)
            refine seqK_next (Ex_cons (Ex_whileX (fun m σ => ∃ j zs, m = l.length - j ∧ k + 1 ≤ j ∧ J0 l so ra σ j ys ∧ σ.loc.lookup (Str.ofString "fixed") = some (.own b) ∧ (b, (zs.map S).map V.str) ∈ σ.own ∧ catL zs ++ J (sp (l.drop j)).1 = J (sp (l.drop (k + 1))).1 ∧ (sp (l.drop j)).2 = (sp (l.drop (k + 1))).2 ∧ zs.length ≤ j ∧ (j = k + 1 → zs = []))
              (fun σ => ∃ j zs, k + 2 ≤ j ∧ J0 l so ra σ j ys ∧ σ.loc.lookup (Str.ofString "fixed") = some (.own b) ∧ (b, (zs.map S).map V.str) ∈ σ.own ∧ catL zs = J (sp (l.drop (k + 1))).1 ∧ (sp (l.drop j)).2 = (sp (l.drop (k + 1))).2 ∧ ∀ x, l[j]? = some x → x = 0) (l.length - (k + 1))
              ⟨k + 1, [], rfl, Nat.le_refl _, ⟨lk_miss (by decide) lk_hit, lk_miss (by decide) (lk_miss (by decide) a2), lk_miss (by decide) (lk_miss (by decide) a3), lk_miss (by decide) (lk_miss (by decide) a4), lk_miss (by decide) (lk_miss (by decide) a5), lk_miss (by decide) (lk_miss (by decide) a6), List.mem_cons_of_mem _ a7, Nat.le_of_lt hk1, by omega⟩, lk_hit, List.mem_cons_self, by simp [catL], rfl, Nat.zero_le _, fun _ => rfl⟩ ?_ ?_))
            · rintro m σ₂ ⟨j, zs, rfl, hkj, ⟨d1, d2, d3, d4, d5, d6, d7, d8, d9⟩, e1, e2, e3, e4, e5, e6⟩
              refine Tr_and (Tr_cmp (Ev_nameL (Ev_nameL (O_ltI (B_bool (brK_split (fun hc => ?_) (fun hc => ?_)))))))
              · have hj : j < l.length := by simpa using hc
                obtain ⟨z, hz⟩ : ∃ z, l[j]? = some z := ⟨_, List.getElem?_eq_getElem hj⟩
                have hzm : (l.map (pv (.obj so)))[((j : Nat) : Int).toNat]? = some (pv (.obj so) z) := by rw [List.getElem?_map, Int.toNat_natCast, hz]; rfl
                refine Tr_and (Tr_cmp (Ev_sub (Ev_nameL (Ev_nameL (O_itemL (.lst _) (by omega) (by omega) hzm (Ev_nameL ?_))))))
                by_cases h0 : z = 0
                · subst h0
                  refine O_isNot (.oo so) (B_bool (brK_f (brK_f ⟨j, zs, ?_, ⟨d1, d2, d3, d4, d5, d6, d7, d8, d9⟩, e1, e2, ?_, e4, fun x hx' => by rw [hz] at hx'; exact (Option.some.inj hx').symm⟩)))
                  · have : j ≠ k + 1 := fun q => hy0 (by rw [q, hy] at hz; exact Option.some.inj hz)
                    omega
                  · rw [drop_next hz, sp_star] at e3
                    simpa [J, catL] using e3
                · rw [pv_else h0] at hzm ⊢
                  refine O_isNot (.so _ _) (B_bool (brK_t (Tr_and0 (brK_t ?_))))
                  obtain ⟨own', O, hm'⟩ := OwnSet.of_mem (vs' := (zs.map S).map V.str ++ [.str (S (pl z))]) e2
                  refine Ex_cons (Ex_expr (Ev_append (Ev_nameL ⟨b, _, rfl, e2, Ev_sub (Ev_nameL (Ev_nameL (O_itemL (.lst _) (by omega) (by omega) hzm ⟨_, own', O, ?_, rfl, ?_⟩)))⟩)))
                  · simp only [List.length_map]; exact Nat.le_trans (Nat.le_trans e5 d8) (Nat.le_trans hl (by decide))
                  · refine seqK_next (Ex_cons (Ex_aug (Ev_int (O_iaddI (seqK_next (Ex_nil (loopK_next (l.length - (j + 1)) (by omega) ⟨j + 1, zs ++ [pl z], rfl, by omega, ⟨lk_hit, lk_miss (by decide) d2, lk_miss (by decide) d3, lk_miss (by decide) d4, lk_miss (by decide) d5, lk_miss (by decide) d6, O.other hne d7, hj, by omega⟩, lk_miss (by decide) e1, by simpa using hm', ?_, ?_, by simpa using e5, fun q => by omega⟩)))))))
                    · rw [drop_next hz, sp_else h0] at e3
                      rw [catL_app, catL_one, ← e3, J_cons, List.append_assoc]
                    · rw [drop_next hz, sp_else h0] at e4
                      exact e4
              · have hj : l.length ≤ j := by simpa using hc
                have hd : l.drop j = [] := List.drop_eq_nil_of_le hj
                refine brK_f ⟨j, zs, by omega, ⟨d1, d2, d3, d4, d5, d6, d7, d8, d9⟩, e1, e2, ?_, e4, fun x hx => ?_⟩
                · rw [hd] at e3; simpa [sp, J, catL] using e3
                · rw [List.getElem?_eq_none hj] at hx; cases hx
            · rintro σ₂ ⟨j, zs, hkj, ⟨d1, d2, d3, d4, d5, d6, d7, d8, d9⟩, e1, e2, e3, e4, e5⟩
              have hbl := body_len l
              have hw : ((zs.map S).map (·.length)).sum = (catL zs).length := by
                rw [catL, List.length_flatten, List.map_map]
                congr 1
              have hlen : (catL zs).length ≤ 12000 := by
                have := congrArg List.length b1
                simp only [List.length_append, midT] at this
                rw [← e3] at this
                split at this <;> simp only [List.length_append] at this <;> omega
              refine seqK_next (Ex_cons (Ex_assign (Ev_join (ys := zs.map S) (Ev_str ⟨rfl, Ev_nameL ⟨.own e2, ?_, ?_⟩⟩))))
              · rw [hw, lit_e, S_len, List.length_nil]; omega
              rw [lit_e, join_S]
              refine seqK_next (Ex_cons (Ex_if (Tr_cmp (Ev_nameL (Ev_nameL (O_eqI (B_bool (brK_split (fun hd => ?_) (fun hd => ?_)))))))))
              · have hj' : (j : Int) = l.length := by simpa using hd
                have hj : j = l.length := Int.ofNat_inj.mp hj'
                subst hj
                rw [List.drop_eq_nil_of_le (Nat.le_refl _)] at e4
                obtain ⟨own', O, hm'⟩ := OwnSet.of_mem (vs' := (ys.map S).map V.str ++ [.str (Str.ofString ".*")]) d7
                obtain ⟨own2, O2, hm2⟩ := OwnSet.of_mem (vs' := ((ys.map S).map V.str ++ [.str (Str.ofString ".*")]) ++ [.str (S (catL zs))]) hm'
                rw [lit_ds] at hm2
                refine Ex_cons (Ex_expr (Ev_callM (Ev_nameL ⟨ra, rfl, Ev_str ⟨_, own', O, ?_, rfl, ?_⟩⟩)))
                · simp only [List.length_map]; exact Nat.le_trans (Nat.le_trans a9 a8) (Nat.le_trans hl (by decide))
                · refine seqK_next (Ex_cons (Ex_expr (Ev_callM (Ev_nameL ⟨ra, rfl, Ev_nameL ⟨_, own2, O2, ?_, rfl, ?_⟩⟩))))
                  · simp only [List.length_map, List.length_append, List.length_cons, List.length_nil]; rw [sizeLine_eq]; omega
                  · refine seqK_next (Ex_nil (seqK_next (Ex_nil (loopK_next 0 (by omega) ⟨l.length, ys ++ [[46, 42], catL zs], by omega, ⟨lk_miss (by decide) d1, lk_miss (by decide) d2, lk_miss (by decide) d3, lk_miss (by decide) d4, lk_miss (by decide) d5, lk_miss (by decide) d6, by simpa using hm2, Nat.le_refl _, ?_⟩, ?_, fun x hx => ?_⟩))))
                    · simp only [List.length_append, List.length_cons, List.length_nil]; omega
                    · rw [List.drop_eq_nil_of_le (Nat.le_refl _), catL_app, ← b1]
                      simp only [← e4, midT, if_true]
                      rw [← e3]
                      simp [sp, midT, catL]
                    · rw [List.getElem?_eq_none (Nat.le_refl _)] at hx; cases hx
              · have hj' : (j : Int) ≠ l.length := by simpa using hd
                have hj : j < l.length := by omega
                obtain ⟨w, hw'⟩ : ∃ w, l[j]? = some w := ⟨_, List.getElem?_eq_getElem hj⟩
                obtain rfl := e5 w hw'
                have e6 := e4
                rw [drop_next hw', sp_star] at e4
                obtain ⟨own', O, hm'⟩ := OwnSet.of_mem (vs' := (ys.map S).map V.str ++ [.str (((Str.empty ++ Str.ofString "(?>.*?") ++ S (catL zs)) ++ Str.ofString ")")]) d7
                refine Ex_cons (Ex_expr (Ev_callM (Ev_nameL ⟨ra, rfl, Ev_fstr (Jn_cons (Ev_str ⟨_, rfl, ?_, Jn_cons (Ev_field (Ev_nameL ⟨_, rfl, ?_, _, rfl, ?_, Jn_consE (Jn_cons (Ev_str ⟨_, rfl, ?_, Jn_nilE ?_ ⟨_, own', O, ?_, rfl, ?_⟩⟩))⟩))⟩))⟩)))
                case refine_6 => simp only [List.length_map]; exact Nat.le_trans (Nat.le_trans a9 a8) (Nat.le_trans hl (by decide))
                case refine_7 =>
                  rw [lit_b, lit_c, empty_S, S_app, S_app, S_app] at hm'
                  refine seqK_next (Ex_nil (seqK_next (Ex_nil (loopK_next (l.length - j) (by omega) ⟨j, ys ++ [[40, 63, 62, 46, 42, 63] ++ catL zs ++ [41]], rfl, ⟨lk_miss (by decide) d1, lk_miss (by decide) d2, lk_miss (by decide) d3, lk_miss (by decide) d4, lk_miss (by decide) d5, lk_miss (by decide) d6, by simpa using hm', d8, ?_⟩, ?_, e5⟩))))
                  · simp only [List.length_append, List.length_cons, List.length_nil]; omega
                  · rw [catL_app, catL_one, ← b1, e6]
                    simp only [midT]
                    rw [← e3, if_neg (by rw [← e4]; exact List.cons_ne_nil _ _)]
                    simp [List.append_assoc]
                all_goals (rw [sizeLine_eq]; simp only [lit_b, lit_c, empty_S, S_app, S_len, List.length_append, List.length_cons, List.length_nil]; omega)
        · have hk : l.length = k := Nat.le_antisymm (by simpa using hc) a8
          subst hk
          refine ⟨ys, ⟨a1, a2, a3, a4, a5, a6, a7, a8, a9⟩, ?_⟩
          rw [List.drop_eq_nil_of_le (Nat.le_refl _)] at b1
          simpa [sp, midT] using b1
      · rintro σ₁ ⟨ys, ⟨a1, a2, a3, a4, a5, a6, a7, a8, a9⟩, b1⟩
        have hb := body_len l
        refine seqK_next (Ex_cons (Ex_assert (Tr_cmp (Ev_nameL (Ev_nameL (O_eqI (B_bool ⟨?_, ?_⟩)))))))
        · simp
        have hw : ((ys.map S).map (·.length)).sum = (catL ys).length := by
          rw [catL, List.length_flatten, List.map_map]
          congr 1
        refine seqK_next (Ex_cons (Ex_assign (Ev_join (ys := ys.map S) (Ev_str ⟨rfl, Ev_nameL ⟨.own a7, ?_, ?_⟩⟩))))
        · rw [hw, b1, lit_e, S_len, List.length_nil]; omega
        · rw [lit_e, join_S, b1]
          refine seqK_next (Ex_cons (Ex_return (Ev_fstr (Jn_cons (Ev_str ⟨_, rfl, ?_, Jn_cons (Ev_field (Ev_nameL ⟨_, rfl, ?_, _, rfl, ?_, Jn_consE (Jn_cons (Ev_str ⟨_, rfl, ?_, Jn_nilE ?_ (seqK_ret ⟨_, .same _, ?_⟩)⟩))⟩))⟩)))))
          case refine_6 =>
            show K (.str _) σ
            rw [lit_a, lit_z, empty_S, S_app, S_app, S_app]
            exact h
          all_goals (rw [sizeLine_eq]; simp only [lit_a, lit_z, empty_S, S_app, S_len, List.length_append, List.length_cons, List.length_nil]; omega)
  · match vals, e with
    | [a, b], _ => rfl
end Mine
end
section
open PySem PySem.W PyProof.Rows PySem.Spec PySem.Calls
namespace Mine
/-- the entries of the table of the special characters -/
noncomputable def es67 (P : Params) : Array DictEntry := match (heapK P).lookup 67 with
  | some ⟨_, _, .dict es _, _⟩ => es
  | _ => #[]
theorem es67_keys (P : Params) : (es67 P).toList.all (fun e => match e.key with | .int k _ => e.hash == hashInt k | _ => false) = true := by rfl
section
variable {prog : Program} {w : World} {A : Around} {E : Value → Shared → Prop} {s : Shared}
theorem tab67 (X : (heapK w.params).In s.heap) : s.heap.MapOf (intKind prog w) 67 (fun k => findBy Value.isInt (es67 w.params) k) := by
  refine ⟨_, es67 w.params, _, X 67 _ rfl, ⟨rfl, rfl, rfl⟩, rfl, fun e he => ?_, fun k => rfl⟩
  have := List.all_eq_true.mp (es67_keys w.params) e (by simpa using he)
  split at this
  · rename_i k t q
    exact ⟨k, by rw [q]; simp [intKind, Value.isInt], eq_of_beq this⟩
  · cases this
theorem tab_a (P : Params) : findBy Value.isInt (es67 P) 97 = none := by rfl
theorem tab_dot (P : Params) : ∃ t, findBy Value.isInt (es67 P) 46 = some (.str (Str.ofString "\\.") t) := ⟨_, by rfl⟩
theorem sub_key_lookup : isSubtype (.type "KeyError") (.type "LookupError") = pure true := by rw [isSubtype_type]; kernel_rfl
theorem tl_a {Q : Builtin.Str.Mapped → Shared → Prop} (X : (heapK w.params).In s.heap) (hh : A.handled = none) (h : ∀ h' tk, (∀ b o, s.heap.get? b = some o → h'.get? b = some o) → Q .keep { s with heap := h', toks := tk }) :
    wpAny (model prog w) A (Builtin.Str.tableLookup (.ref 67) 97) Q E s := by
  unfold Builtin.Str.tableLookup
  refine wpAny_bind (wpAny_attempt (wpAny_bind (wpAny_mkInt ?_)))
  refine wpAny_getItem_missing_of (knd := intKind prog w) (k := 97) (by simp [intKind, Value.isInt]) (by decide) hh (tab67 X) (tab_a _) fun h' e he => ?_
  obtain ⟨ob, t, e1, e2, _⟩ := he.there
  refine wpAny_bind (wpAny_isInstance (T := "KeyError") (b := true) ⟨ob, e1, e2⟩ sub_key_lookup ?_)
  exact wpAny_bind (wpAny_rule (wpAny_pure (h _ _ he.keeps)))
theorem tl_dot {Q : Builtin.Str.Mapped → Shared → Prop} (X : (heapK w.params).In s.heap) (h : ∀ tk, Q (.text (Str.ofString "\\.")) { s with toks := tk }) :
    wpAny (model prog w) A (Builtin.Str.tableLookup (.ref 67) 46) Q E s := by
  obtain ⟨t, ht⟩ := tab_dot w.params
  unfold Builtin.Str.tableLookup
  refine wpAny_bind (wpAny_attempt (wpAny_bind (wpAny_mkInt ?_)))
  refine wpAny_getItem_of (knd := intKind prog w) (k := 46) (by simp [intKind, Value.isInt]) (tab67 (s := { s with toks := s.toks + 1 }) X) ht ?_
  refine wpAny_bind (wpAny_of_eq (a := none) (by rfl) ?_)
  refine wpAny_bind (wpAny_of_eq (a := some (Str.ofString "\\.")) (by rfl) ?_)
  exact wpAny_pure (h _)
theorem forIn_one {α β : Type} {x : α} {b : β} {f : α → β → Sem (ForInStep β)} {Q : β → Shared → Prop} (h : wpAny (model prog w) A (f x b) (fun r s' => match r with | .yield b' => Q b' s' | .done b' => Q b' s') E s) : wpAny (model prog w) A (forIn #[x] b f) Q E s := by
  rw [← Array.forIn_toList]
  show wpAny _ _ (forIn [x] b f) _ _ _
  rw [List.forIn_cons]
  refine wpAny_bind (wpAny_mono h (fun r s' h' => ?_) fun _ _ z => z)
  cases r with
  | yield b' => exact wpAny_pure h'
  | done b' => exact wpAny_pure h'
theorem tr_a {t : Tok} {Q : Value → Shared → Prop} (X : (heapK w.params).In s.heap) (hh : A.handled = none) (h : ∀ h' tk t', (∀ b o, s.heap.get? b = some o → h'.get? b = some o) → Q (.str (S [97]) t') { s with heap := h', toks := tk }) :
    wpAny (model prog w) A (call (.builtin "str.translate") [.str (S [97]) t, .ref 67]) Q E s := by
  refine wpAny_call_entry PySem.F.slot_str_translate (typeIs_str s (S [97]) t) PySem.F.entry_str_translate ?_ (PySem.F.args_str_translate_2 _ _)
  unfold Builtin.«str.translate»
  refine wpAny_bind (wpAny_of_eq (a := (Value.str (S [97]) t, S [97], Value.ref 67)) (by rfl) ?_)
  refine KFB.if_not (by rfl) ?_
  refine wpAny_bind (forIn_one ?_)
  refine KFB.if_not (by rfl) ?_
  refine KFB.if_so (by decide +kernel) ?_
  refine wpAny_bind (m := Builtin.Str.tableLookup (.ref 67) 97) (tl_a X hh fun h' tk hk => ?_)
  refine wpAny_bind (m := pure (some (some 97))) (wpAny_pure ?_)
  refine wpAny_pure ?_
  refine KFB.if_not (by decide) ?_
  refine wpAny_bind (wpAny_mkStr ?_ (by decide))
  exact wpAny_pure ⟨_, rfl, h _ _ _ hk⟩
theorem tr_dot {t : Tok} {Q : Value → Shared → Prop} (X : (heapK w.params).In s.heap) (h : ∀ tk t', Q (.str (S [92, 46]) t') { s with toks := tk }) :
    wpAny (model prog w) A (call (.builtin "str.translate") [.str (S [46]) t, .ref 67]) Q E s := by
  refine wpAny_call_entry PySem.F.slot_str_translate (typeIs_str s (S [46]) t) PySem.F.entry_str_translate ?_ (PySem.F.args_str_translate_2 _ _)
  unfold Builtin.«str.translate»
  refine wpAny_bind (wpAny_of_eq (a := (Value.str (S [46]) t, S [46], Value.ref 67)) (by rfl) ?_)
  refine KFB.if_not (by rfl) ?_
  refine wpAny_bind (forIn_one ?_)
  refine KFB.if_not (by rfl) ?_
  refine KFB.if_so (by decide +kernel) ?_
  refine wpAny_bind (m := Builtin.Str.tableLookup (.ref 67) 46) (tl_dot X fun tk => ?_)
  refine wpAny_bind (m := pure none) (wpAny_pure ?_)
  refine wpAny_bind (wpAny_rule ?_)
  refine wpAny_bind (m := Builtin.Str.tableLookup (.ref 67) 46) (tl_dot (s := { s with toks := tk }) X fun tk => ?_)
  refine wpAny_pure ?_
  refine KFB.if_not (by decide) ?_
  refine wpAny_bind (wpAny_mkStr ?_ (by decide))
  exact wpAny_pure ⟨_, rfl, h _ _⟩
end
section
variable {X : Act} {σ : St} {K : V → St → Prop} {KF : Fl → St → Prop} {KB : Bool → St → Prop}
/-- a method of a str -/
theorem Ev_strM {name : Str} {id : String} {o e : Expr} {rest : List Expr} {apos pos : Pos} (slot : Slot "str" name id) (ty : typeOf (.builtin id) = pure (.type "method_descriptor"))
    (h : Ev X (eval o X.env) σ fun v σ₁ => ∃ x, v = .str x ∧ Evs X (spliced (backTo pos (starEach (e :: rest) X.env))) σ₁ fun vs σ₂ => OpN X (fun vals => call (.builtin id) vals) (.str x :: vs) σ₂ K)
    (he : ∃ pl, eval (.Call (.Attribute o name apos) (e :: rest) [] pos) X.env = (do
      let ov ← eval o X.env
      standAt apos.atName
      let (f, first) ← holding [ov] (getMethod ov name pl)
      callWith pos f first (backTo pos (starEach (e :: rest) X.env)) []) := by exact ⟨_, rfl⟩)
    (hs : starEach (e :: rest) X.env = (false, eval e X.env) :: starEach rest X.env := by rfl) (hp : (backTo pos (starEach rest X.env)).any (·.1) = false := by rfl) : Ev X (eval (.Call (.Attribute o name apos) (e :: rest) [] pos) X.env) σ K := by
  intro s Q E R hQ
  obtain ⟨pl, he⟩ := he
  refine PyProof.Rows.MethodCall_ (h s _ _ R fun val v σ₁ s₁ R₁ L₁ i₁ h₁ => ?_) he
  obtain ⟨x, rfl, h₁⟩ := h₁
  cases i₁ with
  | str _ t =>
    with_reducible refine GM.of (.str x t) (typeIs_str _ _ _) slot ty GM.noRef ?_
    rw [hs] at h₁ ⊢
    refine PySem.Calls.callWith_builtin (by show (false || (backTo pos (starEach rest X.env)).any (·.1)) = false; rw [hp]; rfl) (PySem.Calls.evalArgs_plain (h₁ s₁ _ _ R₁ fun vals vs σ₂ s₂ R₂ L₂ i₂ h₂ => ?_))
    exact h₂ s₂ (.str x t :: vals) _ _ R₂ (.cons (.str x t) i₂) fun val v σ' s' R' L' i' k => hQ val v σ' s' R' ((L₁.trans L₂).trans L') i' k
theorem O_isStr {x : Str} (h : K (.bool true) σ) : OpN X (fun vals => call (.builtin "isinstance") vals) [.str x, .any (.type "str")] σ K := by
  intro s vals Q E R i hQ
  cases i with
  | cons i r =>
    cases r with
    | cons j r =>
      cases r; cases i; cases j
      exact PySem.IsiPair.str_str (hQ _ _ _ _ R (.refl R) (.bool true) h)
/-- what the escaped character is -/
def Esc (c r : List Nat) : Prop := (c = [97] ∧ r = [97]) ∨ (c = [46] ∧ r = [92, 46])
theorem O_translate {c r : List Nat} (hc : Esc c r) (hh : X.A.handled = none) (h : K (.str (S r)) σ) : OpN X (fun vals => call (.builtin "str.translate") vals) [.str (S c), .any (.ref 67)] σ K := by
  intro s vals Q E R i hQ
  have hk := R.ok.kin.keeps R.base
  cases i with
  | cons i r =>
    cases r with
    | cons j r =>
      cases r; cases i; cases j
      rcases hc with ⟨rfl, rfl⟩ | ⟨rfl, rfl⟩
      · exact tr_a hk hh fun h' tk t' hk' => let z := R.grow (tk := tk) hk'; hQ _ _ _ _ z.1 z.2 (.str _ _) h
      · exact tr_dot hk fun tk t' => hQ _ _ _ _ R.tok.1 R.tok.2 (.str _ _) h
theorem T_escape {c r : List Nat} (hc : Esc c r) (hv : 1 ≤ X.lvl) (hh : X.A.handled = none) (h : K (.str (S r)) σ) : OpN X (fun vals => call (.ref 77) vals) [.str (S c)] σ K := by
  refine O_call (f := 77) [Str.ofString "pattern"] (fun Y L hi => ?_) hv rfl rfl rfl (by kernel_rfl) rfl (fun vals e => ?_) (by decide +kernel) (by decide +kernel) rfl rfl rfl rfl rfl rfl
  · have hsc := hi.sc
    conv at hsc => rhs; whnf
    conv in bodyOf _ => whnf
    have hh' := hi.hd
    rw [hh] at hh'
    change Ex Y _ ⟨(Str.ofString "pattern", _) :: [], _, _, _⟩ _
    refine Ex_cons (Ex_if (Tr_any rfl (Ev_callB "isinstance" (Ev_builtin ⟨rfl, Evs_cons (Ev_nameL (Evs_cons (Ev_builtin (Evs_nil (O_isStr (B_bool (brK_t ?_)))))))⟩))))
    refine Ex_cons (Ex_return (Ev_strM PySem.F.slot_str_translate PySem.F.type_str_translate (Ev_nameL ⟨_, rfl, Evs_cons (Ev_global (Evs_nil (O_translate hc hh' ?_)))⟩)))
    exact seqK_ret (seqK_ret ⟨_, .same _, h⟩)
  · match vals, e with
    | [a], _ => rfl
end
end Mine
end
section
open PySem PySem.W PyProof.Rows PySem.Spec PySem.Calls
namespace Mine
section
variable {X : Act} {σ : St} {K : V → St → Prop} {KF : Fl → St → Prop} {KB : Bool → St → Prop}
theorem Ev_lambda {params : Arguments} {body : Expr} {scope : Scope} {pos : Pos} (h : K .fn σ) (hcode : X.env.code = .ref 83) (hl : X.lamPos = pos) (hq : X.lamQual = X.env.qual ++ "<lambda>")
    (hdef : defaultsOf params X.env = ([], []) := by rfl) (hcl : closureFor scope X.env = pure [] := by rfl) : Ev X (eval (.Lambda params body scope pos) X.env) σ K := by
  intro s Q E R hQ
  obtain ⟨p, loose, mean, mg, mb, T⟩ := R.ok.top
  have hgs := T.g.keeps R.base
  obtain ⟨bm, ob, b1, b2, b3, b4, b5, b6⟩ := T.bmain
  have hP : ∃ ps, s.heap.get? X.P = some (tabObj ps) := by
    rcases R.tab.tab with e | ⟨_, _, e, _⟩ <;> exact ⟨_, e⟩
  have hgP : mainGlobals ≠ X.P := fun q => by
    obtain ⟨o, es, ep, e, hd, _⟩ := hgs
    obtain ⟨ps, e'⟩ := hP
    rw [q, e'] at e; cases e; cases hd
  have hbP : bm ≠ X.P := fun q => by rw [q, R.ok.hbP] at b3; cases b3
  have hbG : bm ≠ mainGlobals := fun q => by
    obtain ⟨o, es, ep, e, hd, _⟩ := T.g
    rw [q, e] at b3; cases b3; rw [hd] at b6; cases b6
  have hB : s.heap.BuiltinsAt mg X.P := ⟨bm, ob, b1, b2, hbG, hbP, R.base _ _ b3, b4, b5, b6⟩
  have C : CodeHd s.heap 83 X.P := R.ok.chd.keeps R.base
  refine kla_eval hdef ?_
  rcases R.tab.tab with e | ⟨c, hc, e, r⟩
  · refine kla_makeFunction (mg := mg) hcl R.ok.glob hgs hcode C e (by show TriplesOk []; simp only [TriplesOk]) (by rfl) hgP hB fun c' ctv h' tk hx hge hlt hrec htb => ?_
    have hPn : ∀ o, s.heap.get? X.P = some o → X.P < s.heap.objs.size := fun o e => Heap.lt_size e
    have hkeep : ∀ b o, b ≠ X.P → s.heap.get? b = some o → h'.get? b = some o := fun b o hb e => hx b o hb e
    have z := R.growP (s' := { s with heap := h'.push (kla_obj "<lambda>" (X.env.qual ++ "<lambda>") params body scope [] ((mg "__name__").getD .none) c' ctv), toks := tk }) ⟨_, _, rfl⟩
      (fun b o h1 _ _ e => Heap.get?_push_of_some _ (hkeep b o h1 e)) (fun b hb o e => ⟨o.slots, Heap.get?_push_of_some _ (hkeep b o (fun q => by
        rcases hb with hb | hb
        · exact R.mu_ne R.lmut (hb.symm.trans q)
        · exact R.ok.frP (q ▸ hb)) e)⟩)
      ⟨.inr ⟨c', R.fresh hge, by rw [hl]; exact Heap.get?_push_of_some _ htb, by rw [hq]; exact let ⟨c₂, oc, vs, t, e2, hoc, hd⟩ := hrec; ⟨c₂, oc, vs, t, e2, Heap.get?_push_of_some _ hoc, hd⟩⟩,
        R.tab.hd.imp id fun ⟨e, o, vs, q, he, hd, h2, hm⟩ => ⟨e, o, vs, q, Heap.get?_push_of_some _ (hkeep e o (fun q => hm (off_mu₀ (q ▸ R.ok.pmu))) he), hd, h2, hm⟩⟩
    exact hQ _ _ _ _ z.1 z.2 (.fn (Heap.get?_push_size _ rfl) rfl (R.fresh (Nat.le_trans hge (Nat.le_of_lt hlt)))) h
  · refine kla_makeFunctionHit (mg := mg) (cv := .ref c) hcl R.ok.glob hgs hcode C e ?_ ?_ hB fun ctv h' tk hk hsz => ?_
    · show TriplesOk [rawInt _, rawInt _, _]
      exact by simp only [rawInt, TriplesOk]
    · rw [hl]
      exact codeAmong_snoc (pos := pos) (c := .ref c) [] (by simp only [TriplesOk]) rfl
    have z := R.grow (tk := tk) (h' := h'.push { cls := .type "function", data := .func (kla_fn "<lambda>" (X.env.qual ++ "<lambda>") params body scope [] ((mg "__name__").getD .none) (.ref c) ctv) }) fun b o e => Heap.get?_push_of_some _ (hk b o e)
    exact hQ _ _ _ _ z.1 z.2 (.fn (Heap.get?_push_size _ rfl) rfl (R.fresh hsz)) h
end
end Mine
end
section
open PySem PySem.W PyProof.Rows PySem.Spec PySem.Calls
open PySem.Builtin.Re
namespace Mine
noncomputable def code57 (P : Params) : Array Nat := match (heapK P).lookup 57 with
  | some ⟨_, _, .seq xs _, _⟩ => (xs.map reRawOf).map (·.toNat)
  | _ => #[]
/-- a text in which the pattern finds nothing -/
def Bare (l : List Nat) : Prop := l = [97, 98] ∨ l = [33, 98]
def failed (m : Sre.M) : Bool := match m.outcome with | some .failed => true | _ => false
theorem sre_fails (P : Params) {l : List Nat} (h : Bare l) : failed ((Sre.forSearch (code57 P) (S l).cps 1 0 (S l).cps.size false).runFor 4) = true := by
  rcases h with rfl | rfl <;> kernel_rfl
section
variable {prog : Program} {w : World} {A : Around} {E : Value → Shared → Prop} {s : Shared}
theorem rules_loop {M : Model} (m : Sre.M) (l : List Nat) {Q : PUnit → Shared → Prop} (h : Q ⟨⟩ s) : wpAny M A (forIn l PUnit.unit fun i _ => if m.seen.has i = true then (do rule (Sre.names.getD i ""); pure (ForInStep.yield PUnit.unit)) else pure (ForInStep.yield PUnit.unit)) Q E s := by
  induction l with
  | nil => exact wpAny_pure h
  | cons i l ih =>
    rw [List.forIn_cons]
    refine wpAny_bind ?_
    split
    · exact wpAny_bind (wpAny_rule (wpAny_pure ih))
    · exact wpAny_pure ih
theorem run_fails {M : Model} {m : Sre.M} {Q : Option Sre.M → Shared → Prop} (hf : failed (m.runFor 4) = true) (h : Q none s) : wpAny M A (reRunToEnd m) Q E s := by
  unfold reRunToEnd
  have ho : (m.runFor 4).outcome = some .failed := by
    unfold failed at hf
    split at hf
    · assumption
    · cases hf
  have e : (2 : Nat) ^ 64 = 18446744073709551615 + 1 := by decide
  rw [e]
  refine wpAny_bind ?_
  rw [reDrive]
  show wpAny _ _ (if (m.runFor 4).outcome.isSome = true then _ else _) _ _ _
  rw [ho]
  refine KFB.if_so rfl (wpAny_pure ?_)
  refine wpAny_bind (rules_loop _ _ ?_)
  rw [show (m.runFor reTurnSteps).outcome = some .failed from ho]
  exact wpAny_pure h
theorem slot_sub : Slot "re.Pattern" "sub" "re.Pattern.sub" :=
  .of (owner := "re.Pattern") (n := "sub") (by rw [typeLookup_type, builtinLookup_eq_fast]; kernel_rfl) (by decide +kernel) (by decide +kernel) (by decide +kernel)
    (by first | exact .inl (by decide +kernel) | exact .inr (by decide +kernel)) (by rw [isSubtype_type]; kernel_rfl)
theorem entry_sub : entryFor table "re.Pattern.sub" = some Builtin.«re.Pattern.sub» := entryFor_of_tree (by kernel_rfl)
theorem entry_sub_loop : entryFor table "re.Pattern.sub.loop" = some Builtin.«re.Pattern.sub.loop» := entryFor_of_tree (by kernel_rfl)
theorem type_sub : typeOf (.builtin "re.Pattern.sub") = pure (.type "method_descriptor") := by show builtinType _ = _; rw [builtinType_eq_fast]; kernel_rfl
theorem owner_pattern : Manifest.owners.lookup (String.ofList "re.Pattern".toList.reverse.reverse) = some Manifest.sig_re_Pattern := by kernel_rfl
theorem args_sub (a b c : Value) : argsOk "re.Pattern.sub" ⟨[a, b, c], []⟩ := by
  unfold argsOk; rw [signature?_of (id := "re.Pattern.sub") (n := "sub".toList.reverse) (o := "re.Pattern".toList.reverse) (by kernel_rfl) owner_pattern]; kernel_rfl
theorem plain_sub_loop : plainId "re.Pattern.sub.loop" = true := by decide +kernel
theorem pat58 (P : Params) : ∃ o vs xs n t, (heapK P).lookup 58 = some o ∧ o.cls = .type "re.Pattern" ∧ o.dict = none ∧ o.data = .fields vs ∧ vs.getD 6 .none = .int 0 0 ∧ vs.getD 5 .none = .ref 57 ∧ vs.getD 2 .none = .int 1 0 ∧
    (heapK P).lookup 57 = some { cls := .type "tuple", data := .seq xs n } ∧ code57 P = (xs.map reRawOf).map (·.toNat) ∧ t = (0 : Nat) := ⟨_, _, _, _, _, rfl, rfl, rfl, rfl, rfl, rfl, rfl, rfl, rfl, rfl⟩
theorem whole {l : List Nat} {t : Tok} {Q : ReTarget → Shared → Prop} (X : (heapK w.params).In s.heap) (h : ∀ r : ReTarget, r.code = code57 w.params → r.text = (S l).cps → r.kind = 0 → r.groups = 1 → r.lim = (S l).cps.size → Q r s) :
    wpAny (model prog w) A (reWholeTarget (.ref 58) (.str (S l) t)) Q E s := by
  obtain ⟨o, vs, xs, n, _, h58, hc, hdn, hd, h6, h5, h2, h57, hcode, _⟩ := pat58 w.params
  unfold reWholeTarget
  refine wpAny_bind (m := fieldsOf (.ref 58)) ?_
  unfold fieldsOf
  refine wpAny_bind (wpAny_load (X _ _ h58) ?_)
  rw [hd]
  refine wpAny_pure ?_
  refine wpAny_bind (wpAny_of_eq (a := ((S l).cps, 0)) (by rfl) ?_)
  dsimp only
  rw [h6, h5, h2]
  refine KFB.if_not (by rfl) ?_
  refine KFB.if_not (by rfl) ?_
  refine wpAny_bind (m := reNoCollectionInside (.str (S l) t) 0) (wpAny_pure ?_)
  refine wpAny_bind (m := reRawItems (.ref 57)) ?_
  unfold reRawItems
  refine wpAny_bind (wpAny_seqItems (X _ _ h57) rfl (wpAny_pure ?_))
  refine wpAny_pure (h _ hcode.symm rfl rfl rfl rfl)
theorem call_fn_lookup : typeLookup (.type "function") (Str.ofString "__call__") = pure (some (.builtin "function.__call__")) := by rw [typeLookup_type, builtinLookup_eq_fast]; kernel_rfl
theorem sub_str_ba : isSubtype (.type "str") (.type "bytearray") = pure false := by rw [isSubtype_type]; kernel_rfl
theorem sub_call {f : Addr} {of : Obj} {l : List Nat} {t : Tok} {Q : Value → Shared → Prop} (hb : Bare l) (X : (heapK w.params).In s.heap) (hf : s.heap.get? f = some of) (hfc : of.cls = .type "function")
    (h : ∀ h' tk t', (∀ b o, s.heap.get? b = some o → h'.get? b = some o) → Q (.str (S l) t') { s with heap := h', toks := tk }) :
    wpAny (model prog w) A (call (.builtin "re.Pattern.sub") [.ref 58, .ref f, .str (S l) t]) Q E s := by
  obtain ⟨o, vs, xs, n, _, h58, hc, hdn, hd, h6, h5, h2, h57, hcode, _⟩ := pat58 w.params
  have hT : s.TypeIs (.ref 58) "re.Pattern" := ⟨o, X _ _ h58, hc⟩
  have hTf : s.TypeIs (.ref f) "function" := ⟨of, hf, hfc⟩
  refine wpAny_call (codeAny_call_builtin slot_sub.plain entry_sub (slot_sub.check _ _ _ _ _ _ _ _ hT (args_sub _ _ _) ?_))
  unfold Builtin.«re.Pattern.sub» reSubstitute
  refine wpAny_bind (wpAny_of_eq (a := [some (.ref f), some (.str (S l) t), none]) (by rfl) ?_)
  refine wpAny_bind (wpAny_pure ?_)
  refine wpAny_bind (wpAny_specialOf hTf call_fn_lookup ?_)
  refine KFB.if_so rfl ?_
  refine wpAny_bind (wpAny_pure ?_)
  refine KFB.if_so rfl ?_
  refine wpAny_bind (wpAny_pure ?_)
  refine wpAny_bind (wpAny_holding (whole X fun r r1 r2 r3 r4 r5 => ?_))
  refine KFB.if_so (by rfl) ?_
  refine wpAny_bind (m := reNotHeld "re.Pattern.sub" (.str (S l) t)) ?_
  unfold reNotHeld
  refine wpAny_bind (wpAny_isInstance (typeIs_str s (S l) t) sub_str_ba ?_)
  refine KFB.if_not rfl (wpAny_pure ?_)
  refine wpAny_bind (m := newList []) (wpAny_newObj_type ?_)
  refine wpAny_pure ⟨plainId_quiet plain_sub_loop _, codeAny_builtin entry_sub_loop ?_⟩
  unfold Builtin.«re.Pattern.sub.loop»
  have hk₁ : ∀ b o, s.heap.get? b = some o → (s.heap.push { cls := .type "list", data := .seq ([] : List Value).toArray }).get? b = some o := fun b o e => Heap.get?_push_of_some _ e
  refine wpAny_bind (whole (s := { s with heap := s.heap.push { cls := .type "list", data := .seq ([] : List Value).toArray } }) (X.keeps hk₁) fun r r1 r2 r3 r4 r5 => ?_)
  refine KFB.if_not (by rfl) ?_
  refine wpAny_bind (m := if (((0 : Int) != 0 && decide ((0 : Int) ≥ 0)) = true) then pure none else reNextFound r (Int.toNat 0) false) ?_
  refine KFB.if_not (by rfl) ?_
  unfold reNextFound
  refine run_fails (by rw [r1, r2, r4, r5]; exact sre_fails w.params hb) ?_
  have hlen : 0 < (S l).cps.size := by rcases hb with rfl | rfl <;> decide
  have hsz : (S l).length ≤ 1000 := by rcases hb with rfl | rfl <;> decide
  show wpAny _ _ (if 0 < r.lim then _ else _) _ _ _
  rw [if_pos (by rw [r5]; exact hlen), r2, r3, r5]
  refine wpAny_bind (m := reSlice (S l).cps 0 0 (S l).cps.size) ?_
  have hex : (S l).cps.extract 0 (S l).cps.size = (S l).cps := by simp
  show wpAny _ _ (mkStr ⟨(S l).cps.extract 0 (S l).cps.size⟩) _ _ _
  rw [hex]
  refine wpAny_mkStr ?_ (by rw [sizeLine_eq]; exact Nat.le_trans hsz (by decide))
  have hn := Heap.get?_push_size s.heap (o := { cls := .type "list", data := .seq ([] : List Value).toArray }) rfl
  refine wpAny_bind (wpAny_updateSeq hn rfl ?_)
  refine wpAny_bind (m := reSlice (S l).cps 0 0 0) ?_
  show wpAny _ _ (mkStr ⟨(S l).cps.extract 0 0⟩) _ _ _
  refine wpAny_mkStr ?_ (by show ((S l).cps.extract 0 0).size ≤ sizeLine; simp)
  have hu := Heap.get?_update_self (Obj.mapSeq fun x => x.push (Value.str { cps := (S l).cps } s.toks)) hn rfl
  refine wpAny_bind (wpAny_seqItems hu rfl ?_)
  refine KFB.if_not (by rfl) ?_
  refine wpAny_bind (m := call (.builtin "str.join") [.str { cps := (S l).cps.extract 0 0 } (s.toks + 1), .ref s.heap.objs.size]) (PyProof.Rows.join_list (ys := [S l]) (items := #[Value.str { cps := (S l).cps } s.toks]) ⟨_, hu, rfl, _, rfl⟩ (.cons _ _ .nil) ?_ fun t' k => ?_)
  · show (S l).length + 0 + 1 * ((S l).cps.extract 0 0).size ≤ 16777216
    simp; omega
  · refine KFB.if_not rfl ?_
    have e : Txt.join { cps := (S l).cps.extract 0 0 } [S l] = S l := by
      have := join_S [l]
      rw [show (Str.mk ((S l).cps.extract 0 0)) = S [] by show Str.mk _ = Str.mk _; simp]
      simpa [catL] using this
    rw [e]
    refine wpAny_pure (h _ _ _ fun b o hb => ?_)
    rw [Heap.get?_update_other _ _ (Nat.ne_of_gt (Heap.lt_size hb))]
    exact hk₁ b o hb
end
end Mine
end
section
open PySem PySem.W PyProof.Rows PySem.Spec PySem.Calls
namespace Mine
theorem plainAttrs_pattern : PlainAttrs "re.Pattern" :=
  ⟨⟨_, (by rw [typeLookup_type, builtinLookup_eq_fast]; kernel_rfl : typeLookup (.type "re.Pattern") "__getattribute__" = pure (some (.builtin "object.__getattribute__"))), by decide +kernel⟩, by rw [typeLookup_type, builtinLookup_eq_fast]; kernel_rfl⟩
section
variable {X : Act} {σ : St} {K : V → St → Prop} {KF : Fl → St → Prop} {KB : Bool → St → Prop}
/-- the pattern's sub, where it finds nothing -/
theorem Ev_sub58 {o e₁ e₂ : Expr} {apos pos : Pos} {l : List Nat} (hb : Bare l)
    (h : Ev X (eval o X.env) σ fun v σ₁ => v = .any (.ref 58) ∧ Ev X (eval e₁ X.env) σ₁ fun u σ₂ => u = .fn ∧ Ev X (eval e₂ X.env) σ₂ fun x σ₃ => x = .str (S l) ∧ K (.str (S l)) σ₃)
    (he : ∃ pl, eval (.Call (.Attribute o (Str.ofString "sub") apos) [e₁, e₂] [] pos) X.env = (do
      let ov ← eval o X.env
      standAt apos.atName
      let (f, first) ← holding [ov] (getMethod ov (Str.ofString "sub") pl)
      callWith pos f first (backTo pos (starEach [e₁, e₂] X.env)) []) := by exact ⟨_, rfl⟩)
    (hs : starEach [e₁, e₂] X.env = [(false, eval e₁ X.env), (false, eval e₂ X.env)] := by rfl) : Ev X (eval (.Call (.Attribute o (Str.ofString "sub") apos) [e₁, e₂] [] pos) X.env) σ K := by
  intro s Q E R hQ
  obtain ⟨pl, he⟩ := he
  refine PyProof.Rows.MethodCall_ (h s _ _ R fun val v σ₁ s₁ R₁ L₁ i₁ h₁ => ?_) he
  obtain ⟨rfl, h₁⟩ := h₁
  cases i₁
  obtain ⟨ob, vs, xs, n, _, h58, hc, hdn, hd, _⟩ := pat58 X.w.params
  have h58' := R₁.base _ _ (R₁.ok.kin _ _ h58)
  have hT : s₁.TypeIs (.ref 58) "re.Pattern" := ⟨ob, h58', hc⟩
  with_reducible refine getMethod_builtin (T := "re.Pattern") hT plainAttrs_pattern slot_sub type_sub (fun a e => by cases e; exact ⟨ob, h58', hdn⟩) ?_
  rw [hs]
  refine PySem.Calls.callWith_builtin rfl (PySem.Calls.evalArgs_plain (PySem.Calls.spliced_cons (h₁ s₁ _ _ R₁ fun vf u σ₂ s₂ R₂ L₂ i₂ h₂ => PySem.Calls.spliced_cons ?_)))
  obtain ⟨rfl, h₂⟩ := h₂
  refine h₂ s₂ _ _ R₂ fun vx x σ₃ s₃ R₃ L₃ i₃ h₃ => PySem.Calls.spliced_nil ?_
  obtain ⟨rfl, h₃⟩ := h₃
  cases i₃
  have i₂' := L₃.vin R₂ i₂
  cases i₂' with
  | fn hf hfc _ => exact sub_call hb (R₃.ok.kin.keeps R₃.base) hf hfc fun h' tk t' hk => let z := R₃.grow (tk := tk) hk; hQ _ _ _ _ z.1 (((L₁.trans L₂).trans L₃).trans z.2) (.str _ _) h₃
end
end Mine
end
section
open PySem PySem.W PyProof.Rows PySem.Spec PySem.Calls
namespace Mine
/-- a slice of step one -/
def pick {α : Type} (l : List α) (lo hi : Option Int) : List α := (l.drop (lo.elim 0 (clipAt l.length))).take (hi.elim l.length (clipAt l.length) - lo.elim 0 (clipAt l.length))
theorem pick_upto {α : Type} (l : List α) (b : Nat) : pick l none (some b) = l.take b := by
  unfold pick
  simp only [Option.elim, clipAt_nat, List.drop_zero, Nat.sub_zero]
  rcases Nat.le_total b l.length with h | h
  · rw [Nat.min_eq_left h]
  · rw [Nat.min_eq_right h, List.take_of_length_le (Nat.le_refl _), List.take_of_length_le h]
theorem pick_from {α : Type} (l : List α) (a : Nat) : pick l (some a) none = l.drop a := by
  unfold pick
  simp only [Option.elim, clipAt_nat]
  rcases Nat.le_total a l.length with h | h
  · rw [Nat.min_eq_left h, List.take_of_length_le (by simp)]
  · rw [Nat.min_eq_right h, List.drop_of_length_le (Nat.le_refl _), List.drop_of_length_le h]; simp
theorem pick_run' {α : Type} (l : List α) (a b : Nat) (hb : b ≤ l.length) : pick l (some a) (some b) = (l.drop a).take (b - a) := by
  unfold pick
  simp only [Option.elim, clipAt_nat, Nat.min_eq_left hb]
  rcases Nat.le_total a l.length with h | h
  · rw [Nat.min_eq_left h]
  · rw [Nat.min_eq_right h, List.drop_of_length_le (Nat.le_refl _), List.drop_of_length_le h]; simp
theorem pick_inner {α : Type} (l : List α) : pick l (some 1) (some (-1)) = (l.drop 1).take (l.length - 2) := by
  unfold pick
  have h1 : clipAt l.length 1 = min 1 l.length := clipAt_nat l.length 1
  have h2 : clipAt l.length (-1) = l.length - 1 := clipAt_neg l.length 1 (Nat.le_refl _)
  simp only [Option.elim, h1, h2]
  rcases Nat.le_total 1 l.length with h | h
  · rw [Nat.min_eq_left h]; congr 1
  · rw [Nat.min_eq_right h, List.drop_of_length_le (Nat.le_refl _), List.drop_of_length_le h]; simp
theorem bounds_same (lo hi : Option Int) (n : Nat) : Builtin.Str.strSliceIndices lo hi 1 n = sliceRange (sliceBounds lo hi none n).1 (sliceBounds lo hi none n).2.1 1 := by
  cases lo <;> cases hi <;> simp [Builtin.Str.strSliceIndices, sliceBounds]
theorem slice_S (l : List Nat) (lo hi : Option Int) : Txt.slice (S l) lo hi = S (pick l lo hi) := by
  have e : ((Builtin.Str.strSliceIndices lo hi 1 (S l).length).filterMap ((S l).cps[·]?)) = pick l lo hi := by
    rw [bounds_same, sliceBounds_plain, S_len]
    simp only [sliceRange_one, PySem.pick_run]
    simp [S, pick]
  unfold Txt.slice
  split
  · rename_i h
    have hl : (Builtin.Str.strSliceIndices lo hi 1 (S l).length).length = (S l).length := by simpa using h
    rw [bounds_same, sliceBounds_plain, sliceRange_one, List.length_map, List.length_range, S_len] at hl
    congr 1
    have h1 : hi.elim l.length (clipAt l.length) ≤ l.length := by
      cases hi with
      | none => exact Nat.le_refl _
      | some i => have := clipAt_cast l.length i; show clipAt l.length i ≤ _; omega
    have h2 : lo.elim 0 (clipAt l.length) = 0 ∨ l.length = 0 := by omega
    unfold pick
    rcases h2 with h2 | h2
    · rw [h2, List.drop_zero, Nat.sub_zero, List.take_of_length_le (by omega)]
    · have : l = [] := List.eq_nil_of_length_eq_zero h2
      subst this; simp
  · show Str.mk _ = Str.mk _
    rw [e]
section
variable {X : Act} {σ : St} {K : V → St → Prop} {KF : Fl → St → Prop} {KB : Bool → St → Prop}
/-- a bound of a slice -/
def EvP (X : Act) (e : Option Expr) (σ : St) (K : Option Int → St → Prop) : Prop := match e with
  | none => K none σ
  | some e => Ev X (eval e X.env) σ fun v σ₁ => ∃ i, v = .int i ∧ K (some i) σ₁
theorem EvP_none {K : Option Int → St → Prop} (h : K none σ) : EvP X none σ K := h
theorem EvP_some {e : Expr} {K : Option Int → St → Prop} (h : Ev X (eval e X.env) σ fun v σ₁ => ∃ i, v = .int i ∧ K (some i) σ₁) : EvP X (some e) σ K := h
theorem EvP_run {e : Option Expr} {K : Option Int → St → Prop} (h : EvP X e σ K) {s : Shared} {Q : Value → Shared → Prop} {E : Value → Shared → Prop} (R : Rep X σ s)
    (hQ : ∀ val i σ' s', Rep X σ' s' → Later X σ s σ' s' → IsPart val i → (∃ t, val = partValue (i.map fun i => (i, t))) → K i σ' → Q val s') : wpAny (model X.prog X.w) X.A (evalPart e X.env) Q E s := by
  cases e with
  | none => exact evalPart_none_step (hQ _ _ _ _ R (.refl R) .none ⟨0, rfl⟩ h)
  | some e =>
    refine evalPart_some_step (h s _ _ R fun val v σ₁ s₁ R₁ L₁ i₁ h₁ => ?_)
    obtain ⟨i, rfl, h₁⟩ := h₁
    cases i₁ with
    | int _ t => exact hQ _ _ _ _ R₁ L₁ (.int i t) ⟨t, rfl⟩ h₁
theorem Ev_sliceS {value : Expr} {lo hi : Option Expr} {p pos : Pos} (h : Ev X (eval value X.env) σ fun o σ₁ => EvP X lo σ₁ fun l σ₂ => EvP X hi σ₂ fun u σ₃ => ∃ x, o = .str (S x) ∧ x.length ≤ sizeLine ∧ K (.str (S (pick x l u))) σ₃)
    (ht : ∀ o r, letTemporaryGo value o r = pure () := by intro _ _; rfl) : Ev X (eval (.Subscript value (.Slice lo hi none p) pos) X.env) σ K := by
  intro s Q E R hQ
  refine wpAny_Subscript_str_slice (h s _ _ R fun vo o σ₁ s₁ R₁ L₁ i₁ h₁ => EvP_run h₁ R₁ fun vl l σ₂ s₂ R₂ L₂ pl ql h₂ => EvP_run h₂ R₂ fun vu u σ₃ s₃ R₃ L₃ pu qu h₃ => ?_) ht
  obtain ⟨x, rfl, hz, h₃⟩ := h₃
  cases i₁ with
  | str _ t =>
    obtain ⟨tl, el⟩ := ql
    obtain ⟨tu, eu⟩ := qu
    refine ⟨S x, t, _, _, rfl, el, eu, ?_⟩
    have hx : (S x).length ≤ sizeLine := by rw [S_len]; exact hz
    have hm : ∀ (l : Option Int) (t : Tok), (l.map fun i => (i, t)).map (·.1) = l := fun l t => by cases l <;> rfl
    have key := post_val_or_str (s := { s₃ with heap := s₃.heap.push { cls := .type "slice", data := .fields #[vl, vu, .none] } }) (c := (((1 : Int) == 1 && (Builtin.Str.strSliceIndices l u 1 (S x).length).length == (S x).length) = true)) (y := S x) (z := ⟨((Builtin.Str.strSliceIndices l u 1 (S x).length).filterMap ((S x).cps[·]?)).toArray⟩) (t := t) (Q := Q)
      ⟨Nat.le_trans (Txt.slice_le (S x) l u) hx, fun t' k => by
        have z := R₃.push (tk := k) { cls := .type "slice", data := .fields #[vl, vu, .none] }
        have := hQ (.str (S (pick x l u)) t') _ σ₃ _ z.1 (((L₁.trans L₂).trans L₃).trans z.2) (.str _ _) h₃
        rw [← slice_S] at this
        exact this⟩
    unfold sliceMade slicePicked
    rw [hm, hm]
    exact key
theorem Ev_sliceL {value : Expr} {lo hi : Option Expr} {p pos : Pos} (h : Ev X (eval value X.env) σ fun o σ₁ => EvP X lo σ₁ fun l σ₂ => EvP X hi σ₂ fun u σ₃ => ∃ vs, Its σ₃ o vs ∧ vs.length ≤ sizeLine ∧ K (.lst (pick vs l u)) σ₃)
    (ht : ∀ o r, letTemporaryGo value o r = pure () := by intro _ _; rfl) : Ev X (eval (.Subscript value (.Slice lo hi none p) pos) X.env) σ K := by
  intro s Q E R hQ
  refine wpAny_Subscript_Slice (T := "list") slot_list_getitem.lookup (h s _ _ R fun vo o σ₁ s₁ R₁ L₁ i₁ h₁ => wpAny_Slice (EvP_run h₁ R₁ fun vl l σ₂ s₂ R₂ L₂ pl ql h₂ => EvP_run h₂ R₂ fun vu u σ₃ s₃ R₃ L₃ pu qu h₃ => ?_)) ht
  obtain ⟨vs, I, hz, h₃⟩ := h₃
  have i₃ := L₃.vin R₂ (L₂.vin R₁ i₁)
  obtain ⟨a, vals, rfl, hl, il⟩ := I.get R₃ i₃
  rw [evalPart_none]
  have z := R₃.push (tk := s₃.toks) { cls := .type "slice", data := .fields #[vl, vu, .none] }
  refine wpAny_pure ⟨(hl.push _).typeIs, ?_⟩
  refine wpAny_getItem_list_slice (s := { s₃ with heap := s₃.heap.push { cls := .type "slice", data := .fields #[vl, vu, .none] } }) (hl.push _) (Heap.IsSliceOf.new _ _ _ _) pl pu .none (by nofun) ?_ (by rw [List.size_toArray, il.length]; exact hz)
  have z₂ := z.1.push (tk := s₃.toks) { cls := .type "list", data := .seq (slicePick vals.toArray l u none) 0 }
  refine hQ _ _ _ _ z₂.1 (((((L₁.trans L₂).trans L₃).trans z.2)).trans z₂.2) (.lst (vals := pick vals l u) ⟨_, Heap.get?_push_size _ rfl, rfl, 0, ?_⟩ (z.1.fresh (Nat.le_refl _)) (Later.vall z.1 z₂.2 (Later.vall R₃ z.2 ?_))) h₃
  · rw [slicePick_plain]; simp [pick]
  · unfold pick
    rw [il.length]
    exact (il.drop _).take _
end
end Mine
end
section
open PySem PySem.W PyProof.Rows PySem.Spec PySem.Calls
namespace Mine
section
variable {X : Act} {σ : St} {K : V → St → Prop} {KF : Fl → St → Prop} {KB : Bool → St → Prop}
/-- if d not in x: x = x.replace(y, z) -/
theorem Ex_dash {x d y z : Str} {l : List Nat} {k k₁ k₂ : Nat} {p₀ p₁ p₂ p₃ p₄ p₅ p₆ p₇ p₈ p₉ pos : Pos} {orelse : List Stmt} (hd : Txt.contains (S l) d = false) (hyz : (y == z) = false) (hb : (S l).length + ((S l).length + 1) * z.length ≤ 16777216)
    (h : KF .next { σ with loc := (x, .str (Txt.replace (S l) y z)) :: σ.loc })
    (hl : σ.loc.lookup x = some (.str (S l)) := by repeat (first | exact lk_hit | (apply lk_miss; · decide) | assumption))
    (hk : X.env.kindOf x = some .local := by first | assumption | exact kd (by assumption) (by rfl)) (hx : (x == ("__debug__" : Str)) = false := by decide)
    (hm : behindInMarks .NotIn (.Name x p₁) = false := by with_unfolding_all rfl)
    (he : ∃ pl, eval (.Call (.Attribute (.Name x p₄) (Str.ofString "replace") p₅) [.Constant (.str y) k₁ p₆, .Constant (.str z) k₂ p₇] [] p₈) X.env = (do
      let ov ← eval (.Name x p₄) X.env
      standAt p₅.atName
      let (f, first) ← holding [ov] (getMethod ov (Str.ofString "replace") pl)
      callWith p₈ f first (backTo p₈ (starEach [.Constant (.str y) k₁ p₆, .Constant (.str z) k₂ p₇] X.env)) []) := by exact ⟨_, rfl⟩)
    (hs : swapsWith (.Call (.Attribute (.Name x p₄) (Str.ofString "replace") p₅) [.Constant (.str y) k₁ p₆, .Constant (.str z) k₂ p₇] [] p₈) (some (.Name x p₃)) p₂.line X.env = pure false := by rfl)
    (ht : starEach [.Constant (.str y) k₁ p₆, .Constant (.str z) k₂ p₇] X.env = [(false, eval (.Constant (.str y) k₁ p₆) X.env), (false, eval (.Constant (.str z) k₂ p₇) X.env)] := by rfl) :
    Ex X (exec (.If (.Compare (.Constant (.str d) k p₀) [.NotIn] [.Name x p₁] p₉) [.Assign [.Name x p₃] (.Call (.Attribute (.Name x p₄) (Str.ofString "replace") p₅) [.Constant (.str y) k₁ p₆, .Constant (.str z) k₂ p₇] [] p₈) p₂] orelse pos) X.env) σ KF := by
  intro s Q E R hQ
  obtain ⟨m, val, n, e, i⟩ := (R.var x _ hl).loc hk (by nofun)
  obtain ⟨pl, he⟩ := he
  cases i with
  | str _ t =>
    refine wpAny_If (wpAny_isTrue_Compare1 ?_ hm)
    show wpAny _ _ (mkText d) _ _ s
    refine wpAny_mkText ?_
    refine wpAny_Name (wpAny_loadName_local R.ok.kind hk n e ?_) hx
    refine PySem.SB.notContains ?_
    rw [hd]
    refine wpAny_truthy_bool ?_
    rw [if_pos (show (!false) = true from rfl)]
    refine wpAny_execs_cons ?_
    have n' : Heap.Ns { s with toks := s.toks + 1 }.heap X.env.locals m := n
    refine wpAny_Assign_Name (PyProof.Rows.MethodCall_ (wpAny_Name (wpAny_loadName_local R.ok.kind hk n' e ?_) hx) he) hs
    with_reducible refine GM.replace ?_
    rw [ht]
    refine PySem.Calls.callWith_builtin rfl (PySem.Calls.evalArgs_plain (PySem.Calls.spliced_cons ?_))
    show wpAny _ _ (mkText y) _ _ _
    refine wpAny_mkText (PySem.Calls.spliced_cons ?_)
    show wpAny _ _ (mkText z) _ _ _
    refine wpAny_mkText (PySem.Calls.spliced_nil ?_)
    refine PySem.SC.replace (Nat.succ_ne_zero _) (Nat.succ_ne_zero _) (Nat.ne_of_lt (Nat.lt_succ_self _)) hyz hb fun t' k => ?_
    have z := R.tok (tk := k)
    refine Un_storeL z.1 hk (.str _ t') fun s' R' L' => ?_
    exact wpAny_execs_nil (hQ _ _ _ _ R' (z.2.trans L') .next h)
theorem O_neS {a b : Str} (h : K (.bool (a != b)) σ) : Op2 X (compareOp .NotEq) (.str a) (.str b) σ K := by
  intro s va vb Q E R ia ib hQ
  cases ia; cases ib
  exact PyProof.Rows.ne_str (hQ _ _ _ _ R (.refl R) (.bool _) h)
theorem O_inT {x : Str} {ys : List Str} (h : K (.bool (ys.any (· == x))) σ) : Op2 X (compareOp .In) (.str x) (.tup (ys.map V.str)) σ K := by
  intro s va vb Q E R ia ib hQ
  cases ia
  cases ib with
  | tup ht _ il => exact PyProof.Rows.in_tuple_strs ht (by simpa using strsAre il) (hQ _ _ _ _ R (.refl R) (.bool _) h)
end
end Mine
end
section
open PySem PySem.W PyProof.Rows PySem.Spec PySem.Calls
namespace Mine
theorem item_S {l : List Nat} {i : Nat} {c : Nat} (h : l[i]? = some c) : Txt.item (S l) (i : Int) = S [c] := by
  have hi : i < l.length := (List.getElem?_eq_some_iff.mp h).1
  have e : Txt.charAt (S l) (i : Int) = some c := by
    unfold Txt.charAt
    have : seqIndex? (i : Int) (S l).length = some i := by
      unfold seqIndex?
      rw [S_len]
      have h0 : ¬ ((i : Int) < 0) := by omega
      simp [h0, hi]
    rw [this]
    show (S l).cps[i]? = some c
    simpa [S] using h
  unfold Txt.item
  rw [e]; rfl
theorem item_Z {l : List Nat} {z : Int} {i c : Nat} (hz : z = i) (h : l[i]? = some c) : Txt.item (S l) z = S [c] := by subst hz; exact item_S h
/-- the text of a pattern -/
def tk (x : _root_.Fin 6) : List Nat := match x.val with
  | 0 => [42]
  | 1 => [63]
  | 2 => [97]
  | 3 => [91, 97, 98, 93]
  | 4 => [91, 33, 98, 93]
  | _ => [46]
def txt (p : List (_root_.Fin 6)) : List Nat := catL (p.map tk)
theorem txt_app (a b : List (_root_.Fin 6)) : txt (a ++ b) = txt a ++ txt b := by simp [txt, catL]
theorem txt_cons (x : _root_.Fin 6) (b : List (_root_.Fin 6)) : txt (x :: b) = tk x ++ txt b := by simp [txt, catL]
theorem tk_len (x : _root_.Fin 6) : 1 ≤ (tk x).length ∧ (tk x).length ≤ 4 := by revert x; decide
theorem txt_len (p : List (_root_.Fin 6)) : (txt p).length ≤ 4 * p.length := by
  induction p with
  | nil => simp [txt, catL]
  | cons x p ih => have := tk_len x; rw [txt_cons, List.length_append, List.length_cons]; omega
/-- the pieces, a run of stars as one -/
def step (acc : List (_root_.Fin 6)) (x : _root_.Fin 6) : List (_root_.Fin 6) := if x = 0 ∧ acc.getLast? = some 0 then acc else acc ++ [x]
def pcs (p : List (_root_.Fin 6)) : List (_root_.Fin 6) := p.foldl step []
theorem pcs_snoc (p : List (_root_.Fin 6)) (x : _root_.Fin 6) : pcs (p ++ [x]) = step (pcs p) x := by simp [pcs]
theorem pcs_len (p : List (_root_.Fin 6)) : (pcs p).length ≤ p.length := by
  have h : ∀ (p acc : List (_root_.Fin 6)), (p.foldl step acc).length ≤ acc.length + p.length := by
    intro p
    induction p with
    | nil => intro acc; simp
    | cons x p ih =>
      intro acc
      refine Nat.le_trans (ih _) ?_
      unfold step
      split <;> simp <;> omega
  simpa [pcs] using h p []
/-- what may stand for the star -/
structure Sv (sv : V) : Prop where
  self : IsV sv sv true
  str : ∀ x, IsV (.str x) sv false
  ne : sv ≠ .undef

structure J1 (p : List (_root_.Fin 6)) (sv : V) (ra : Addr) (σ : St) (dn : List (_root_.Fin 6)) : Prop where
  a1 : σ.loc.lookup (Str.ofString "i") = some (.int (txt dn).length)
  a2 : σ.loc.lookup (Str.ofString "n") = some (.int (txt p).length)
  a3 : σ.loc.lookup (Str.ofString "pat") = some (.str (S (txt p)))
  a4 : σ.loc.lookup (Str.ofString "STAR") = some sv
  a5 : σ.loc.lookup (Str.ofString "QUESTION_MARK") = some (.str (S [46]))
  a6 : σ.loc.lookup (Str.ofString "add") = some (.meth ra)
  a7 : σ.loc.lookup (Str.ofString "res") = some (.own ra)
  a8 : (ra, (pcs dn).map (pv sv)) ∈ σ.own
theorem six (x : _root_.Fin 6) : x = 0 ∨ x = 1 ∨ x = 2 ∨ x = 3 ∨ x = 4 ∨ x = 5 := by revert x; decide
theorem bb {a b : List Nat} {p q : Prop} (h : brK (decide (a = b)) p q) : brK (S a == S b) p q := by rw [S_beq]; exact h
theorem lit_star : Str.ofString "*" = S [42] := by decide +kernel
theorem lit_q : Str.ofString "?" = S [63] := by decide +kernel
theorem lit_lb : Str.ofString "[" = S [91] := by decide +kernel
theorem lit_rb : Str.ofString "]" = S [93] := by decide +kernel
theorem lit_ex : Str.ofString "!" = S [33] := by decide +kernel
theorem lit_hat : Str.ofString "^" = S [94] := by decide +kernel

structure J2 (p : List (_root_.Fin 6)) (sv : V) (ra : Addr) (σ : St) (dn : List (_root_.Fin 6)) : Prop where
  a1 : σ.loc.lookup (Str.ofString "i") = some (.int ((txt dn).length + 1))
  a2 : σ.loc.lookup (Str.ofString "n") = some (.int (txt p).length)
  a3 : σ.loc.lookup (Str.ofString "pat") = some (.str (S (txt p)))
  a4 : σ.loc.lookup (Str.ofString "STAR") = some sv
  a5 : σ.loc.lookup (Str.ofString "QUESTION_MARK") = some (.str (S [46]))
  a6 : σ.loc.lookup (Str.ofString "add") = some (.meth ra)
  a7 : σ.loc.lookup (Str.ofString "res") = some (.own ra)
  a8 : (ra, (pcs dn).map (pv sv)) ∈ σ.own
theorem J2.put {p : List (_root_.Fin 6)} {sv : V} {ra : Addr} {σ : St} {dn : List (_root_.Fin 6)} (j : J2 p sv ra σ dn) {x : Str} {v : V} (hx : x = Str.ofString "j" ∨ x = Str.ofString "stuff") : J2 p sv ra { σ with loc := (x, v) :: σ.loc } dn := by
  rcases hx with rfl | rfl <;>
  exact ⟨lk_miss (by decide) j.a1, lk_miss (by decide) j.a2, lk_miss (by decide) j.a3, lk_miss (by decide) j.a4, lk_miss (by decide) j.a5, lk_miss (by decide) j.a6, lk_miss (by decide) j.a7, j.a8⟩
theorem nb {a b : List Nat} {p q : Prop} (h : brK (decide (a ≠ b)) p q) : brK (S a != S b) p q := by
  have : (S a != S b) = decide (a ≠ b) := by
    show (!(S a == S b)) = _
    rw [S_beq]; simp
  rw [this]; exact h
theorem lit_dash (l : List Nat) (h : Bare l) : Txt.contains (S l) (Str.ofString "-") = false := by rcases h with rfl | rfl <;> decide +kernel
theorem lit_rep (l : List Nat) (h : Bare l) : Txt.replace (S l) (Str.ofString "\\") (Str.ofString "\\\\") = S l := by rcases h with rfl | rfl <;> decide +kernel
set_option maxRecDepth 4000 in
set_option maxHeartbeats 4000000 in
theorem T_cut (p : List (_root_.Fin 6)) (hp : p.length ≤ 100) {sv : V} (hs : Sv sv) {X : Act} {σ : St} {K : V → St → Prop} (hv : 2 ≤ X.lvl) (hh : X.A.handled = none) (hlp : X.lamPos = ⟨87, 39, 87, 76⟩) (hlq : X.lamQual = Str.ofString "_translate" ++ ".<locals>." ++ "<lambda>") (h : K (.lst ((pcs p).map (pv sv))) σ) :
    OpN X (fun vals => call (.ref 84) vals) [.str (S (txt p)), sv, .str (S [46])] σ K := by
  refine O_call (f := 84) [Str.ofString "pat", Str.ofString "STAR", Str.ofString "QUESTION_MARK"] (fun Y L hc => ?_) (by omega) rfl rfl rfl (by kernel_rfl) rfl (fun vals e => ?_) (by decide +kernel) (by decide +kernel) rfl rfl rfl rfl rfl rfl
  · have hsc := hc.sc
    conv at hsc => rhs; whnf
    conv in bodyOf _ => whnf
    have hh' := hc.hd
    have hlv := hc.lvl
    have hne := hs.ne
    rw [hh] at hh'
    change Ex Y _ ⟨(Str.ofString "QUESTION_MARK", _) :: (Str.ofString "STAR", _) :: (Str.ofString "pat", _) :: [], _, _, _⟩ _
    have hpl := txt_len p
    refine Ex_cons (Ex_assign (Ev_listO (Evs_nil ⟨Nat.zero_le _, fun ra _ => seqK_next (Ex_cons (Ex_assign (Ev_bound (Ev_nameL ⟨ra, _, rfl, List.mem_cons_self, ?_⟩))))⟩)))
    refine seqK_next (Ex_cons (Ex_assignT (x := Str.ofString "i") (y := Str.ofString "n") hh' (Ev_tuple (Evs_cons (Ev_int (Evs_cons (Ev_callB "len" (Ev_builtin ⟨rfl, Evs_cons (Ev_nameL (Evs_nil (O_lenS ?_ (Evs_nil ⟨two_le, ⟨_, _, rfl, ?_⟩⟩))))⟩))))))))
    · rw [S_len, sizeLine_eq]; omega
    rw [S_len]
    refine seqK_next (Ex_cons (Ex_whileX (fun m σ => ∃ dn rest, m = rest.length ∧ p = dn ++ rest ∧ J1 p sv ra σ dn) (fun σ => J1 p sv ra σ p) p.length
      ⟨[], p, rfl, rfl, ⟨lk_hit, lk_miss (by decide) lk_hit, lk_miss (by decide) (lk_miss (by decide) (lk_miss (by decide) (lk_miss (by decide) (lk_miss (by decide) (lk_miss (by decide) lk_hit))))), lk_miss (by decide) (lk_miss (by decide) (lk_miss (by decide) (lk_miss (by decide) (lk_miss (by decide) lk_hit)))), lk_miss (by decide) (lk_miss (by decide) (lk_miss (by decide) (lk_miss (by decide) lk_hit))), lk_miss (by decide) (lk_miss (by decide) lk_hit), lk_miss (by decide) (lk_miss (by decide) (lk_miss (by decide) lk_hit)), List.mem_cons_self⟩⟩ ?_ ?_))
    · rintro m σ₁ ⟨dn, rest, rfl, rfl, ⟨a1, a2, a3, a4, a5, a6, a7, a8⟩⟩
      refine Tr_cmp (Ev_nameL (Ev_nameL (O_ltI (B_bool (brK_split (fun hc' => ?_) (fun hc' => ?_))))))
      rotate_left
      · cases rest with
        | nil => rw [List.append_nil] at *; exact ⟨a1, a2, a3, a4, a5, a6, a7, a8⟩
        | cons x r =>
          have := tk_len x
          have hle : (txt dn).length < (txt (dn ++ x :: r)).length := by rw [txt_app, txt_cons]; simp only [List.length_append]; omega
          have hle' : ((txt dn).length : Int) < (txt (dn ++ x :: r)).length := by omega
          rw [decide_eq_true hle'] at hc'; cases hc'
      cases rest with
      | nil => rw [List.append_nil] at hc'; simp at hc'
      | cons x r =>
      have hpc := pcs_len dn
      have hdl : dn.length ≤ 100 := by rw [List.length_append] at hp; omega
      have g : ∀ (j c : Nat), (tk x)[j]? = some c → (txt (dn ++ x :: r))[(txt dn).length + j]? = some c := by
        intro j c hj
        rw [txt_app, txt_cons, List.getElem?_append_right (by omega), Nat.add_sub_cancel_left, List.getElem?_append_left (List.getElem?_eq_some_iff.mp hj).1]
        exact hj
      have hlen : (txt (dn ++ x :: r)).length = (txt dn).length + ((tk x).length + (txt r).length) := by rw [txt_app, txt_cons]; simp
      have htx := tk_len x
      obtain ⟨c0, hc0⟩ : ∃ c0, (tk x)[0]? = some c0 := ⟨_, List.getElem?_eq_getElem htx.1⟩
      have g0 := g 0 c0 hc0
      have hp4 : (txt (dn ++ x :: r)).length ≤ 400 := by omega
      refine Ex_cons (Ex_assign (Ev_sub (Ev_nameL (Ev_nameL (O_itemS (y := S [c0]) ?_ ?_ ?_ (item_S g0) ?_)))))
      · rw [S_len]; omega
      · rw [S_len]; omega
      · unfold fitsSsize; simp; omega
      refine seqK_next (Ex_cons (Ex_assign (Ev_bin (Ev_nameL (Ev_int (O_addI (seqK_next (Ex_cons ?_))))))))
      have fin : ∀ σ' : St, σ'.loc.lookup (Str.ofString "i") = some (.int (txt (dn ++ [x])).length) → σ'.loc.lookup (Str.ofString "n") = some (.int (txt (dn ++ x :: r)).length) → σ'.loc.lookup (Str.ofString "pat") = some (.str (S (txt (dn ++ x :: r)))) →
          σ'.loc.lookup (Str.ofString "STAR") = some sv → σ'.loc.lookup (Str.ofString "QUESTION_MARK") = some (.str (S [46])) → σ'.loc.lookup (Str.ofString "add") = some (.meth ra) → σ'.loc.lookup (Str.ofString "res") = some (.own ra) →
          (ra, (step (pcs dn) x).map (pv sv)) ∈ σ'.own → ∃ m, m < (x :: r).length ∧ ∃ dn' rest', m = rest'.length ∧ dn ++ x :: r = dn' ++ rest' ∧ J1 (dn ++ x :: r) sv ra σ' dn' :=
        fun σ' b1 b2 b3 b4 b5 b6 b7 b8 => ⟨r.length, by simp, dn ++ [x], r, rfl, by simp, ⟨b1, b2, b3, b4, b5, b6, b7, by rw [pcs_snoc]; exact b8⟩⟩
      have e1 : (tk x).length = 1 → ((txt (dn ++ [x])).length : Int) = (txt dn).length + 1 := fun h => by rw [txt_app, txt_cons]; simp [txt, catL, h]
      have kp : ∀ {y : Str} {v u w : V} {l : List (Str × V)}, (y == Str.ofString "i") = false → (y == Str.ofString "c") = false → List.lookup y l = some w → List.lookup y ((Str.ofString "i", v) :: (Str.ofString "c", u) :: l) = some w := fun h1 h2 h3 => lk_miss h1 (lk_miss h2 h3)
      rcases six x with rfl | rfl | rfl | rfl | rfl | rfl
      · obtain rfl : 42 = c0 := by simpa [tk] using hc0
        refine Ex_if (Tr_cmp (Ev_nameL (Ev_str (O_eqS (B_bool ?_)))))
        rw [lit_star]
        refine bb (brK_of_t (by decide) ?_)
        refine Ex_cons (Ex_if (Tr_or (Tr_not (Tr_any rfl (Ev_nameL (B_list (.own a8) ?_ ?_))))))
        · rw [List.length_map, sizeLine_eq]; omega
        by_cases hz : (pcs dn).getLast? = some 0
        · have hne0 : pcs dn ≠ [] := fun e => by rw [e] at hz; cases hz
          have hlp : 0 < (pcs dn).length := List.length_pos_iff.mpr hne0
          refine brK_of_f (by simp [hne0]) (Tr_or (Tr_cmp (Ev_sub (Ev_nameL (Ev_una (Ev_int (O_neg (O_itemLn (.own a8) (by omega) ?_ (by omega) (v := sv) ?_ (Ev_nameL (O_isNot hs.self (B_bool (brK_f (Tr_or0 (brK_f ?_)))))))))))))) 
          · rw [List.length_map]; omega
          · rw [List.length_map, show ((-1 : Int) + ((pcs dn).length : Nat)).toNat = (pcs dn).length - 1 by omega, List.getElem?_map, ← List.getLast?_eq_getElem?, hz]; rfl
          · refine Ex_nil (seqK_next (Ex_nil (seqK_next (Ex_nil (fin _ ?_ (kp (by decide) (by decide) a2) (kp (by decide) (by decide) a3) (kp (by decide) (by decide) a4) (kp (by decide) (by decide) a5) (kp (by decide) (by decide) a6) (kp (by decide) (by decide) a7) ?_)))))
            · rw [e1 rfl]; exact lk_hit
            · simpa [step, hz] using a8
        · have hstep : step (pcs dn) 0 = pcs dn ++ [0] := by simp [step, hz]
          obtain ⟨own', O, hm'⟩ := OwnSet.of_mem (vs' := (pcs dn).map (pv sv) ++ [sv]) a8
          by_cases hne0 : pcs dn = []
          · refine brK_of_t (by simp [hne0]) (brK_t ?_)
            refine Ex_cons (Ex_expr (Ev_callM (Ev_nameL ⟨ra, rfl, Ev_nameL ⟨_, own', O, ?_, rfl, ?_⟩⟩)))
            · rw [List.length_map, sizeLine_eq]; omega
            repeat refine seqK_next (Ex_nil ?_)
            refine (fin _ ?_ (kp (by decide) (by decide) a2) (kp (by decide) (by decide) a3) (kp (by decide) (by decide) a4) (kp (by decide) (by decide) a5) (kp (by decide) (by decide) a6) (kp (by decide) (by decide) a7) ?_)
            · rw [e1 rfl]; exact lk_hit
            · rw [hstep]; simpa [pv] using hm'
          · have hlp : 0 < (pcs dn).length := List.length_pos_iff.mpr hne0
            obtain ⟨y, hy⟩ : ∃ y, (pcs dn).getLast? = some y := by
              cases e : (pcs dn).getLast? with
              | none => exact absurd (List.getLast?_eq_none_iff.mp e) hne0
              | some y => exact ⟨y, rfl⟩
            have hy0 : y ≠ 0 := fun e => hz (e ▸ hy)
            refine brK_of_f (by simp [hne0]) (Tr_or (Tr_cmp (Ev_sub (Ev_nameL (Ev_una (Ev_int (O_neg (O_itemLn (.own a8) (by omega) ?_ (by omega) (v := .str (S (pl y))) ?_ (Ev_nameL (O_isNot (hs.str _) (B_bool (brK_t (brK_t ?_)))))))))))))
            · rw [List.length_map]; omega
            · rw [List.length_map, show ((-1 : Int) + ((pcs dn).length : Nat)).toNat = (pcs dn).length - 1 by omega, List.getElem?_map, ← List.getLast?_eq_getElem?, hy, ← pv_else (sv := sv) hy0]; rfl
            refine Ex_cons (Ex_expr (Ev_callM (Ev_nameL ⟨ra, rfl, Ev_nameL ⟨_, own', O, ?_, rfl, ?_⟩⟩)))
            · rw [List.length_map, sizeLine_eq]; omega
            repeat refine seqK_next (Ex_nil ?_)
            refine (fin _ ?_ (kp (by decide) (by decide) a2) (kp (by decide) (by decide) a3) (kp (by decide) (by decide) a4) (kp (by decide) (by decide) a5) (kp (by decide) (by decide) a6) (kp (by decide) (by decide) a7) ?_)
            · rw [e1 rfl]; exact lk_hit
            · rw [hstep]; simpa [pv] using hm'
      · obtain rfl : 63 = c0 := by simpa [tk] using hc0
        refine Ex_if (Tr_cmp (Ev_nameL (Ev_str (O_eqS (B_bool ?_)))))
        rw [lit_star]
        refine bb (brK_of_f (by decide) (Ex_cons (Ex_if (Tr_cmp (Ev_nameL (Ev_str (O_eqS (B_bool ?_))))))))
        rw [lit_q]
        refine bb (brK_of_t (by decide) ?_)
        obtain ⟨own', O, hm'⟩ := OwnSet.of_mem (vs' := (pcs dn).map (pv sv) ++ [.str (S [46])]) a8
        refine Ex_cons (Ex_expr (Ev_callM (Ev_nameL ⟨ra, rfl, Ev_nameL ⟨_, own', O, ?_, rfl, ?_⟩⟩)))
        · rw [List.length_map, sizeLine_eq]; omega
        refine seqK_next (Ex_nil (seqK_next (Ex_nil (seqK_next (Ex_nil (fin _ ?_ (lk_miss (by decide) (lk_miss (by decide) a2)) (lk_miss (by decide) (lk_miss (by decide) a3)) (lk_miss (by decide) (lk_miss (by decide) a4)) (lk_miss (by decide) (lk_miss (by decide) a5)) (lk_miss (by decide) (lk_miss (by decide) a6)) (lk_miss (by decide) (lk_miss (by decide) a7)) ?_))))))
        · rw [e1 rfl]; exact lk_hit
        · simpa [step, pv, pst, pl] using hm'
      · obtain rfl : 97 = c0 := by simpa [tk] using hc0
        refine Ex_if (Tr_cmp (Ev_nameL (Ev_str (O_eqS (B_bool ?_)))))
        rw [lit_star]
        refine bb (brK_of_f (by decide) (Ex_cons (Ex_if (Tr_cmp (Ev_nameL (Ev_str (O_eqS (B_bool ?_))))))))
        rw [lit_q]
        refine bb (brK_of_f (by decide) (Ex_cons (Ex_if (Tr_cmp (Ev_nameL (Ev_str (O_eqS (B_bool ?_))))))))
        rw [lit_lb]
        refine bb (brK_of_f (by decide) ?_)
        obtain ⟨own', O, hm'⟩ := OwnSet.of_mem (vs' := (pcs dn).map (pv sv) ++ [.str (S [97])]) a8
        refine Ex_cons (Ex_expr (Ev_callM (Ev_nameL ⟨ra, rfl, Ev_callF 77 (Ev_global ⟨rfl, Evs_cons (Ev_nameL (Evs_nil (T_escape (c := [97]) (r := [97]) (by left; exact ⟨rfl, rfl⟩) (by omega) hh' ⟨_, own', O, ?_, rfl, ?_⟩)))⟩)⟩)))
        · rw [List.length_map, sizeLine_eq]; omega
        refine seqK_next (Ex_nil (seqK_next (Ex_nil (seqK_next (Ex_nil (seqK_next (Ex_nil (fin _ ?_ (kp (by decide) (by decide) a2) (kp (by decide) (by decide) a3) (kp (by decide) (by decide) a4) (kp (by decide) (by decide) a5) (kp (by decide) (by decide) a6) (kp (by decide) (by decide) a7) ?_))))))))
        · rw [e1 rfl]; exact lk_hit
        · simpa [step, pv, pst, pl] using hm'
      · obtain rfl : 91 = c0 := Option.some.inj (show some 91 = some c0 from hc0)
        refine Ex_if (Tr_cmp (Ev_nameL (Ev_str (O_eqS (B_bool ?_)))))
        rw [lit_star]
        refine bb (brK_of_f (by decide) (Ex_cons (Ex_if (Tr_cmp (Ev_nameL (Ev_str (O_eqS (B_bool ?_))))))))
        rw [lit_q]
        refine bb (brK_of_f (by decide) (Ex_cons (Ex_if (Tr_cmp (Ev_nameL (Ev_str (O_eqS (B_bool ?_))))))))
        rw [lit_lb]
        refine bb (brK_of_t (by decide) ?_)
        have q1 := g 1 97 rfl
        have q2 := g 2 98 rfl
        have q3 := g 3 93 rfl
        have hlt : (txt dn).length + 4 ≤ (txt (dn ++ 3 :: r)).length := by rw [hlen, show (tk 3).length = 4 from rfl]; omega
        have hfit : ∀ z : Int, 0 ≤ z → z ≤ 400 → fitsSsize z = true := fun z h1 h2 => by unfold fitsSsize; simp; omega
        refine Ex_cons (Ex_assign (Ev_nameL (seqK_next (Ex_cons (Ex_if (Tr_and (Tr_cmp (Ev_nameL (Ev_nameL (O_ltI (B_bool (brK_of_t (decide_eq_true ?_) ?_))))))))))))
        · omega
        refine Tr_and (Tr_cmp (Ev_sub (Ev_nameL (Ev_nameL (O_itemS (y := S [97]) ?_ ?_ ?_ (item_Z (i := (txt dn).length + 1) ?_ q1) (Ev_str (O_eqS (B_bool ?_))))))))
        · rw [S_len]; omega
        · rw [S_len]; omega
        · exact hfit _ (by omega) (by omega)
        · omega
        rw [lit_ex]
        refine bb (brK_of_f (by decide) (brK_f (Ex_nil (seqK_next ?_))))
        refine Ex_cons (Ex_if (Tr_and (Tr_cmp (Ev_nameL (Ev_nameL (O_ltI (B_bool (brK_of_t (decide_eq_true ?_) ?_))))))))
        · omega
        refine Tr_and (Tr_cmp (Ev_sub (Ev_nameL (Ev_nameL (O_itemS (y := S [97]) ?_ ?_ ?_ (item_Z (i := (txt dn).length + 1) ?_ q1) (Ev_str (O_eqS (B_bool ?_))))))))
        · rw [S_len]; omega
        · rw [S_len]; omega
        · exact hfit _ (by omega) (by omega)
        · omega
        rw [lit_rb]
        refine bb (brK_of_f (by decide) (brK_f (Ex_nil (seqK_next ?_))))
        refine Ex_cons (Ex_whileX (fun m σ => ∃ k : Nat, k ≤ 2 ∧ m = 2 - k ∧ σ.loc.lookup (Str.ofString "j") = some (.int ((txt dn).length + 1 + k)) ∧ J2 (dn ++ 3 :: r) sv ra σ dn)
          (fun σ => σ.loc.lookup (Str.ofString "j") = some (.int ((txt dn).length + 3)) ∧ J2 (dn ++ 3 :: r) sv ra σ dn) 2 ⟨0, by omega, rfl, (by rw [show (((txt dn).length : Int) + 1 + ((0 : Nat) : Int)) = (txt dn).length + 1 by omega]; exact lk_hit), ⟨lk_miss (by decide) lk_hit, lk_miss (by decide) (kp (by decide) (by decide) a2), lk_miss (by decide) (kp (by decide) (by decide) a3), lk_miss (by decide) (kp (by decide) (by decide) a4), lk_miss (by decide) (kp (by decide) (by decide) a5), lk_miss (by decide) (kp (by decide) (by decide) a6), lk_miss (by decide) (kp (by decide) (by decide) a7), a8⟩⟩ ?_ ?_)
        · rintro m σ₂ ⟨k, hk, rfl, hj, b⟩
          have b1 := b.a1
          have b2 := b.a2
          have b3 := b.a3
          refine Tr_and (Tr_cmp (Ev_nameL (Ev_nameL (O_ltI (B_bool (brK_of_t (decide_eq_true ?_) ?_))))))
          · omega
          obtain ⟨ck, hck, hne⟩ : ∃ ck, (txt (dn ++ 3 :: r))[(txt dn).length + 1 + k]? = some ck ∧ (decide ([ck] ≠ [93]) = decide (k < 2)) := by
            rcases (by omega : k = 0 ∨ k = 1 ∨ k = 2) with rfl | rfl | rfl
            · exact ⟨_, q1, by decide⟩
            · exact ⟨_, q2, by decide⟩
            · exact ⟨_, q3, by decide⟩
          refine Tr_and (Tr_cmp (Ev_sub (Ev_nameL (Ev_nameL (O_itemS (y := S [ck]) ?_ ?_ ?_ (item_Z (i := (txt dn).length + 1 + k) ?_ hck) (Ev_str (O_neS (B_bool ?_))))))))
          · rw [S_len]; omega
          · rw [S_len]; omega
          · exact hfit _ (by omega) (by omega)
          · omega
          refine nb ?_
          rw [hne]
          refine brK_split (fun hk2 => ?_) (fun hk2 => ?_)
          · have hk3 : k < 2 := by simpa using hk2
            refine Tr_and0 (brK_t (Ex_cons (Ex_assign (Ev_bin (Ev_nameL (Ev_int (O_addI (seqK_next (Ex_nil (loopK_next (2 - (k + 1)) (by omega) ⟨k + 1, by omega, rfl, ?_, b.put (.inl rfl)⟩))))))))))
            have e : ((txt dn).length : Int) + 1 + ((k + 1 : Nat) : Int) = (txt dn).length + 1 + k + 1 := by omega
            rw [e]; exact lk_hit
          · have hk4 : ¬ k < 2 := by simpa using hk2
            have hk3 : k = 2 := by omega
            subst hk3
            exact brK_f ⟨hj, b⟩
        · rintro σ₂ ⟨hj, b⟩
          have b1 := b.a1
          have b2 := b.a2
          have b3 := b.a3
          have bare : Bare [97, 98] := .inl rfl
          have hpk : pick (txt (dn ++ 3 :: r)) (some (((txt dn).length + 1 : Nat) : Int)) (some (((txt dn).length + 3 : Nat) : Int)) = [97, 98] := by
            rw [pick_run' _ _ _ (by omega), show (txt dn).length + 3 - ((txt dn).length + 1) = 2 by omega, drop_next q1, drop_next q2]
            rfl
          refine seqK_next (Ex_cons (Ex_if (Tr_cmp (Ev_nameL (Ev_nameL (O_geI (B_bool (brK_of_f (decide_eq_false ?_) ?_))))))))
          · omega
          refine Ex_cons (Ex_assign (Ev_sliceS (Ev_nameL (EvP_some (Ev_nameL ⟨_, rfl, EvP_some (Ev_nameL ⟨_, rfl, ⟨_, rfl, ?_, ?_⟩⟩)⟩)))))
          · rw [sizeLine_eq]; omega
          have e1' : (((txt dn).length : Int) + 1) = (((txt dn).length + 1 : Nat) : Int) := by omega
          have e3' : (((txt dn).length : Int) + 3) = (((txt dn).length + 3 : Nat) : Int) := by omega
          rw [e1', e3', hpk]
          refine seqK_next (Ex_cons (Ex_dash (lit_dash _ bare) (by decide) (by rw [S_len]; decide) ?_))
          rw [lit_rep _ bare]
          refine seqK_next (Ex_cons (Ex_assign (Ev_sub58 bare (Ev_global ⟨rfl, Ev_lambda ⟨rfl, Ev_nameL ⟨rfl, ?_⟩⟩ hc.code (hc.lp.trans hlp) (by rw [hc.lq, hlq, hc.qual])⟩))))
          refine seqK_next (Ex_cons (Ex_assign (Ev_bin (Ev_nameL (Ev_int (O_addI (seqK_next (Ex_cons (Ex_if (Tr_not (Tr_any rfl (Ev_nameL (B_str ?_ ?_)))))))))))))
          · decide
          refine brK_of_f (by decide) (Ex_cons (Ex_if (Tr_cmp (Ev_nameL (Ev_str (O_eqS (B_bool ?_)))))))
          refine bb (brK_of_f (by decide) ?_)
          refine Ex_cons (Ex_if (Tr_cmp (Ev_sub (Ev_nameL (Ev_int (O_itemS (y := S [97]) ?_ ?_ ?_ (item_Z (i := 0) ?_ ?_) (Ev_str (O_eqS (B_bool ?_)))))))))
          · decide
          · decide
          · decide
          · rfl
          · rfl
          refine bb (brK_of_f (by decide) (Ex_cons (Ex_if (Tr_cmp (Ev_sub (Ev_nameL (Ev_int (O_itemS (y := S [97]) ?_ ?_ ?_ (item_Z (i := 0) ?_ ?_) (Ev_tuple (Evs_cons (Ev_str (Evs_cons (Ev_str (Evs_nil ⟨two_le, O_inT (ys := [Str.ofString "^", S [91]]) (B_bool ?_)⟩))))))))))))))
          · decide
          · decide
          · decide
          · rfl
          · rfl
          refine brK_of_f (by decide +kernel) (Ex_nil (seqK_next (Ex_nil (seqK_next ?_))))
          obtain ⟨own', O, hm'⟩ := OwnSet.of_mem (vs' := (pcs dn).map (pv sv) ++ [.str (((Str.empty ++ S [91]) ++ S [97, 98]) ++ S [93])]) b.a8
          refine Ex_cons (Ex_expr (Ev_callM (Ev_nameL (hl := (lk_miss (by decide) (lk_miss (by decide) (lk_miss (by decide) (lk_miss (by decide) b.a6))))) ⟨ra, rfl, Ev_fstr (Jn_cons (Ev_str ⟨_, rfl, ?_, Jn_cons (Ev_field (Ev_nameL ⟨_, rfl, ?_, _, rfl, ?_, Jn_consE (Jn_cons (Ev_str ⟨_, rfl, ?_, Jn_nilE ?_ ⟨_, own', O, ?_, rfl, ?_⟩⟩))⟩))⟩))⟩)))
          case refine_6 => rw [List.length_map, sizeLine_eq]; omega
          case refine_7 =>
            repeat refine seqK_next (Ex_nil ?_)
            refine (fin _ ?_ (lk_miss (by decide) (lk_miss (by decide) (lk_miss (by decide) (lk_miss (by decide) b.a2)))) (lk_miss (by decide) (lk_miss (by decide) (lk_miss (by decide) (lk_miss (by decide) b.a3)))) (lk_miss (by decide) (lk_miss (by decide) (lk_miss (by decide) (lk_miss (by decide) b.a4)))) (lk_miss (by decide) (lk_miss (by decide) (lk_miss (by decide) (lk_miss (by decide) b.a5)))) (lk_miss (by decide) (lk_miss (by decide) (lk_miss (by decide) (lk_miss (by decide) b.a6)))) (lk_miss (by decide) (lk_miss (by decide) (lk_miss (by decide) (lk_miss (by decide) b.a7)))) ?_)
            · rw [show ((txt (dn ++ [3])).length : Int) = (txt dn).length + 3 + 1 by rw [txt_app, List.length_append, show (txt [3]).length = 4 from rfl]; omega]; exact lk_hit
            · have hst : step (pcs dn) 3 = pcs dn ++ [3] := by simp [step]
              rw [hst, List.map_append]
              rw [empty_S, S_app, S_app, S_app] at hm'
              exact hm'
          all_goals decide
      · obtain rfl : 91 = c0 := Option.some.inj (show some 91 = some c0 from hc0)
        refine Ex_if (Tr_cmp (Ev_nameL (Ev_str (O_eqS (B_bool ?_)))))
        rw [lit_star]
        refine bb (brK_of_f (by decide) (Ex_cons (Ex_if (Tr_cmp (Ev_nameL (Ev_str (O_eqS (B_bool ?_))))))))
        rw [lit_q]
        refine bb (brK_of_f (by decide) (Ex_cons (Ex_if (Tr_cmp (Ev_nameL (Ev_str (O_eqS (B_bool ?_))))))))
        rw [lit_lb]
        refine bb (brK_of_t (by decide) ?_)
        have q1 := g 1 33 rfl
        have q2 := g 2 98 rfl
        have q3 := g 3 93 rfl
        have hlt : (txt dn).length + 4 ≤ (txt (dn ++ 4 :: r)).length := by rw [hlen, show (tk 4).length = 4 from rfl]; omega
        have hfit : ∀ z : Int, 0 ≤ z → z ≤ 400 → fitsSsize z = true := fun z h1 h2 => by unfold fitsSsize; simp; omega
        refine Ex_cons (Ex_assign (Ev_nameL (seqK_next (Ex_cons (Ex_if (Tr_and (Tr_cmp (Ev_nameL (Ev_nameL (O_ltI (B_bool (brK_of_t (decide_eq_true ?_) ?_))))))))))))
        · omega
        refine Tr_and (Tr_cmp (Ev_sub (Ev_nameL (Ev_nameL (O_itemS (y := S [33]) ?_ ?_ ?_ (item_Z (i := (txt dn).length + 1) ?_ q1) (Ev_str (O_eqS (B_bool ?_))))))))
        · rw [S_len]; omega
        · rw [S_len]; omega
        · exact hfit _ (by omega) (by omega)
        · omega
        rw [lit_ex]
        refine bb (brK_of_t (by decide) (Tr_and0 (brK_t (Ex_cons (Ex_assign (Ev_bin (Ev_nameL (Ev_int (O_addI (seqK_next (Ex_nil (seqK_next ?_))))))))))))
        refine Ex_cons (Ex_if (Tr_and (Tr_cmp (Ev_nameL (Ev_nameL (O_ltI (B_bool (brK_of_t (decide_eq_true ?_) ?_))))))))
        · omega
        refine Tr_and (Tr_cmp (Ev_sub (Ev_nameL (Ev_nameL (O_itemS (y := S [98]) ?_ ?_ ?_ (item_Z (i := (txt dn).length + 2) ?_ q2) (Ev_str (O_eqS (B_bool ?_))))))))
        · rw [S_len]; omega
        · rw [S_len]; omega
        · exact hfit _ (by omega) (by omega)
        · omega
        rw [lit_rb]
        refine bb (brK_of_f (by decide) (brK_f (Ex_nil (seqK_next ?_))))
        refine Ex_cons (Ex_whileX (fun m σ => ∃ k : Nat, k ≤ 2 ∧ m = 2 - k ∧ σ.loc.lookup (Str.ofString "j") = some (.int ((txt dn).length + 1 + k)) ∧ J2 (dn ++ 4 :: r) sv ra σ dn)
          (fun σ => σ.loc.lookup (Str.ofString "j") = some (.int ((txt dn).length + 3)) ∧ J2 (dn ++ 4 :: r) sv ra σ dn) 1 ⟨1, by omega, rfl, (by rw [show (((txt dn).length : Int) + 1 + ((1 : Nat) : Int)) = (txt dn).length + 1 + 1 by omega]; exact lk_hit), ⟨lk_miss (by decide) (lk_miss (by decide) lk_hit), lk_miss (by decide) (lk_miss (by decide) (kp (by decide) (by decide) a2)), lk_miss (by decide) (lk_miss (by decide) (kp (by decide) (by decide) a3)), lk_miss (by decide) (lk_miss (by decide) (kp (by decide) (by decide) a4)), lk_miss (by decide) (lk_miss (by decide) (kp (by decide) (by decide) a5)), lk_miss (by decide) (lk_miss (by decide) (kp (by decide) (by decide) a6)), lk_miss (by decide) (lk_miss (by decide) (kp (by decide) (by decide) a7)), a8⟩⟩ ?_ ?_)
        · rintro m σ₂ ⟨k, hk, rfl, hj, b⟩
          have b1 := b.a1
          have b2 := b.a2
          have b3 := b.a3
          refine Tr_and (Tr_cmp (Ev_nameL (Ev_nameL (O_ltI (B_bool (brK_of_t (decide_eq_true ?_) ?_))))))
          · omega
          obtain ⟨ck, hck, hne⟩ : ∃ ck, (txt (dn ++ 4 :: r))[(txt dn).length + 1 + k]? = some ck ∧ (decide ([ck] ≠ [93]) = decide (k < 2)) := by
            rcases (by omega : k = 0 ∨ k = 1 ∨ k = 2) with rfl | rfl | rfl
            · exact ⟨_, q1, by decide⟩
            · exact ⟨_, q2, by decide⟩
            · exact ⟨_, q3, by decide⟩
          refine Tr_and (Tr_cmp (Ev_sub (Ev_nameL (Ev_nameL (O_itemS (y := S [ck]) ?_ ?_ ?_ (item_Z (i := (txt dn).length + 1 + k) ?_ hck) (Ev_str (O_neS (B_bool ?_))))))))
          · rw [S_len]; omega
          · rw [S_len]; omega
          · exact hfit _ (by omega) (by omega)
          · omega
          refine nb ?_
          rw [hne]
          refine brK_split (fun hk2 => ?_) (fun hk2 => ?_)
          · have hk3 : k < 2 := by simpa using hk2
            refine Tr_and0 (brK_t (Ex_cons (Ex_assign (Ev_bin (Ev_nameL (Ev_int (O_addI (seqK_next (Ex_nil (loopK_next (2 - (k + 1)) (by omega) ⟨k + 1, by omega, rfl, ?_, b.put (.inl rfl)⟩))))))))))
            have e : ((txt dn).length : Int) + 1 + ((k + 1 : Nat) : Int) = (txt dn).length + 1 + k + 1 := by omega
            rw [e]; exact lk_hit
          · have hk4 : ¬ k < 2 := by simpa using hk2
            have hk3 : k = 2 := by omega
            subst hk3
            exact brK_f ⟨hj, b⟩
        · rintro σ₂ ⟨hj, b⟩
          have b1 := b.a1
          have b2 := b.a2
          have b3 := b.a3
          have bare : Bare [33, 98] := .inr rfl
          have hpk : pick (txt (dn ++ 4 :: r)) (some (((txt dn).length + 1 : Nat) : Int)) (some (((txt dn).length + 3 : Nat) : Int)) = [33, 98] := by
            rw [pick_run' _ _ _ (by omega), show (txt dn).length + 3 - ((txt dn).length + 1) = 2 by omega, drop_next q1, drop_next q2]
            rfl
          refine seqK_next (Ex_cons (Ex_if (Tr_cmp (Ev_nameL (Ev_nameL (O_geI (B_bool (brK_of_f (decide_eq_false ?_) ?_))))))))
          · omega
          refine Ex_cons (Ex_assign (Ev_sliceS (Ev_nameL (EvP_some (Ev_nameL ⟨_, rfl, EvP_some (Ev_nameL ⟨_, rfl, ⟨_, rfl, ?_, ?_⟩⟩)⟩)))))
          · rw [sizeLine_eq]; omega
          have e1' : (((txt dn).length : Int) + 1) = (((txt dn).length + 1 : Nat) : Int) := by omega
          have e3' : (((txt dn).length : Int) + 3) = (((txt dn).length + 3 : Nat) : Int) := by omega
          rw [e1', e3', hpk]
          refine seqK_next (Ex_cons (Ex_dash (lit_dash _ bare) (by decide) (by rw [S_len]; decide) ?_))
          rw [lit_rep _ bare]
          refine seqK_next (Ex_cons (Ex_assign (Ev_sub58 bare (Ev_global ⟨rfl, Ev_lambda ⟨rfl, Ev_nameL ⟨rfl, ?_⟩⟩ hc.code (hc.lp.trans hlp) (by rw [hc.lq, hlq, hc.qual])⟩))))
          refine seqK_next (Ex_cons (Ex_assign (Ev_bin (Ev_nameL (Ev_int (O_addI (seqK_next (Ex_cons (Ex_if (Tr_not (Tr_any rfl (Ev_nameL (B_str ?_ ?_)))))))))))))
          · decide
          refine brK_of_f (by decide) (Ex_cons (Ex_if (Tr_cmp (Ev_nameL (Ev_str (O_eqS (B_bool ?_)))))))
          refine bb (brK_of_f (by decide) ?_)
          refine Ex_cons (Ex_if (Tr_cmp (Ev_sub (Ev_nameL (Ev_int (O_itemS (y := S [33]) ?_ ?_ ?_ (item_Z (i := 0) ?_ ?_) (Ev_str (O_eqS (B_bool ?_)))))))))
          · decide
          · decide
          · decide
          · rfl
          · rfl
          refine bb (brK_of_t (by decide) (Ex_cons (Ex_assign (Ev_bin (Ev_str (Ev_sliceS (Ev_nameL (EvP_some (Ev_int ⟨_, rfl, EvP_none ⟨_, rfl, ?_, O_addS ?_ ?_⟩⟩)))))))))
          · decide
          · decide
          rw [lit_hat, S_app, show [94] ++ pick [33, 98] (some 1) none = [94, 98] from rfl]
          refine seqK_next (Ex_nil (seqK_next ?_))
          obtain ⟨own', O, hm'⟩ := OwnSet.of_mem (vs' := (pcs dn).map (pv sv) ++ [.str (((Str.empty ++ S [91]) ++ S [94, 98]) ++ S [93])]) b.a8
          refine Ex_cons (Ex_expr (Ev_callM (Ev_nameL (hl := (lk_miss (by decide) (lk_miss (by decide) (lk_miss (by decide) (lk_miss (by decide) (lk_miss (by decide) b.a6)))))) ⟨ra, rfl, Ev_fstr (Jn_cons (Ev_str ⟨_, rfl, ?_, Jn_cons (Ev_field (Ev_nameL ⟨_, rfl, ?_, _, rfl, ?_, Jn_consE (Jn_cons (Ev_str ⟨_, rfl, ?_, Jn_nilE ?_ ⟨_, own', O, ?_, rfl, ?_⟩⟩))⟩))⟩))⟩)))
          case refine_6 => rw [List.length_map, sizeLine_eq]; omega
          case refine_7 =>
            repeat refine seqK_next (Ex_nil ?_)
            refine (fin _ ?_ (lk_miss (by decide) (lk_miss (by decide) (lk_miss (by decide) (lk_miss (by decide) (lk_miss (by decide) b.a2))))) (lk_miss (by decide) (lk_miss (by decide) (lk_miss (by decide) (lk_miss (by decide) (lk_miss (by decide) b.a3))))) (lk_miss (by decide) (lk_miss (by decide) (lk_miss (by decide) (lk_miss (by decide) (lk_miss (by decide) b.a4))))) (lk_miss (by decide) (lk_miss (by decide) (lk_miss (by decide) (lk_miss (by decide) (lk_miss (by decide) b.a5))))) (lk_miss (by decide) (lk_miss (by decide) (lk_miss (by decide) (lk_miss (by decide) (lk_miss (by decide) b.a6))))) (lk_miss (by decide) (lk_miss (by decide) (lk_miss (by decide) (lk_miss (by decide) (lk_miss (by decide) b.a7))))) ?_)
            · rw [show ((txt (dn ++ [4])).length : Int) = (txt dn).length + 3 + 1 by rw [txt_app, List.length_append, show (txt [4]).length = 4 from rfl]; omega]; exact lk_miss (by decide) lk_hit
            · have hst : step (pcs dn) 4 = pcs dn ++ [4] := by simp [step]
              rw [hst, List.map_append]
              rw [empty_S, S_app, S_app, S_app] at hm'
              exact hm'
          all_goals decide
      · obtain rfl : 46 = c0 := by simpa [tk] using hc0
        refine Ex_if (Tr_cmp (Ev_nameL (Ev_str (O_eqS (B_bool ?_)))))
        rw [lit_star]
        refine bb (brK_of_f (by decide) (Ex_cons (Ex_if (Tr_cmp (Ev_nameL (Ev_str (O_eqS (B_bool ?_))))))))
        rw [lit_q]
        refine bb (brK_of_f (by decide) (Ex_cons (Ex_if (Tr_cmp (Ev_nameL (Ev_str (O_eqS (B_bool ?_))))))))
        rw [lit_lb]
        refine bb (brK_of_f (by decide) ?_)
        obtain ⟨own', O, hm'⟩ := OwnSet.of_mem (vs' := (pcs dn).map (pv sv) ++ [.str (S [92, 46])]) a8
        refine Ex_cons (Ex_expr (Ev_callM (Ev_nameL ⟨ra, rfl, Ev_callF 77 (Ev_global ⟨rfl, Evs_cons (Ev_nameL (Evs_nil (T_escape (c := [46]) (r := [92, 46]) (by right; exact ⟨rfl, rfl⟩) (by omega) hh' ⟨_, own', O, ?_, rfl, ?_⟩)))⟩)⟩)))
        · rw [List.length_map, sizeLine_eq]; omega
        refine seqK_next (Ex_nil (seqK_next (Ex_nil (seqK_next (Ex_nil (seqK_next (Ex_nil (fin _ ?_ (kp (by decide) (by decide) a2) (kp (by decide) (by decide) a3) (kp (by decide) (by decide) a4) (kp (by decide) (by decide) a5) (kp (by decide) (by decide) a6) (kp (by decide) (by decide) a7) ?_))))))))
        · rw [e1 rfl]; exact lk_hit
        · have hst : step (pcs dn) 5 = pcs dn ++ [5] := by simp [step]
          rw [hst, List.map_append]
          exact hm'
    · rintro σ₁ ⟨a1, a2, a3, a4, a5, a6, a7, a8⟩
      refine seqK_next (Ex_cons (Ex_assert (Tr_cmp (Ev_nameL (Ev_nameL (O_eqI (B_bool ⟨?_, ?_⟩)))))))
      · simp
      exact seqK_next (Ex_cons (Ex_return (Ev_nameL (seqK_ret ⟨_, .own a8 (.same _), h⟩))))
  · match vals, e with
    | [a, b, c], _ => rfl
end Mine
end
section
open PySem PySem.W PyProof.Rows PySem.Spec PySem.Calls
namespace Mine
theorem mro_object : mroOf (.type "object") = pure [.type "object"] := by kernel_rfl
theorem lookup_object_new : typeLookup (.type "object") "__new__" = pure (some (.builtin "object.__new__")) := by rw [typeLookup_type, builtinLookup_eq_fast]; kernel_rfl
theorem slot_object_init : Slot "object" "__init__" "object.__init__" :=
  .of (owner := "object") (n := "__init__") (by rw [typeLookup_type, builtinLookup_eq_fast]; kernel_rfl) (by decide +kernel) (by decide +kernel) (by decide +kernel)
    (by first | exact .inl (by decide +kernel) | exact .inr (by decide +kernel)) (by rw [isSubtype_type]; kernel_rfl)
theorem called_object : TypeCalled "object" "object.__new__" "object.__init__" :=
  ⟨by decide +kernel, by decide +kernel, ⟨_, _, mro_object⟩, madeBy_type mro_object lookup_object_new (by decide +kernel), by decide +kernel, by rw [isSubtype_type]; kernel_rfl, slot_object_init⟩
theorem typeCall_object : checkTypeCall "object" ⟨[], []⟩ = pure () := by kernel_rfl
theorem newCall_object : checkBuiltinCall "object.__new__" ⟨[.type "object"], []⟩ = pure () := by kernel_rfl
theorem entry_object_new' : entryFor table "object.__new__" = some Builtin.«object.__new__» := entryFor_of_tree (by kernel_rfl)
theorem entry_object_init' : entryFor table "object.__init__" = some Builtin.«object.__init__» := entryFor_of_tree (by kernel_rfl)
theorem plain_object_new : plainId "object.__new__" = true := by decide +kernel
section
variable {prog : Program} {w : World} {A : Around} {E : Value → Shared → Prop} {s : Shared}
abbrev plainObj : Obj := { cls := .type "object", data := .plain }
theorem code_object_new {Q₁ : Value → Shared → Prop} (h : Q₁ (.ref s.heap.objs.size) { s with heap := s.heap.push plainObj }) :
    codeAny (model prog w) A (.call (.builtin "object.__new__") ⟨[.type "object"], []⟩) (wants Q₁ E) s := by
  refine codeAny_of_tree ?_
  show wpAny _ A.in1 (do checkBuiltinCall "object.__new__" ⟨[.type "object"], []⟩; again (.builtin "object.__new__" ⟨[.type "object"], []⟩)) _ _ s
  refine wpAny_bind (wpAny_of_eq newCall_object (wpAny_pure ⟨plainId_quiet plain_object_new _, codeAny_builtin entry_object_new' ?_⟩))
  rw [Around.under_plainId plain_object_new _]
  have f1 : ((Manifest.find? "object").elim false fun t => t.mro.any fun t => (Manifest.find? t).elim false (·.noNew)) = false := by decide +kernel
  have f2 : Bind.madeHere "object.__new__" (.type "object") = pure () := by kernel_rfl
  have f3 : typeHasDict (.type "object") = false := by kernel_rfl
  have f4 : diesByItsTypesDel "object" = false := by decide +kernel
  unfold Builtin.«object.__new__»
  refine wpAny_bind (wpAny_of_eq (a := true) (by kernel_rfl) ?_)
  refine KFB.if_not (by rfl) ?_
  refine KFB.if_not f1 ?_
  refine wpAny_bind (wpAny_of_eq f2 ?_)
  refine KFB.if_not (by rfl) ?_
  rw [f3]
  refine wpAny_bind (wpAny_pure ?_)
  refine wpAny_bind (wpAny_newObj_type ?_)
  refine KFB.if_not f4 ?_
  exact wpAny_pure h
theorem call_object {Q : Value → Shared → Prop} (h : Q (.ref s.heap.objs.size) { s with heap := s.heap.push plainObj }) : wpAny (model prog w) A (call (.type "object") []) Q E s := by
  refine callType_codes (Q₁ := fun v s' => v = .ref s.heap.objs.size ∧ s' = { s with heap := s.heap.push plainObj }) called_object typeCall_object entry_object_init' (code_object_new ⟨rfl, rfl⟩) ?_
  rintro _ _ ⟨rfl, rfl⟩
  refine ⟨⟨plainObj, Heap.get?_push_size _ rfl, rfl⟩, ?_, ?_⟩
  · unfold argsOk
    kernel_rfl
  · unfold Builtin.«object.__init__»
    refine KFB.if_not (by rfl) ?_
    exact wpAny_pure ⟨rfl, h⟩
end
section
variable {X : Act} {σ : St} {K : V → St → Prop}
theorem O_object (h : ∀ a, K (.obj a) σ) : OpN X (fun vals => call (.type "object") vals) [] σ K := by
  intro s vals Q E R i hQ
  cases i
  have z := R.push (tk := s.toks) plainObj
  exact call_object (hQ _ _ _ _ z.1 z.2 (.obj (Heap.get?_push_size _ rfl) rfl (R.fresh (Nat.le_refl _))) (h _))
end
end Mine
namespace Mine
theorem svObj (a : Addr) : Sv (.obj a) := ⟨.oo a, fun x => .so x a, by nofun⟩
theorem svNone : Sv .none := ⟨.nn, fun x => .sn x, by nofun⟩
theorem fair_pcs (p : List (_root_.Fin 6)) : Fair (pcs p) := by
  have h : ∀ (p acc : List (_root_.Fin 6)), Fair acc → Fair (p.foldl step acc) := by
    intro p
    induction p with
    | nil => intro acc h; exact h
    | cons x p ih =>
      intro acc h
      refine ih _ ?_
      unfold step
      split
      · exact h
      · rename_i hn
        intro i h0 h1
        rcases Nat.lt_trichotomy (i + 1) acc.length with hi | hi | hi
        · rw [List.getElem?_append_left (by omega)] at h0
          rw [List.getElem?_append_left hi] at h1
          exact h i h0 h1
        · rw [List.getElem?_append_left (by omega)] at h0
          rw [List.getElem?_append_right (by omega), show i + 1 - acc.length = 0 by omega] at h1
          have hx : x = 0 := by simpa using h1
          refine hn ⟨hx, ?_⟩
          rw [List.getLast?_eq_getElem?, show acc.length - 1 = i by omega]
          exact h0
        · rw [List.getElem?_append_right (by omega)] at h1
          have : i + 1 - acc.length ≠ 0 := by omega
          cases e : i + 1 - acc.length with
          | zero => exact this e
          | succ n => rw [e] at h1; simp at h1
  refine h p [] ?_
  intro i h0; simp at h0
theorem lit_dot : Str.ofString "." = S [46] := by decide +kernel
set_option maxRecDepth 20000 in
theorem T_trans (p : List (_root_.Fin 6)) (hp : p.length ≤ 100) {X : Act} {σ : St} {K : V → St → Prop} (hv : 3 ≤ X.lvl) (hh : X.A.handled = none) (hlp : X.lamPos = ⟨87, 39, 87, 76⟩) (hlq : X.lamQual = Str.ofString "_translate" ++ ".<locals>." ++ "<lambda>") (h : K (.str (S (textT (pcs p)))) σ) :
    OpN X (fun vals => call (.ref 65) vals) [.str (S (txt p))] σ K := by
  refine O_call (f := 65) [Str.ofString "pat"] (fun Y L hc => ?_) (by omega) rfl rfl rfl (by kernel_rfl) rfl (fun vals e => ?_) (by decide +kernel) (by decide +kernel) rfl rfl rfl rfl rfl rfl
  · have hsc := hc.sc
    conv at hsc => rhs; whnf
    conv in bodyOf _ => whnf
    have hh' := hc.hd
    have hlv := hc.lvl
    rw [hh] at hh'
    have hpl := pcs_len p
    change Ex Y _ ⟨(Str.ofString "pat", _) :: [], _, _, _⟩ _
    refine Ex_cons (Ex_assign (Ev_callT0 "object" (Ev_builtin ⟨rfl, O_object fun so => seqK_next ?_⟩)))
    rw [lit_dot]
    have hh1 : List.lookup (Str.ofString "pat") ((Str.ofString "STAR", V.obj so) :: (Str.ofString "pat", V.str (S (txt p))) :: []) = some (V.str (S (txt p))) := lk_miss (by decide) lk_hit
    refine Ex_cons (Ex_assign (Ev_callF 84 (Ev_global ⟨rfl, Evs_cons (Ev_nameL (hl := hh1) (Evs_cons (Ev_nameL (Evs_cons (Ev_str (Evs_nil ?_))))))⟩)))
    refine T_cut p hp (svObj so) (by omega) hh' (hc.lp.trans hlp) (hc.lq.trans hlq) (seqK_next ?_)
    refine Ex_cons (Ex_return (Ev_callF 91 (Ev_global ⟨rfl, Evs_cons (Ev_nameL (Evs_cons (Ev_nameL (Evs_nil ?_))))⟩)))
    refine T_join _ (by omega) (fair_pcs p) (by omega) hh' ?_
    exact seqK_ret ⟨_, .same _, h⟩
  · match vals, e with
    | [a], _ => rfl
end Mine
end
section
open PySem PySem.W PyProof.Rows PySem.Spec PySem.Calls
namespace Mine
section
variable {X : Act} {σ : St} {s : Shared}
/-- the activation of a comprehension -/
abbrev Act.comp (X : Act) (σ : St) (s : Shared) (scope : Scope) (cl : List (Str × Addr)) (C : Addr) : Act := { prog := X.prog, w := X.w, A := X.A, env := compEnvC scope cl C X.env, s₀ := s, mu₀ := off X σ, hb := X.hb, P := X.P, lamPos := X.lamPos, lamQual := X.lamQual, lvl := X.lvl, fr := [], mine := false }

/-- the names that a comprehension reads from around it -/
structure Frees (X : Act) (σ : St) (scope : Scope) (cl : List (Str × Addr)) (fv : List (Str × V)) : Prop where
  sub : ∀ c ∈ cl.map (·.2), c ∈ X.env.cells.map (·.2)
  nodup : (cl.map (·.2)).Nodup
  rd : ∀ y u, fv.lookup y = some u → ∃ c, cl.lookup y = some c ∧ X.env.cells.lookup y = some c ∧ σ.loc.lookup y = some u ∧ (X.env.kindOf y = some .cell ∨ X.env.kindOf y = some .free) ∧ scope.names.lookup y ≠ some .local

theorem relabel_local {scope : Scope} {env : Env} {y : Str} : ∀ {names : List (Str × NameKind)}, (names.map fun (n, k) => if (k == NameKind.free && env.scope.kind == .function && env.kindOf n == some .cell) then (n, NameKind.cell) else (n, k)).lookup y = some .local → names.lookup y = some .local
  | [], h => by simp at h
  | (n, k) :: r, h => by
    have ih := @relabel_local scope env y r
    rw [List.map_cons] at h
    dsimp only at h
    rw [List.lookup_cons]
    split at h
    · rw [List.lookup_cons] at h
      cases hx : y == n with
      | true => rw [hx] at h; cases h
      | false => rw [hx] at h; exact ih h
    · rw [List.lookup_cons] at h
      cases hx : y == n with
      | true => rw [hx] at h; exact h
      | false => rw [hx] at h; exact ih h

theorem Rep.enterC (R : Rep X σ s) {h' : Heap} {tk : Nat} {it acc C : Addr} {m : Str → Option Value} {scope : Scope} {cl : List (Str × Addr)} {fv : List (Str × V)} (F : Frees X σ scope cl fv)
    (hk : ∀ b o, s.heap.get? b = some o → h'.get? b = some o) (hns : h'.Ns C m) (hacc : PlainL h' acc #[]) (hit : Alive h' it) (h1 : s.heap.objs.size ≤ it) (h2 : s.heap.objs.size ≤ acc) (h3 : s.heap.objs.size ≤ C)
    (d1 : it ≠ acc) (d2 : it ≠ C) (d3 : C ≠ acc) (hkind : scope.kind = .function) : Rep (X.comp σ s scope cl C) ⟨fv, [(acc, [])], [C, acc], [it]⟩ { s with heap := h', toks := tk } := by
  have dead : ∀ b, s.heap.objs.size ≤ b → s.heap.get? b = none := fun b hb => Heap.get?_none_of_le hb
  have hnn : ∀ b ∈ off (X.comp σ s scope cl C) ⟨fv, [(acc, [])], [C, acc], [it]⟩, b ∈ off X σ ∨ s.heap.get? b = none := fun b hb => by
    rcases List.mem_append.mp hb with hb | hb
    · rcases List.mem_cons.mp hb with rfl | hb
      · exact .inr (dead _ h3)
      · obtain rfl := List.mem_singleton.mp hb; exact .inr (dead _ h2)
    · rcases List.mem_append.mp hb with hb | hb
      · obtain rfl := List.mem_singleton.mp hb; exact .inr (dead _ h1)
      · exact .inl hb
  have hcs : ∀ c ∈ cl.map (·.2), c < s.heap.objs.size := fun c hc => (R.clt c (F.sub c hc)).lt
  refine ⟨⟨R.ok.kin, R.ok.top, R.ok.chd, fun hm => R.ok.pc (F.sub _ hm), R.ok.room, R.ok.hbP, (fun b hb => nomatch hb), (fun b hb => nomatch hb), (fun b hb => nomatch hb), List.not_mem_nil, (fun b hb => nomatch hb), R.base, off_mu₀ R.ok.pmu, Nat.lt_of_lt_of_le R.ok.plt R.size, hkind, R.ok.glob, R.ok.blt⟩,
    ⟨h', tk, rfl⟩, fun b o _ e => hk b o e, (fun b hb => nomatch hb), (let z := R.tab.later (fun o e => hk _ o e) (fun b o _ e => hk b o e) hnn; ⟨z.tab, z.hd⟩), fun b hb => ?_, List.mem_cons_self, ⟨m, hns⟩, ?_, (fun q => nomatch q), fun a vs hm => ?_, ?_, fun c hc => ?_, R.off_lt, fun b hb => ?_⟩
  · rcases List.mem_cons.mp hb with rfl | hb
    · exact ⟨h3, let ⟨o, _, _, e, _⟩ := hns; ⟨o, e⟩⟩
    · obtain rfl := List.mem_singleton.mp hb; exact ⟨h2, let ⟨o, _, e, _⟩ := hacc; ⟨o, e⟩⟩
  · intro y u e
    obtain ⟨c, hc, hc', hl, hkd, hnl⟩ := F.rd y u e
    refine ⟨fun q => absurd (relabel_local (scope := scope) q) hnl, fun _ => ?_⟩
    obtain ⟨c₂, vo, e₂, ⟨o, ho, hd⟩, j⟩ := (R.var y u hl).cell hkd
    rw [hc'] at e₂; cases e₂
    exact ⟨c, vo, hc, ⟨o, hk _ _ ho, hd⟩, fun hu => let ⟨val, q, i⟩ := j hu; ⟨val, q, i.later (fun b o _ e => hk b o e) hnn⟩⟩
  · obtain ⟨rfl, rfl⟩ : a = acc ∧ vs = [] := by have := List.mem_singleton.mp hm; cases this; exact ⟨rfl, rfl⟩
    exact ⟨List.mem_cons_of_mem _ List.mem_cons_self, [], hacc, .nil⟩
  · refine List.nodup_cons.mpr ⟨fun hm => ?_, List.nodup_append.mpr ⟨F.nodup, by simp, fun a ha b hb q => ?_⟩⟩
    · rcases List.mem_append.mp hm with hm | hm
      · exact Nat.lt_irrefl _ (Nat.lt_of_lt_of_le (hcs _ hm) h3)
      · exact d3 (List.mem_singleton.mp hm)
    · obtain rfl := List.mem_singleton.mp hb
      exact Nat.lt_irrefl _ (Nat.lt_of_lt_of_le (q ▸ hcs _ ha) h2)
  · exact (R.clt c (F.sub c hc)).keep fun o e => hk c o e
  · obtain rfl := List.mem_singleton.mp hb
    refine ⟨h1, hit, fun hm => ?_, fun hm => Nat.lt_irrefl _ (Nat.lt_of_lt_of_le (hcs _ hm) h1)⟩
    rcases List.mem_cons.mp hm with q | hm
    · exact d2 q
    · exact d1 (List.mem_singleton.mp hm)

/-- the comprehension is over: its namespace may still be emptied -/
theorem Rep.leaveC (R : Rep X σ s) {s' : Shared} {C : Addr} (hsh : ∃ h tk, s' = { s with heap := h, toks := tk }) (hk : ∀ b o, b ≠ X.P → s.heap.get? b = some o → s'.heap.get? b = some o) (hC : s.heap.objs.size ≤ C) (hCa : Alive s'.heap C)
    (ht : TabIn X s'.heap (off X { σ with av := C :: σ.av })) : Rep X { σ with av := C :: σ.av } s' ∧ Later X σ s { σ with av := C :: σ.av } s' := by
  have hP : X.P ∈ off X σ := off_mu₀ R.ok.pmu
  have hk' : ∀ b o, b ∉ off X σ → s.heap.get? b = some o → s'.heap.get? b = some o := fun b o hb e => hk b o (fun q => hb (q ▸ hP)) e
  have hn' : ∀ b ∈ σ.mu ++ (C :: σ.av), b ∈ σ.mu ++ σ.av ∨ s.heap.get? b = none := fun b hb => by
    rcases List.mem_append.mp hb with hb | hb
    · exact .inl (List.mem_append_left _ hb)
    · rcases List.mem_cons.mp hb with rfl | hb
      · exact .inr (Heap.get?_none_of_le hC)
      · exact .inl (List.mem_append_right _ hb)
  have hn : ∀ b ∈ off X { σ with av := C :: σ.av }, b ∈ off X σ ∨ s.heap.get? b = none := off_new (σ' := { σ with av := C :: σ.av }) hn'
  have al : ∀ b, Alive s.heap b → Alive s'.heap b := fun b x => by
    by_cases q : b = X.P
    · rw [q]; exact ht.alive
    · exact x.keep fun o e => hk b o q e
  have hL : X.env.locals ≠ X.P := R.mu_ne R.lmut
  have hCc : ∀ c o, c ∈ X.env.cells.map (·.2) → s.heap.get? c = some o → s'.heap.get? c = some o := fun c o hc e => hk c o (fun q => R.ok.pc (q ▸ hc)) e
  refine ⟨⟨R.ok, ?_, fun b o hb e => hk b o (fun q => hb (.inl q)) (R.keep b o hb e), fun b hb o e => ?_, ht, fun b hb => ⟨(R.new b hb).1, al b (R.new b hb).2⟩, R.lmut, ?_, ?_, R.cmut, ?_, R.apart, fun c hc => al c (R.clt c hc), R.mlt, fun b hb => ?_⟩,
    ⟨fun b o _ hb e => hk b o (fun q => hb (.inl q)) e, hn', fun b hb => .inl hb, fun _ h => List.mem_cons_of_mem _ h, fun b hb => al b (hb.elim (fun q => (R.new b q).2) R.wildAlive)⟩⟩
  · obtain ⟨h, t, e⟩ := R.sh; obtain ⟨h', t', e'⟩ := hsh; exact ⟨h', t', by rw [e', e]⟩
  · obtain ⟨sl, q⟩ := R.frs b hb o e
    exact ⟨sl, hk b _ (fun z => R.ok.frP (z ▸ hb)) q⟩
  · obtain ⟨m, n⟩ := R.ns; exact ⟨m, n.at fun o e => hk _ o hL e⟩
  · exact fun x v e => (R.var x v e).later (fun o e => hk _ o hL e) hCc hk' hn
  · intro b vs hb
    obtain ⟨h1, vals, p, i⟩ := R.own b vs hb
    exact ⟨h1, vals, let ⟨o, n, e, r⟩ := p; ⟨o, n, hk _ o (R.mu_ne h1) e, r⟩, i.later hk' hn⟩
  · rcases List.mem_cons.mp hb with rfl | hb
    · exact ⟨Nat.le_trans R.size hC, hCa, fun hm => Nat.lt_irrefl _ (Nat.lt_of_lt_of_le (R.new _ hm).2.lt hC), fun hm => Nat.lt_irrefl _ (Nat.lt_of_lt_of_le (R.clt _ hm).lt hC)⟩
    · have z := R.avn b hb
      exact ⟨z.1, al b z.2.1, z.2.2⟩
end
end Mine
namespace Mine
section
variable {X : Act} {σ : St} {s : Shared} {KB : Bool → St → Prop}
/-- the tests of a comprehension -/
def Fs (X : Act) (ifs : List Expr) (σ : St) (KB : Bool → St → Prop) : Prop := Tr X (forIn ifs true fun c r => if r = true then do let ok ← isTrue c X.env (eval c X.env); pure (ForInStep.yield ok) else pure (ForInStep.yield r)) σ KB
theorem Fs_nil (h : KB true σ) : Fs X [] σ KB := fun s Q E R hQ => wpAny_tests_nil (hQ _ _ _ R (.refl R) h)
theorem Fs_one {c : Expr} (h : Tr X (isTrue c X.env (eval c X.env)) σ KB) : Fs X [c] σ KB := fun s Q E R hQ => wpAny_tests_one (h s _ _ R fun b σ' s' R' L' k => hQ b σ' s' R' L' k)

theorem comp_core {elt iter : Expr} {x : Str} {px : Pos} {ifs : List Expr} {scope : Scope} {cl : List (Str × Addr)} {pos : Pos} {fv : List (Str × V)} (R : Rep X σ s) {v : V} {val : Value} (iv : VIn s.heap (off X σ) v val) {vs : List V} (It : Iter X v vs)
    (hz : vs.length ≤ sizeLine) (F : Frees X σ scope cl fv) (hcell : ∀ y ∈ scope.names, y.2 ≠ .cell) (hkind : scope.kind = .function) (hx : scope.names.lookup x = some .local) (hxf : fv.lookup x = none) (outs : List (Option V)) (hlen : outs.length = vs.length)
    (turn : ∀ (C : Addr) (i : Nat) (u : V) (σY : St), vs[i]? = some u → σY.loc.lookup x = some u → (∀ y w, fv.lookup y = some w → σY.loc.lookup y = some w) →
      Fs (X.comp σ s scope cl C) ifs σY fun ok σ₁ => σ₁ = σY ∧ (if ok = true then Ev (X.comp σ s scope cl C) (eval elt (X.comp σ s scope cl C).env) σY fun r σ₂ => σ₂ = σY ∧ outs[i]? = some (some r) else outs[i]? = some none))
    {RR : Value → Addr → Result → Shared → Prop} {E : Value → Shared → Prop}
    (hRR : ∀ D C s', Rep X { σ with av := C :: σ.av } s' → Later X σ s { σ with av := C :: σ.av } s' → VIn s'.heap (off X { σ with av := C :: σ.av }) (.lst (outs.filterMap id)) (.ref D) → (∃ m, s'.heap.Ns C m) → s.heap.objs.size ≤ C → RR (.ref D) C (.ok .next) s') :
    wpAny (model X.prog X.w) X.A (pyIter val) (fun it s₂ => wpAny (model X.prog X.w) X.A (newList []) (fun acc s₃ => wpAny (model X.prog X.w) X.A (newFunctionEnv scope X.env.globals cl [] X.env.qual none .none (some X.env)) (fun cenv s₄ =>
      codeAny (model X.prog X.w) X.A (.compStart (.ListComp elt [⟨.Name x px, iter, ifs, 0⟩] scope pos) 0 it acc { cenv with scope := relabel scope X.env }) (RR acc cenv.locals) s₄) E s₃) E s₂) E s := by
  refine It σ s val _ _ R iv fun o fp P S₀ G hf W hS hG => ?_
  generalize hH1 : s.heap.push o = H1 at hS hG ⊢
  have hs1 : H1.objs.size = s.heap.objs.size + 1 := by rw [← hH1, Heap.size_push]
  refine wpAny_newObj_type (wpAny_newFunctionEnv hcell (by intro y hy; simp at hy) (fun h₁ hns₁ hsb₁ => ?_) hkind)
  dsimp only at hns₁ hsb₁ ⊢
  generalize hH2 : H1.push { cls := .type "list", dict := none, data := .seq ([] : List Value).toArray } = H2 at hns₁ hsb₁ ⊢
  have hs2 : H2.objs.size = s.heap.objs.size + 2 := by rw [← hH2, Heap.size_push, hs1]
  have k01 : ∀ b o', s.heap.get? b = some o' → H1.get? b = some o' := fun b o' e => hH1 ▸ Heap.get?_push_of_some _ e
  have q01 : s.heap.objs.size < H1.objs.size := by rw [hs1]; exact Nat.lt_succ_self _
  have q12 : H1.objs.size < H2.objs.size := by rw [hs1, hs2]; exact Nat.lt_succ_self _
  have q02 : s.heap.objs.size < H2.objs.size := Nat.lt_trans q01 q12
  have k12 : ∀ b o', H1.get? b = some o' → h₁.get? b = some o' := fun b o' e => hsb₁.extBut b o' (Nat.ne_of_lt (Nat.lt_trans (Heap.lt_size e) q12)) (Heap.get?_push_of_some _ (hH2 ▸ Heap.get?_push_of_some _ e))
  have k02 : ∀ b o', s.heap.get? b = some o' → h₁.get? b = some o' := fun b o' e => k12 b o' (k01 b o' e)
  have hacc : PlainL h₁ H1.objs.size #[] := ⟨_, 0, hsb₁.extBut _ _ (Nat.ne_of_lt q12) (Heap.get?_push_of_some _ (hH2 ▸ Heap.get?_push_size _ rfl)), rfl, rfl, rfl⟩
  have hit₀ : Alive H1 s.heap.objs.size := ⟨o, hH1 ▸ Heap.get?_push_size _ hf⟩
  have hit : Alive h₁ s.heap.objs.size := hit₀.keep fun o e => k12 _ o e
  have RY := R.enterC (tk := s.toks + ([] : List (Str × Value)).length) F k02 hns₁ hacc hit (Nat.le_refl _) (Nat.le_of_lt q01) (Nat.le_of_lt q02) (Nat.ne_of_lt q01) (Nat.ne_of_lt q02) (Ne.symm (Nat.ne_of_lt q12)) hkind
  have hS₁ : S₀ 0 h₁ := W.walks.frame _ _ _ hS fun b _ o e => k12 b o e
  have hG₁ : G h₁ (off (X.comp σ s scope cl H2.objs.size) ⟨fv, [(H1.objs.size, [])], [H2.objs.size, H1.objs.size], [s.heap.objs.size]⟩) := W.lasts _ _ _ _ (fun b o _ e => k12 b o e) (fun b hb => by
    rcases List.mem_append.mp hb with hb | hb
    · rcases List.mem_cons.mp hb with rfl | hb
      · exact .inr (Heap.get?_none_of_le (Nat.le_of_lt q12))
      · obtain rfl := List.mem_singleton.mp hb; exact .inr (Heap.get?_none_of_le (Nat.le_refl _))
    · rcases List.mem_append.mp hb with hb | hb
      · obtain rfl := List.mem_singleton.mp hb; exact .inl (off_av List.mem_cons_self)
      · rcases List.mem_append.mp hb with hb | hb
        · exact .inl (off_mu hb)
        · rcases List.mem_append.mp hb with hb | hb
          · exact .inl (off_av (List.mem_cons_of_mem _ hb))
          · exact .inl (off_mu₀ hb)) hG
  have hkx : (X.comp σ s scope cl H2.objs.size).env.kindOf x = some .local := lookup_relabel_local hx
  have stepS : ∀ {σa σb : St} {sa sb : Shared} {j : Nat}, Rep (X.comp σ s scope cl H2.objs.size) σa sa → Later (X.comp σ s scope cl H2.objs.size) σa sa σb sb → s.heap.objs.size ∈ σa.av → S₀ j sa.heap → G sa.heap (off (X.comp σ s scope cl H2.objs.size) σa) →
      S₀ j sb.heap ∧ G sb.heap (off (X.comp σ s scope cl H2.objs.size) σb) := fun {σa σb sa sb j} Ra La hit hs hg => by
    refine ⟨W.walks.frame _ _ _ hs fun b hb o e => ?_, W.lasts.later Ra La hg⟩
    rcases W.fp _ _ (off_av hit) hg b hb with q | q
    · exact La.keep b o (fun hm => (Ra.avn _ hit).2.2.1 (q ▸ hm)) (fun z => Nat.lt_irrefl _ (Nat.lt_of_lt_of_le (q ▸ Ra.wild_lt z) (Ra.avn _ hit).1)) e
    · exact La.off_keep Ra b o q e
  have loop : codeAny (model X.prog X.w) X.A (.compLoop (.ListComp elt [⟨.Name x px, iter, ifs, 0⟩] scope pos) 0 (.ref s.heap.objs.size) (.ref H1.objs.size) (compEnvC scope cl H2.objs.size X.env)) (RR (.ref H1.objs.size) H2.objs.size) { s with heap := h₁, toks := s.toks + ([] : List (Str × Value)).length } := by
    refine codeAny_compLoop_tests (fun k s' => ∃ i σ', i ≤ vs.length ∧ k = vs.length + 1 - i ∧ Rep (X.comp σ s scope cl H2.objs.size) σ' s' ∧ s.heap.objs.size ∈ σ'.av ∧ σ'.own = [(H1.objs.size, (outs.take i).filterMap id)] ∧ (∀ y w, fv.lookup y = some w → σ'.loc.lookup y = some w) ∧ S₀ i s'.heap ∧ G s'.heap (off (X.comp σ s scope cl H2.objs.size) σ')) ?_ (vs.length + 1)
      ⟨0, _, Nat.zero_le _, rfl, RY, List.mem_cons_self, rfl, fun _ _ e => e, hS₁, hG₁⟩
    rintro k s' ⟨i, ⟨loc, own, mu, av⟩, hi, rfl, R', hav, hown, hfv, hs, hg⟩
    dsimp only at hav hown hfv
    subst hown
    by_cases hlt : i < vs.length
    · refine W.walks.item i s' _ _ hlt hs fun val h₂ tk₂ hPv hs₂ hk₂ => ?_
      have hk₂' : ∀ b o, b ≠ s.heap.objs.size → s'.heap.get? b = some o → h₂.get? b = some o := fun b o hb e => hk₂ b o (fun hm => hb (List.mem_singleton.mp hm)) e
      have R₁ := R'.touchAv (tk := tk₂) hav hk₂' (W.live _ _ hs₂)
      have hg₁ := W.lasts _ _ _ _ (fun b o hb e => hk₂' b o (fun q => hb (q ▸ off_av hav)) e) (fun b hb => .inl hb) hg
      obtain ⟨u, hu, iu⟩ := W.item h₂ _ i val hg₁ hPv
      refine wpAny_assign_Name (Un_storeL R₁ hkx iu fun s₃ R₂ L₂ => ?_)
      obtain ⟨hs₃, hg₃⟩ := stepS R₁ L₂ hav hs₂ hg₁
      have hfv₂ : ∀ y w, fv.lookup y = some w → List.lookup y ((x, u) :: loc) = some w := fun y w e => by
        rw [List.lookup_cons]
        by_cases hy : y = x
        · subst hy; rw [hxf] at e; cases e
        · rw [show (y == x) = false by simpa using hy]; exact hfv y w e
      refine turn _ i u _ hu lk_hit hfv₂ s₃ _ _ R₂ fun ok σ₁ s₄ R₃ L₃ h₃ => ?_
      obtain ⟨rfl, hok⟩ := h₃
      obtain ⟨hs₄, hg₄⟩ := stepS R₂ L₃ hav hs₃ hg₃
      cases ok with
      | false =>
        rw [if_neg Bool.false_ne_true] at hok ⊢
        refine ⟨vs.length + 1 - (i + 1), by omega, i + 1, _, hlt, rfl, R₃, hav, ?_, hfv₂, hs₄, hg₄⟩
        rw [List.take_add_one, hok]; simp
      | true =>
        rw [if_pos rfl] at hok ⊢
        refine hok s₄ _ _ R₃ fun vr r σ₂ s₅ R₄ L₄ ir h₅ => ?_
        obtain ⟨rfl, ho⟩ := h₅
        obtain ⟨hs₅, hg₅⟩ := stepS R₃ L₄ hav hs₄ hg₄
        obtain ⟨_, vals, p, il⟩ := R₄.own H1.objs.size _ List.mem_cons_self
        have hcnt : ((outs.take i).filterMap id).length ≤ sizeLine := Nat.le_trans (List.length_filterMap_le _ _) (Nat.le_trans (List.length_take_le _ _) (Nat.le_trans hi hz))
        refine list_append_plainL p (fun h' p' hs' => ?_) (by rw [List.size_toArray, il.length]; exact hcnt)
        have z := R₄.setOwn (tk := s₅.toks) (vals' := vals ++ [vr]) (.head (vs' := (outs.take i).filterMap id ++ [r])) (il.append (.one ir)) (by simpa using p') hs'
        obtain ⟨hs₆, hg₆⟩ := stepS R₄ z.2 hav hs₅ hg₅
        refine ⟨vs.length + 1 - (i + 1), by omega, i + 1, _, hlt, rfl, z.1, hav, ?_, hfv₂, hs₆, hg₆⟩
        rw [List.take_add_one, ho]; simp
    · obtain rfl : i = vs.length := Nat.le_antisymm hi (Nat.not_lt.mp hlt)
      refine W.walks.done s' _ _ hs fun h₂ tk₂ hk₂ => ?_
      have hk₂' : ∀ b o, b ≠ s.heap.objs.size → s'.heap.get? b = some o → h₂.get? b = some o := fun b o hb e => hk₂ b o (fun hm => hb (List.mem_singleton.mp hm)) e
      have RE := R'.dropTouch (tk := tk₂) hav hk₂'
      have hout : ∀ b ∈ off X { σ with av := H2.objs.size :: σ.av }, b ∈ off (X.comp σ s scope cl H2.objs.size) { loc := loc, own := [(H1.objs.size, (outs.take vs.length).filterMap id)], mu := mu, av := av.filter (· != s.heap.objs.size) } := fun b hb => by
        rcases List.mem_append.mp hb with hb | hb
        · exact off_mu₀ (off_mu hb)
        · rcases List.mem_append.mp hb with hb | hb
          · rcases List.mem_cons.mp hb with rfl | hb
            · exact off_mu RE.lmut
            · exact off_mu₀ (off_av hb)
          · exact off_mu₀ (off_mu₀ hb)
      have hkp : ∀ b o, b ≠ X.P → s.heap.get? b = some o → h₂.get? b = some o := fun b o hb e => RE.keep b o (fun q => q.elim hb fun z => nomatch z) e
      have z := R.leaveC (s' := { s' with heap := h₂, toks := tk₂ }) (C := H2.objs.size) RE.sh hkp (Nat.le_of_lt q02) (RE.new _ RE.lmut).2 (let z := RE.tab.later (mu' := off X { σ with av := H2.objs.size :: σ.av }) (fun _ e => e) (fun _ _ _ e => e) fun b hb => .inl (hout b hb); ⟨z.tab, z.hd⟩)
      obtain ⟨_, vals, p, il⟩ := RE.own H1.objs.size _ List.mem_cons_self
      rw [← hlen, List.take_length] at il
      refine hRR _ _ _ z.1 z.2 (.lst p.isList (fun hm => ?_) (il.later (fun _ _ _ e => e) fun b hb => .inl (hout b hb))) RE.ns (Nat.le_of_lt q02)
      rcases List.mem_append.mp hm with hm | hm
      · exact R.fresh (Nat.le_of_lt q01) (off_mu hm)
      · rcases List.mem_append.mp hm with hm | hm
        · rcases List.mem_cons.mp hm with q | hm
          · exact Nat.ne_of_lt q12 q
          · exact R.fresh (Nat.le_of_lt q01) (off_av hm)
        · exact R.fresh (Nat.le_of_lt q01) (off_mu₀ hm)
  exact codeAny_compStart_list loop (W.walks.self 0 _ _ _ hS₁ loop)
end
end Mine
end
section
open PySem PySem.W PyProof.Rows PySem.Spec PySem.Calls
namespace Mine
def relabelS (scope sc : Scope) : Scope := { scope with names := scope.names.map fun (n, k) => if (k == .free && sc.kind == .function && sc.names.lookup n == some .cell) then (n, .cell) else (n, k) }
theorem relabel_S (scope : Scope) (env : Env) : relabel scope env = relabelS scope env.scope := rfl
section
variable {X : Act} {σ : St} {s : Shared} {K : V → St → Prop} {KF : Fl → St → Prop} {KB : Bool → St → Prop}
/-- what is known of a comprehension's activation -/
structure InComp (X Y : Act) (scope : Scope) : Prop where
  sc : Y.env.scope = relabelS scope X.env.scope
  lvl : Y.lvl = X.lvl
  w : Y.w = X.w
  hd : Y.A.handled = X.A.handled
  pp : Y.P = X.P
  lp : Y.lamPos = X.lamPos
  lq : Y.lamQual = X.lamQual
def HasFrees (X : Act) (σ : St) (scope : Scope) (fv : List (Str × V)) : Prop := ∀ s, Rep X σ s → ∃ cl, closureFor scope X.env = pure cl ∧ Frees X σ scope cl fv
theorem frees0 {scope : Scope} (h : closureFor scope X.env = pure [] := by rfl) : HasFrees X σ scope [] := fun s R => ⟨[], h, ⟨(fun c hc => nomatch hc), List.nodup_nil, (fun y u e => nomatch e)⟩⟩
theorem frees1 {scope : Scope} {y : Str} {u : V} (hl : σ.loc.lookup y = some u) (hk : X.env.kindOf y = some .cell ∨ X.env.kindOf y = some .free) (h : ∀ c, X.env.cells.lookup y = some c → closureFor scope X.env = pure [(y, c)]) (hn : scope.names.lookup y ≠ some .local) : HasFrees X σ scope [(y, u)] := fun s R => by
  obtain ⟨c, vo, hc, _⟩ := (R.var y u hl).cell hk
  refine ⟨[(y, c)], h c hc, ⟨fun d hd => ?_, by simp, fun z w e => ?_⟩⟩
  · obtain rfl : d = c := by simpa using hd
    exact List.mem_map.mpr ⟨(y, d), mem_of_lookup hc, rfl⟩
  · rw [List.lookup_cons] at e
    cases hz : z == y with
    | true =>
      rw [hz] at e; cases e
      obtain rfl : z = y := by simpa using hz
      exact ⟨c, by rw [List.lookup_cons, beq_self_eq_true], hc, hl, hk, hn⟩
    | false => rw [hz] at e; cases e

/-- what each turn of a comprehension does -/
def Turns (X : Act) (scope : Scope) (x : Str) (ifs : List Expr) (elt : Expr) (vs : List V) (fv : List (Str × V)) (outs : List (Option V)) : Prop :=
  ∀ (Y : Act), InComp X Y scope → ∀ (i : Nat) (u : V) (σY : St), vs[i]? = some u → σY.loc.lookup x = some u → (∀ y w, fv.lookup y = some w → σY.loc.lookup y = some w) →
    Fs Y ifs σY fun ok σ₁ => σ₁ = σY ∧ (if ok = true then Ev Y (eval elt Y.env) σY fun r σ₂ => σ₂ = σY ∧ outs[i]? = some (some r) else outs[i]? = some none)

theorem Ev_comp {elt iter : Expr} {x : Str} {px : Pos} {ifs : List Expr} {scope : Scope} {pos : Pos} {fv₀ : List (Str × V)} (hf : HasFrees X σ scope fv₀)
    (h : Ev X (eval iter X.env) σ fun v σ₁ => ∃ vs fv outs, Iter X v vs ∧ vs.length ≤ sizeLine ∧ HasFrees X σ₁ scope fv ∧ fv.lookup x = none ∧ outs.length = vs.length ∧ Turns X scope x ifs elt vs fv outs ∧ K (.lst (outs.filterMap id)) σ₁)
    (hcell : ∀ y ∈ scope.names, y.2 ≠ .cell := by decide) (hkind : scope.kind = .function := by rfl) (hx : scope.names.lookup x = some .local := by rfl)
    (hnames : ∀ z ∈ scope.names, z.2 = .local → scope.names.lookup z.1 = some .local := by decide)
    (hs : ∀ x, foldedSetIterable iter X.env x = pure x := by intro _; rfl) : Ev X (eval (.ListComp elt [⟨.Name x px, iter, ifs, 0⟩] scope pos) X.env) σ K := by
  intro s Q E R hQ
  have key : ∀ cl, closureFor scope X.env = pure cl → wpAny (model X.prog X.w) X.A (eval iter X.env) (fun xv s₁ => wpAny (model X.prog X.w) X.A (pyIter xv) (fun it s₂ => wpAny (model X.prog X.w) X.A (newList []) (fun acc s₃ => wpAny (model X.prog X.w) X.A (newFunctionEnv scope X.env.globals cl [] X.env.qual none .none (some X.env)) (fun cenv s₄ =>
      codeAny (model X.prog X.w) X.A (.compStart (.ListComp elt [⟨.Name x px, iter, ifs, 0⟩] scope pos) 0 it acc { cenv with scope := relabel scope X.env }) (compPost (model X.prog X.w) X.A E none Q acc cenv.locals) s₄) E s₃) E s₂) E s₁) E s := fun cl hcl => by
    refine h s _ _ R fun val v σ₁ s₁ R₁ L₁ i₁ h₁ => ?_
    obtain ⟨vs, fv, outs, It, hz, HF, hxf, hlen, T, hK⟩ := h₁
    obtain ⟨cl', hcl', F⟩ := HF s₁ R₁
    obtain rfl : cl = cl' := by
      have e := hcl.symm.trans hcl'
      injection e
    refine comp_core (RR := fun acc C => compPost (model X.prog X.w) X.A E none Q acc C) R₁ i₁ It hz F hcell hkind hx hxf outs hlen (fun C i u σY h1 h2 h3 => T (X.comp σ₁ s₁ scope cl C) ⟨rfl, rfl, rfl, rfl, rfl, rfl, rfl⟩ i u σY h1 h2 h3) fun D C s' R' L' iD hn hC => ?_
    obtain ⟨m, hn⟩ := hn
    refine ⟨m, hn, fun h' hs' => ?_⟩
    have hk : ∀ b o, b ≠ C → s'.heap.get? b = some o → h'.get? b = some o := hs'.extBut
    have hCn : s₁.heap.get? C = none := Heap.get?_none_of_le hC
    have z := R'.dropTouch (tk := s'.toks) (h' := h') (a := C) List.mem_cons_self hk
    have L₂ := L'.drop R₁ R' (tk := s'.toks) (h' := h') (a := C) List.mem_cons_self hCn hk
    have hav : (C :: σ₁.av).filter (· != C) = σ₁.av := by
      rw [List.filter_cons, if_neg (by simp)]
      exact List.filter_eq_self.mpr fun b hb => by simpa using fun e : b = C => Nat.lt_irrefl _ (Nat.lt_of_lt_of_le (R₁.avn b hb).2.1.lt (e ▸ hC))
    dsimp only at z L₂
    rw [hav] at z L₂
    refine hQ _ _ σ₁ _ z (L₁.trans L₂) (iD.later (fun b o hb e => hk b o (fun q => hb (q ▸ off_av List.mem_cons_self)) e) fun b hb => .inl ?_) hK
    rcases List.mem_append.mp hb with hb | hb
    · exact off_mu hb
    · rcases List.mem_append.mp hb with hb | hb
      · exact off_av (List.mem_cons_of_mem _ hb)
      · exact off_mu₀ hb
  obtain ⟨cl, hcl, _⟩ := hf s R
  rw [eval_ListComp]
  exact wpAny_comprehension_free (use := none) rfl hs hcl hkind hnames (key cl hcl)
end
end Mine
end
section
open PySem PySem.W PyProof.Rows PySem.Spec PySem.Calls
namespace Mine
theorem sw2 {env : Env} {sc : Scope} {v : Expr} {t : Option Expr} {l : Nat} (h : env.scope = sc) : swapsWith v t l env = swapsWith v t l (envOf Str.empty sc 0 0 .none) := by
  unfold swapsWith Env.blockKind Env.kindOf
  rw [h]
  rfl
section
variable {X : Act} {σ : St} {s : Shared} {K : V → St → Prop} {KF : Fl → St → Prop} {KB : Bool → St → Prop}
/-- y = [.. for x in ..], y a local name -/
theorem Ex_assignComp {elt iter : Expr} {x y : Str} {px py : Pos} {ifs : List Expr} {scope : Scope} {pos spos : Pos} {fv₀ : List (Str × V)} (hf : HasFrees X σ scope fv₀)
    (h : Ev X (eval iter X.env) σ fun v σ₁ => ∃ vs fv outs, Iter X v vs ∧ vs.length ≤ sizeLine ∧ HasFrees X σ₁ scope fv ∧ fv.lookup x = none ∧ outs.length = vs.length ∧ Turns X scope x ifs elt vs fv outs ∧ KF .next { σ₁ with loc := (y, .lst (outs.filterMap id)) :: σ₁.loc })
    (hy : X.env.kindOf y = some .local := by first | assumption | exact kd (by assumption) (by rfl))
    (hsw : swapsWith (.ListComp elt [⟨.Name x px, iter, ifs, 0⟩] scope pos) (some (.Name y py)) spos.line X.env = pure true := by exact (sw2 (by assumption)).trans (by rfl))
    (hcell : ∀ y ∈ scope.names, y.2 ≠ .cell := by decide) (hkind : scope.kind = .function := by rfl) (hx : scope.names.lookup x = some .local := by rfl)
    (hnames : ∀ z ∈ scope.names, z.2 = .local → scope.names.lookup z.1 = some .local := by decide)
    (hs : ∀ x, foldedSetIterable iter X.env x = pure x := by intro _; rfl) : Ex X (exec (.Assign [.Name y py] (.ListComp elt [⟨.Name x px, iter, ifs, 0⟩] scope pos) spos) X.env) σ KF := by
  intro s Q E R hQ
  have key : ∀ cl, closureFor scope X.env = pure cl → wpAny (model X.prog X.w) X.A (eval iter X.env) (fun xv s₁ => wpAny (model X.prog X.w) X.A (pyIter xv) (fun it s₂ => wpAny (model X.prog X.w) X.A (newList []) (fun acc s₃ => wpAny (model X.prog X.w) X.A (newFunctionEnv scope X.env.globals cl [] X.env.qual none .none (some X.env)) (fun cenv s₄ =>
      codeAny (model X.prog X.w) X.A (.compStart (.ListComp elt [⟨.Name x px, iter, ifs, 0⟩] scope pos) 0 it acc { cenv with scope := relabel scope X.env }) (compPost (model X.prog X.w) X.A E (some (assign (.Name y py) X.env)) (fun _ s' => Q .next s') acc cenv.locals) s₄) E s₃) E s₂) E s₁) E s := fun cl hcl => by
    refine h s _ _ R fun val v σ₁ s₁ R₁ L₁ i₁ h₁ => ?_
    obtain ⟨vs, fv, outs, It, hz, HF, hxf, hlen, T, hK⟩ := h₁
    obtain ⟨cl', hcl', F⟩ := HF s₁ R₁
    obtain rfl : cl = cl' := by
      have e := hcl.symm.trans hcl'
      injection e
    refine comp_core (RR := fun acc C => compPost (model X.prog X.w) X.A E (some (assign (.Name y py) X.env)) (fun _ s' => Q .next s') acc C) R₁ i₁ It hz F hcell hkind hx hxf outs hlen (fun C i u σY h1 h2 h3 => T (X.comp σ₁ s₁ scope cl C) ⟨rfl, rfl, rfl, rfl, rfl, rfl, rfl⟩ i u σY h1 h2 h3) fun D C s' R' L' iD hn hC => ?_
    obtain ⟨m, hn⟩ := hn
    show wpAny _ _ (assign (.Name y py) X.env (.ref D)) _ _ _
    refine wpAny_assign_Name (Un_storeL R' hy iD fun s'' R'' L'' => ?_)
    have hCav := R'.avn C List.mem_cons_self
    refine ⟨m, hn.at fun o e => L''.keep C o hCav.2.2.1 (fun z => Nat.lt_irrefl _ (Nat.lt_of_lt_of_le (R'.wild_lt z) hCav.1)) e, fun h' hs' => ?_⟩
    have hk : ∀ b o, b ≠ C → s''.heap.get? b = some o → h'.get? b = some o := hs'.extBut
    have hCn : s₁.heap.get? C = none := Heap.get?_none_of_le hC
    have z := R''.dropTouch (tk := s''.toks) (h' := h') (a := C) List.mem_cons_self hk
    have L₂ := (L'.trans L'').drop R₁ R'' (tk := s''.toks) (h' := h') (a := C) List.mem_cons_self hCn hk
    have hav : (C :: σ₁.av).filter (· != C) = σ₁.av := by
      rw [List.filter_cons, if_neg (by simp)]
      exact List.filter_eq_self.mpr fun b hb => by simpa using fun e : b = C => Nat.lt_irrefl _ (Nat.lt_of_lt_of_le (R₁.avn b hb).2.1.lt (e ▸ hC))
    dsimp only at z L₂
    rw [hav] at z L₂
    exact hQ _ _ _ _ z (L₁.trans L₂) .next hK
  obtain ⟨cl, hcl, _⟩ := hf s R
  rw [exec_Assign_Name_used _ _ _ _ hsw]
  refine wpAny_bind (wpAny_standAt (wpAny_bind ?_))
  show wpAny _ X.A (do let _ ← comprehension (.ListComp elt [⟨.Name x px, iter, ifs, 0⟩] scope pos) scope X.env _ (newList []) false (eval iter X.env) (some (assign (.Name y py) X.env))) _ _ s
  exact wpAny_bind (wpAny_mono (wpAny_comprehension_free (use := some (assign (.Name y py) X.env)) (Q := fun _ s' => Q .next s') rfl hs hcl hkind hnames (key cl hcl)) (fun _ s' hq => wpAny_pure (wpAny_pure hq)) fun _ _ e => e)
end
end Mine
end
section
open PySem PySem.W PyProof.Rows PySem.Spec PySem.Calls
namespace Mine
section
variable {X : Act} {σ : St} {s : Shared} {K : V → St → Prop}
/-- a call of a function of the text with one parameter and one cell -/
theorem O_call1 {f : Addr} {o : Obj} {fd : FuncData} {body : List Stmt} {a : V} (p cn : Str) (h : ∀ (Y : Act) (mu : List Addr), InCall X Y fd → Y.mine = true → Ex Y (execs body Y.env) ⟨(p, a) :: (cn, .undef) :: [], [], mu, []⟩ fun fl σ' => ∃ r, Frz σ'.own (flV fl) r ∧ K r σ)
    (hl : 1 ≤ X.lvl) (ho : (heapK X.w.params).lookup f = some o) (hdata : o.data = .func fd) (hcd : codeIn (heapK X.w.params) fd.code fd.qualname = true) (hbody : fd.body = .stmts body)
    (hbind : ∀ val : Value, bindArgs fd ⟨[val], []⟩ = pure [(p, val)]) (hcells : ∀ L, cellsFrom (L + 1) fd.scope.names [] = [(cn, L + 1)]) (hnf : ∀ x ∈ fd.scope.names, x.2 ≠ .free) (hloc : fd.scope.names.lookup p = some .local) (hcn : fd.scope.names.lookup cn = some .cell)
    (hclo : fd.closure = []) (hg : fd.globals = mainGlobals) (hb : fd.builtins = builtinsNs) (hco : fd.scope.isCoroutine = false) (hgen : fd.scope.isGenerator = false) (hk : fd.scope.kind = .function) : OpN X (fun vals => call (.ref f) vals) [a] σ K := by
  intro s vals Q E R i hQ
  cases i with
  | @cons _ val _ vals i r =>
    cases r
    obtain ⟨pr, loose, mean, mg, mb, T'⟩ := R.ok.top
    have T := topRead_of T'
    have room : X.A.depth < recursionLimit := by have := R.ok.room.1; show _ < 1000; omega
    have hce : (callEnvC fd s.heap.objs.size f).cells = [(cn, s.heap.objs.size + 1)] := hcells _
    refine wpAny_call (codeAny_call_cells (body := body) (binds := [(p, val)]) room (R.base _ _ (R.ok.kin _ _ ho)) hdata (T.nolimit.keeps R.base) (codeRec_of (R.ok.kin.keeps R.base) hcd) hbody (hbind val) hclo
      (fun x hx => .inl (by rw [List.mem_singleton.mp hx]; exact hloc)) (fun s₁ I => ?_) hco hgen hk)
    have hL : (callEnvC fd s.heap.objs.size f).locals = s.heap.objs.size := rfl
    have hm : bindL (callEnvC fd s.heap.objs.size f).kindOf [(p, val)] (fun _ => none) p = some val := by
      unfold bindL
      rw [if_pos (show (callEnvC fd s.heap.objs.size f).kindOf p = some .local from hloc)]
      simp [bindL]
    obtain ⟨hsame, hns, hkeep, _⟩ := I.toInCall
    have hcell := I.cell cn (s.heap.objs.size + 1) (by rw [hce, List.lookup_cons, beq_self_eq_true])
    have hnn : ∀ b ∈ off (X.callee σ s (callEnvC fd s.heap.objs.size f)) ⟨(p, a) :: (cn, .undef) :: [], [], [s.heap.objs.size, s.heap.objs.size + 1], []⟩, b ∈ off X σ ∨ s.heap.get? b = none := fun b hb => by
      rcases List.mem_append.mp hb with hb | hb
      · rcases List.mem_cons.mp hb with rfl | hb
        · exact .inr (get_size _)
        · obtain rfl := List.mem_singleton.mp hb; exact .inr (Heap.get?_none_of_le (Nat.le_succ _))
      · exact .inl hb
    have hlt : ∀ b, b = X.P ∨ b ∈ X.env.locals :: X.fr → b ≠ s.heap.objs.size + 1 := fun b hb => by
      have : b < s.heap.objs.size := by
        rcases hb with rfl | hb
        · exact Nat.lt_of_lt_of_le R.ok.plt R.size
        · rcases List.mem_cons.mp hb with rfl | hb
          · exact (R.new _ R.lmut).2.lt
          · exact (R.wildAlive (.inr hb)).lt
      exact Nat.ne_of_lt (Nat.lt_succ_of_lt this)
    have R' : Rep (X.callee σ s (callEnvC fd s.heap.objs.size f)) ⟨(p, a) :: (cn, .undef) :: [], [], [s.heap.objs.size, s.heap.objs.size + 1], []⟩ s₁ := by
      refine ⟨R.okIn (by rw [hce]; simpa using hlt _ (.inl rfl)) (fun b hb => by rw [hce]; simpa using hlt b (.inr hb)) hk hg hb hl, hsame, fun b o _ e => hkeep b o e, fun b _ o e => ⟨o.slots, hkeep b o e⟩, (let z := R.tab.later (fun o e => hkeep _ o e) (fun b o _ e => hkeep b o e) hnn; ⟨z.tab, z.hd⟩), fun b hb => ?_, List.mem_cons_self, ⟨_, hns⟩, ?_, fun _ x c hkx hcx => ?_, (fun a vs hm => nomatch hm), ?_, fun c hc => ?_, R.off_lt, (fun b q => nomatch q)⟩
      · rcases List.mem_cons.mp hb with rfl | hb
        · exact ⟨Nat.le_refl _, let ⟨o, _, _, e, _⟩ := hns; ⟨o, e⟩⟩
        · obtain rfl := List.mem_singleton.mp hb; exact ⟨Nat.le_succ _, let ⟨o, e, _⟩ := hcell; ⟨o, e⟩⟩
      · intro x v e
        rw [List.lookup_cons] at e
        cases hxp : x == p with
        | true =>
          rw [hxp] at e; cases e
          obtain rfl : x = p := by simpa using hxp
          refine ⟨fun _ _ => ⟨_, val, hns, hm, i.later (fun b o _ e => hkeep b o e) hnn⟩, fun q => ?_⟩
          rcases q with q | q
          · rw [show (callEnvC fd s.heap.objs.size f).kindOf x = some .local from hloc] at q; cases q
          · rw [show (callEnvC fd s.heap.objs.size f).kindOf x = some .local from hloc] at q; cases q
        | false =>
          rw [hxp, List.lookup_cons] at e
          cases hxc : x == cn with
          | true =>
            rw [hxc] at e; cases e
            obtain rfl : x = cn := by simpa using hxc
            exact ⟨fun _ hv => absurd rfl hv, fun _ => ⟨_, _, by rw [hce, List.lookup_cons, beq_self_eq_true], hcell, fun hv => absurd rfl hv⟩⟩
          | false => rw [hxc] at e; cases e
      · have : c = s.heap.objs.size + 1 := by
          rw [show (X.callee σ s (callEnvC fd s.heap.objs.size f)).env.cells = [(cn, s.heap.objs.size + 1)] from hce, List.lookup_cons] at hcx
          split at hcx
          · exact (Option.some.inj hcx).symm
          · cases hcx
        rw [this]; exact List.mem_cons_of_mem _ List.mem_cons_self
      · show ((callEnvC fd s.heap.objs.size f).locals :: ((callEnvC fd s.heap.objs.size f).cells.map (·.2) ++ [])).Nodup
        rw [hce, hL]; simp
      · rw [show (X.callee σ s (callEnvC fd s.heap.objs.size f)).env.cells = [(cn, s.heap.objs.size + 1)] from hce] at hc
        obtain rfl : c = s.heap.objs.size + 1 := by simpa using hc
        exact let ⟨o, e, _⟩ := hcell; ⟨o, e⟩
    refine wpAny_mono (h (X.callee σ s (callEnvC fd s.heap.objs.size f)) _ ⟨rfl, rfl, rfl, rfl, rfl, rfl, rfl, rfl, rfl, fun F => F.callee R rfl⟩ rfl _ (fun f s' => Q (flVal f) s') (fun e s' => wpAny (model X.prog X.w) (X.A.deeper (callEnvC fd s.heap.objs.size f)) (leaving (callEnvC fd s.heap.objs.size f) e) (fun _ s'' => E e s'') (fun e' s'' => E e' s'') s') R' fun fl' fl σ' s' R₁ L₁ i₁ h₁ => ?_) (fun fl s' hq => by cases fl <;> exact hq) fun _ _ z => z
    obtain ⟨r, fr, hK⟩ := h₁
    have z := R.growP (s' := s') R₁.sh (fun b o h1 h2 h3 e => R₁.keep b o (fun q => q.elim h1 fun q => (List.mem_cons.mp q).elim h2 h3) e) (fun b hb o e => R₁.frs b (List.mem_cons.mpr hb) o e) (let z := R₁.tab.later (fun _ e => e) (fun _ _ _ e => e) fun b hb => .inl (off_mu₀ hb); ⟨z.tab, z.hd⟩)
    exact hQ _ _ _ _ z.1 z.2 (fr.vin R₁ i₁.val) hK
/-- range(n) -/
theorem O_range {n : Nat} (hn : n ≤ 2 ^ 20) (h : K (.rng n) σ) : OpN X (fun vals => call (.type "range") vals) [.int n] σ K := by
  intro s vals Q E R i hQ
  cases i with
  | cons i r =>
    cases r
    cases i with
    | int _ t =>
      have z := R.push (tk := s.toks + 2) { cls := .type "range", data := .fields #[.int 0 s.toks, .int n t, .int 1 (s.toks + 1)] }
      exact call_range_1 (hQ _ _ _ _ z.1 z.2 (.rng (IsRange.new ..) (R.fresh (Nat.le_refl _))) h)
end
end Mine
end
section
open PySem PySem.W PyProof.Rows PySem.Spec PySem.Calls
namespace Mine
theorem lit_a1 : Str.ofString "a" = S [97] := by decide +kernel
theorem lit_ab : Str.ofString "[ab]" = S [91, 97, 98, 93] := by decide +kernel
theorem lit_nb : Str.ofString "[^b]" = S [91, 94, 98, 93] := by decide +kernel
theorem lit_bs : Str.ofString "\\." = S [92, 46] := by decide +kernel
theorem pc_item (x : _root_.Fin 6) : [V.str (Str.ofString ""), .none, .str (Str.ofString "."), .str (Str.ofString "a"), .str (Str.ofString "[ab]"), .str (Str.ofString "[^b]"), .str (Str.ofString "\\.")][((x.val : Int) + 1).toNat]? = some (pv .none x) := by
  rw [lit_dot, lit_a1, lit_ab, lit_nb, lit_bs]
  rcases six x with rfl | rfl | rfl | rfl | rfl | rfl <;> rfl
/-- what the law keeps of the pieces -/
def keepP (p : List (_root_.Fin 6)) (i : Nat) : Option (_root_.Fin 6) := match p[i]? with
  | none => none
  | some x => if x ≠ 0 ∨ i = 0 ∨ p[i - 1]? ≠ some 0 then some x else none
theorem pcs_last (p : List (_root_.Fin 6)) : (pcs p).getLast? = p.getLast? := by
  rcases List.eq_nil_or_concat p with rfl | ⟨q, x, rfl⟩
  · rfl
  · rw [List.concat_eq_append, pcs_snoc]
    unfold step
    split
    · rename_i h; rw [h.2, h.1]; simp
    · simp
theorem keepP_pcs (p : List (_root_.Fin 6)) : (List.range p.length).filterMap (keepP p) = pcs p := by
  have h : ∀ n, n ≤ p.length → (List.range n).filterMap (keepP p) = pcs (p.take n) := by
    intro n
    induction n with
    | zero => intro _; simp [pcs]
    | succ n ih =>
      intro hn
      have hlt : n < p.length := hn
      have hx : p[n]? = some p[n] := List.getElem?_eq_getElem hlt
      rw [List.range_succ, List.filterMap_append, ih (Nat.le_of_lt hlt), take_next hx, pcs_snoc]
      have hlast : (pcs (p.take n)).getLast? = if n = 0 then none else p[n - 1]? := by
        rw [pcs_last]
        cases n with
        | zero => simp
        | succ m =>
          rw [if_neg (Nat.succ_ne_zero m), List.getLast?_eq_getElem?, List.length_take, Nat.min_eq_left (Nat.le_of_lt hlt), Nat.add_sub_cancel, List.getElem?_take_of_lt (Nat.lt_succ_self m)]
      unfold step
      rw [hlast]
      simp only [List.filterMap_cons, List.filterMap_nil, keepP, hx]
      by_cases h0 : p[n] = 0
      · by_cases hn0 : n = 0
        · subst hn0; simp [h0]
        · by_cases hp1 : p[n - 1]? = some 0
          · simp [h0, hn0, hp1]
          · simp [h0, hn0, hp1]
      · simp [h0]
  have := h p.length (Nat.le_refl _)
  rwa [List.take_length] at this
theorem isNone_pv (x : _root_.Fin 6) : IsV (pv .none x) .none (decide (x = 0)) := by
  by_cases h : x = 0
  · subst h; exact .nn
  · rw [pv_else h, decide_eq_false h]; exact .sn _
set_option maxRecDepth 20000 in
set_option maxHeartbeats 4000000 in
theorem T_pieces (p : List (_root_.Fin 6)) (hp : p.length ≤ 100) {X : Act} {σ : St} {K : V → St → Prop} (hv : 1 ≤ X.lvl) (hh : X.A.handled = none) (h : K (.lst ((pcs p).map (pv .none))) σ) :
    OpN X (fun vals => call (.ref 103) vals) [.lst (p.map fun x => V.int ((x.val : Int) + 1))] σ K := by
  refine O_call1 (f := 103) (Str.ofString "pattern") (Str.ofString "pieces") (fun Y mu hc hmine => ?_) hv rfl rfl (by kernel_rfl) rfl (fun v => rfl) (fun L => rfl) (by decide +kernel) rfl rfl rfl rfl rfl rfl rfl rfl
  have hsc := hc.sc
  conv at hsc => rhs; whnf
  conv in bodyOf _ => whnf
  have hh' := hc.hd
  rw [hh] at hh'
  refine Ex_cons (Ex_assignC hmine (Ev_comp (fv₀ := []) frees0 (Ev_nameL ⟨_, [], p.map fun x => some (pv .none x), iter_lst _, ?_, frees0, rfl, ?_, ?_, ⟨⟨_, lk_miss (by decide) lk_hit⟩, ?_⟩⟩)) (hs := (sw2 hsc).trans (by rfl)))
  · rw [List.length_map, sizeLine_eq]; omega
  · simp
  · intro Y' hi i u σY hu hlu hfv
    obtain ⟨x, hx, rfl⟩ := map_get hu
    have hsc' := hi.sc
    rw [hsc] at hsc'
    refine Fs_nil ⟨rfl, ?_⟩
    rw [if_pos rfl]
    refine Ev_sub (Ev_listF (Evs_cons (Ev_str (Evs_cons (Ev_none (Evs_cons (Ev_str (Evs_cons (Ev_str (Evs_cons (Ev_str (Evs_cons (Ev_str (Evs_cons (Ev_str (Evs_nil ⟨?_, Ev_nameL (O_itemL (.lst _) ?_ ?_ (pc_item x) ?_)⟩))))))))))))))))
    · decide
    · omega
    · have := x.isLt; omega
    · exact ⟨rfl, by rw [List.getElem?_map, hx]; rfl⟩
  have hfm : (p.map fun x => some (pv .none x)).filterMap id = p.map (pv .none) := by
    rw [List.filterMap_map]
    simp
  rw [hfm]
  have hlen : (p.map (pv .none)).length = p.length := List.length_map _
  refine seqK_next (Ex_cons (Ex_return (Ev_comp (fv₀ := [(Str.ofString "pieces", .lst (p.map (pv .none)))]) (frees1 lk_hit (.inl (kd hsc (by rfl))) (fun c hcc => ?_) (by decide)) (Ev_callT "range" (Ev_builtin ⟨rfl, Evs_cons (Ev_callB "len" (Ev_builtin ⟨rfl, Evs_cons (Ev_nameC (Evs_nil (O_lenL (.lst _) ?_ (Evs_nil (O_range ?_ ⟨_, [(Str.ofString "pieces", .lst (p.map (pv .none)))], (List.range p.length).map (fun i => (keepP p i).map (pv .none)), iter_rng hh' _ ?_, ?_, frees1 lk_hit (.inl (kd hsc (by rfl))) (fun c hcc => ?_) (by decide), rfl, ?_, ?_, ?_⟩)))))⟩))⟩)))))
  · simp [closureFor, cellOf, hcc]
  · rw [hlen, sizeLine_eq]; omega
  · rw [hlen]; omega
  · rw [hlen]; omega
  · rw [List.length_map, List.length_range, hlen, sizeLine_eq]; omega
  · simp [closureFor, cellOf, hcc]
  · simp
  · intro Y' hi i u σY hu hlu hfv
    obtain ⟨j, hj, rfl⟩ := map_get hu
    have hj2 := List.getElem?_eq_some_iff.mp hj
    obtain ⟨hj3, hj4⟩ := hj2
    rw [List.length_range, hlen] at hj3
    rw [List.getElem_range] at hj4
    subst hj4
    have hsc' := hi.sc
    rw [hsc] at hsc'
    have hps := hfv (Str.ofString "pieces") _ lk_hit
    obtain ⟨x, hx⟩ : ∃ x, p[i]? = some x := ⟨_, List.getElem?_eq_getElem hj3⟩
    have hxm : (p.map (pv .none))[((i : Nat) : Int).toNat]? = some (pv .none x) := by rw [List.getElem?_map, Int.toNat_natCast, hx]; rfl
    have hout : ((List.range p.length).map (fun i => (keepP p i).map (pv .none)))[i]? = some ((keepP p i).map (pv .none)) := by
      rw [List.getElem?_map, List.getElem?_range hj3]; rfl
    have fin : ∀ (q₁ q₂ q₃ : Pos) ok, ok = decide (x ≠ 0 ∨ i = 0 ∨ p[i - 1]? ≠ some 0) → σY = σY ∧ (if ok = true then Ev Y' (eval (.Subscript (.Name (Str.ofString "pieces") q₁) (.Name (Str.ofString "k") q₂) q₃) Y'.env) σY fun r σ₂ => σ₂ = σY ∧ ((List.range p.length).map (fun i => (keepP p i).map (pv .none)))[i]? = some (some r) else ((List.range p.length).map (fun i => (keepP p i).map (pv .none)))[i]? = some none) := by
      rintro q₁ q₂ q₃ _ rfl
      refine ⟨rfl, ?_⟩
      by_cases hc : x ≠ 0 ∨ i = 0 ∨ p[i - 1]? ≠ some 0
      · rw [if_pos (decide_eq_true hc)]
        refine Ev_sub (Ev_nameC (Ev_nameL (O_itemL (.lst _) ?_ ?_ hxm ?_)))
        · omega
        · omega
        · refine ⟨rfl, ?_⟩
          rw [hout]
          simp only [keepP, hx, if_pos hc]
          rfl
      · rw [if_neg (by rw [decide_eq_false hc]; exact Bool.false_ne_true), hout]
        simp only [keepP, hx, if_neg hc]
        rfl
    refine Fs_one (Tr_or (Tr_cmp (Ev_sub (Ev_nameC (Ev_nameL (O_itemL (.lst _) ?_ ?_ hxm (Ev_none (O_isNot (isNone_pv x) (B_bool ?_)))))))))
    · omega
    · omega
    refine brK_split (fun hx0 => ?_) (fun hx0 => ?_)
    · have hq : x ≠ 0 := by simpa using hx0
      exact fin _ _ _ true (by simp [hq])
    have hx1 : x = 0 := by simpa using hx0
    refine Tr_or (Tr_cmp (Ev_nameL (Ev_int (O_eqI (B_bool (brK_split (fun hi0 => ?_) (fun hi0 => ?_)))))))
    · have hq : i = 0 := by simpa using hi0
      exact fin _ _ _ true (by simp [hq])
    have hi1 : i ≠ 0 := by simpa using hi0
    obtain ⟨y, hy⟩ : ∃ y, p[i - 1]? = some y := ⟨_, List.getElem?_eq_getElem (by omega)⟩
    have hym : (p.map (pv .none))[((i : Int) - 1).toNat]? = some (pv .none y) := by rw [List.getElem?_map, show ((i : Int) - 1).toNat = i - 1 by omega, hy]; rfl
    refine Tr_or (Tr_cmp (Ev_sub (Ev_nameC (Ev_bin (Ev_nameL (Ev_int (O_subI (O_itemL (.lst _) ?_ ?_ hym (Ev_none (O_isNot (isNone_pv y) (B_bool ?_)))))))))))
    · omega
    · omega
    refine brK_split (fun hy0 => ?_) (fun hy0 => ?_)
    · have hq : y ≠ 0 := by simpa using hy0
      exact fin _ _ _ true (by simp [hy, hq])
    · refine Tr_or0 (fin _ _ _ false ?_)
      have : y = 0 := by simpa using hy0
      simp [hx1, hi1, hy, this]
  · have e : ((List.range p.length).map (fun i => (keepP p i).map (pv .none))).filterMap id = (pcs p).map (pv .none) := by
      rw [← keepP_pcs, List.filterMap_map, List.map_filterMap]
      rfl
    rw [e]
    exact seqK_ret ⟨_, .same _, h⟩
end Mine
end
section
open PySem PySem.W PyProof.Rows PySem.Spec PySem.Calls
namespace Mine
def kv (k : _root_.Fin 6) : V := .int ((k.val : Int) + 1)
/-- the sign that a number stands for -/
def kf (x : Int) : _root_.Fin 6 := ⟨(x % 7 - 1).toNat % 6, Nat.mod_lt _ (by decide)⟩
theorem kf_val {x : Int} (h : x % 7 ≠ 0) : ((kf x).val : Int) + 1 = x % 7 := by
  have h1 := Int.emod_nonneg x (show (7 : Int) ≠ 0 by decide)
  have h2 := Int.emod_lt_of_pos x (show (0 : Int) < 7 by decide)
  unfold kf
  have : (x % 7 - 1).toNat % 6 = (x % 7 - 1).toNat := Nat.mod_eq_of_lt (by omega)
  dsimp only
  rw [this]; omega
/-- the patterns: those that are whole, and the last one -/
def pstep (a : List (List (_root_.Fin 6)) × List (_root_.Fin 6)) (x : Int) : List (List (_root_.Fin 6)) × List (_root_.Fin 6) := if x % 7 = 0 then (a.1 ++ [a.2], []) else (a.1, a.2 ++ [kf x])
def pats (ns : List Int) : List (List (_root_.Fin 6)) := let a := ns.foldl pstep ([], []); a.1 ++ [a.2]
theorem FrzAll.append {own : List (Addr × List V)} : ∀ {vs ws vs' ws' : List V}, FrzAll own vs vs' → FrzAll own ws ws' → FrzAll own (vs ++ ws) (vs' ++ ws')
  | _, _, _, _, .nil, h => h
  | _, _, _, _, .cons a r, h => .cons a (r.append h)
structure Jp (σ : St) (a b : Addr) (pre : List (Addr × List (_root_.Fin 6))) (cur : List (_root_.Fin 6)) : Prop where
  lk : σ.loc.lookup (Str.ofString "patterns") = some (.own a)
  out : (a, pre.map (fun q => V.own q.1) ++ [.own b]) ∈ σ.own
  inn : ∀ q ∈ pre, (q.1, q.2.map kv) ∈ σ.own ∧ q.1 ≠ b ∧ q.1 ≠ a
  last : (b, cur.map kv) ∈ σ.own
  ne : a ≠ b
set_option maxRecDepth 20000 in
set_option maxHeartbeats 4000000 in
theorem T_patterns (ns : List Int) (hp : ns.length ≤ 100) {X : Act} {σ : St} {K : V → St → Prop} (hv : 1 ≤ X.lvl) (h : K (.lst ((pats ns).map fun p => .lst (p.map kv))) σ) :
    OpN X (fun vals => call (.ref 98) vals) [.lst (ns.map V.int)] σ K := by
  refine O_call (f := 98) [Str.ofString "numbers"] (fun Y L hc => ?_) hv rfl rfl rfl (by kernel_rfl) rfl (fun vals e => ?_) (by decide +kernel) (by decide +kernel) rfl rfl rfl rfl rfl rfl
  · have hsc := hc.sc
    conv at hsc => rhs; whnf
    conv in bodyOf _ => whnf
    change Ex Y _ ⟨(Str.ofString "numbers", _) :: [], _, _, _⟩ _
    refine Ex_cons (Ex_assign (Ev_listO (Evs_cons (Ev_listO (Evs_nil ⟨Nat.zero_le _, fun b _ => Evs_nil ⟨?_, fun a ha => seqK_next ?_⟩⟩)))))
    · show 1 ≤ sizeLine; decide
    have hab : a ≠ b := fun e => ha [] (by rw [e]; exact List.mem_cons_self)
    refine Ex_cons (Ex_for (Ev_nameL ⟨_, iter_lst _, fun i σ' => ∃ b pre cur, Jp σ' a b pre cur ∧ (pre.map (·.2), cur) = (ns.take i).foldl pstep ([], []) ∧ pre.length + cur.length ≤ i, fun av => ⟨b, [], [], ⟨lk_hit, List.mem_cons_self, (fun q hq => nomatch hq), List.mem_cons_of_mem _ List.mem_cons_self, hab⟩, rfl, Nat.le_refl _⟩, .inl (kd hsc (by rfl)), ?_, ?_⟩))
    · rintro i v ⟨loc, own, mu, av⟩ hvv ⟨b, pre, cur, ⟨j1, j2, j3, j4, j5⟩, hfold, hcnt⟩
      obtain ⟨x, hx, rfl⟩ := map_get hvv
      have hi := (List.getElem?_eq_some_iff.mp hx).1
      dsimp only at j1 j2 j3 j4 ⊢
      have hm7 : Int.fmod x 7 = x % 7 := Int.fmod_eq_emod_of_nonneg x (by decide)
      refine Ex_cons (Ex_if (Tr_cmp (Ev_bin (Ev_nameL (Ev_int (O_modI ?_ (Ev_int (O_eqI (B_bool ?_)))))))))
      · decide
      rw [hm7]
      refine brK_split (fun h0 => ?_) (fun h0 => ?_)
      · have hx0 : x % 7 = 0 := by simpa using h0
        refine Ex_cons (Ex_expr (Ev_append (Ev_nameL ⟨a, _, rfl, j2, Ev_listO (Evs_nil ⟨Nat.zero_le _, fun c hcn => ?_⟩)⟩)))
        obtain ⟨own', O, hm'⟩ := OwnSet.of_mem (vs' := (pre.map (fun q => V.own q.1) ++ [.own b]) ++ [.own c]) (List.mem_cons_of_mem (c, ([] : List V)) j2)
        have hca : c ≠ a := fun e => hcn _ (e ▸ j2)
        have hcb : c ≠ b := fun e => hcn _ (e ▸ j4)
        refine ⟨_, own', O, ?_, rfl, ?_⟩
        · simp only [List.length_append, List.length_map, List.length_cons, List.length_nil]; rw [sizeLine_eq]; omega
        refine seqK_next (Ex_nil (seqK_next (Ex_nil (forK_next ⟨c, pre ++ [(b, cur)], [], ⟨lk_miss (by decide) j1, by simpa using hm', fun q hq => ?_, O.other hca List.mem_cons_self, Ne.symm hca⟩, ?_, ?_⟩))))
        · rcases List.mem_append.mp hq with hq | hq
          · obtain ⟨k1, k2, k3⟩ := j3 q hq
            exact ⟨O.other k3 (List.mem_cons_of_mem _ k1), fun e => hcn _ (e ▸ k1), k3⟩
          · obtain rfl := List.mem_singleton.mp hq
            exact ⟨O.other (Ne.symm j5) (List.mem_cons_of_mem _ j4), Ne.symm hcb, Ne.symm j5⟩
        · rw [take_next hx, List.foldl_append, ← hfold]
          simp [pstep, hx0]
        · simp; omega
      · have hx0 : x % 7 ≠ 0 := by simpa using h0
        have hlast : (pre.map (fun q => V.own q.1) ++ [V.own b])[((-1 : Int) + ((pre.map (fun q => V.own q.1) ++ [V.own b]).length : Nat)).toNat]? = some (.own b) := by
          rw [List.length_append, List.length_map, show ((-1 : Int) + ((pre.length + [V.own b].length : Nat) : Int)).toNat = pre.length by simp; omega, List.getElem?_append_right (by simp)]
          simp
        obtain ⟨own', O, hm'⟩ := OwnSet.of_mem (vs' := cur.map kv ++ [kv (kf x)]) j4
        have hkv : V.int (Int.fmod x 7) = kv (kf x) := by rw [hm7, kv, kf_val hx0]
        refine Ex_cons (Ex_expr (Ev_append (Ev_sub (Ev_nameL (Ev_una (Ev_int (O_neg (O_itemLn (.own j2) ?_ ?_ ?_ hlast ⟨b, _, rfl, j4, Ev_bin (Ev_nameL (Ev_int (O_modI ?_ ⟨cur.map kv, own', ?_, ?_, rfl, ?_⟩)))⟩))))))))
        · decide
        · simp; omega
        · decide
        · decide
        · rw [hkv]; exact O
        · rw [List.length_map, sizeLine_eq]; omega
        refine seqK_next (Ex_nil (seqK_next (Ex_nil (forK_next ⟨b, pre, cur ++ [kf x], ⟨lk_miss (by decide) j1, O.other j5 j2, fun q hq => ?_, by simpa using hm', j5⟩, ?_, ?_⟩))))
        · obtain ⟨k1, k2, k3⟩ := j3 q hq
          exact ⟨O.other k2 k1, k2, k3⟩
        · rw [take_next hx, List.foldl_append, ← hfold]
          simp [pstep, hx0]
        · simp; omega
    · rintro ⟨loc, own, mu, av⟩ av' ⟨b, pre, cur, ⟨j1, j2, j3, j4, j5⟩, hfold, hcnt⟩
      dsimp only at j1 j2 j3 j4 ⊢
      rw [List.length_map, List.take_length] at hfold
      refine seqK_next (Ex_cons (Ex_return (Ev_nameL (seqK_ret ⟨_, .own j2 (FrzAll.append (vs' := pre.map fun q => V.lst (q.2.map kv)) (ws' := [.lst (cur.map kv)]) ?_ (.cons (.own j4 (.same _)) .nil)), ?_⟩))))
      · clear hfold hcnt j2
        induction pre with
        | nil => exact .nil
        | cons q pre ih => exact .cons (.own (j3 q List.mem_cons_self).1 (.same _)) (ih fun q hq => j3 q (List.mem_cons_of_mem _ hq))
      · have e : (pats ns).map (fun p => V.lst (p.map kv)) = (pre.map fun q => V.lst (q.2.map kv)) ++ [.lst (cur.map kv)] := by
          unfold pats
          rw [← hfold]
          simp
        rw [← e]; exact h
  · match vals, e with
    | [a], _ => rfl
end Mine
end
section
open PySem PySem.W PyProof.Rows PySem.Spec PySem.Calls
namespace Mine
section
variable {prog : Program} {w : World} {A : Around} {E : Value → Shared → Prop} {s : Shared}
theorem setItem_neg {l : Addr} {items : Array Value} {k : Int} {t : Tok} {v : Value} {Q : Unit → Shared → Prop} (hl : PlainL s.heap l items)
    (h0 : k < 0) (h1 : -(items.size : Int) ≤ k) (hfit : -(2 ^ 63) ≤ k)
    (hQ : ∀ h', PlainL h' l (items.setIfInBounds (k + items.size).toNat v) → Heap.SameBut l s.heap h' → Q () { s with heap := h' }) : wpAny (model prog w) A (setItem (.ref l) (.int k t) v) Q E s := by
  obtain ⟨o, ne, ho, hc, hdn, hd⟩ := id hl
  have hT := hl.isList.typeIs
  have hidx := seqIndex_neg h0 h1
  have hlt : (k + items.size).toNat < items.size := by omega
  have hx : items[(k + items.size).toNat]? = some items[(k + items.size).toNat] := Array.getElem?_eq_getElem hlt
  have hfi := fitsIndex_neg h0 hfit
  unfold setItem
  try with_reducible refine wpAny_holding ?_
  first | refine wpAny_bind (wpAny_pure ?_) | skip
  refine wpAny_bind (wpAny_sequenceKey hT (by decide) ?_)
  refine wpAny_bind (wpAny_callSpecial?_slot (name := Str.ofString "__setitem__") hT slot_list_setitem
    (wpAny_call_entry slot_list_setitem hT entry_list_setitem ?_ (args_list_setitem _ _ _)))
  show wpAny _ _ (Builtin.List.listSubscript? (.int k t) >>= _) _ _ s
  refine wpAny_bind (wpAny_listSubscript_int hfi ?_)
  clear hfit hfi
  obtain ⟨j, rfl⟩ : ∃ j : Nat, k = Int.negSucc j := by
    cases k with
    | ofNat n => exact absurd h0 (Int.not_lt.mpr (Int.natCast_nonneg n))
    | negSucc n => exact ⟨n, rfl⟩
  show wpAny _ _ ((Builtin.List.listItems (.ref l) >>= fun xs => pure ((seqIndex? (Int.negSucc j) xs.size).bind fun i => xs[i]?.map (i, ·))) >>= _) _ _ s
  refine wpAny_bind (wpAny_bind ?_)
  show wpAny _ _ (seqItems? (.ref l) >>= _) _ _ s
  refine wpAny_bind (wpAny_seqItems ho hd (wpAny_pure (wpAny_pure ?_)))
  rw [hidx]
  simp only [Option.bind_some, hx, Option.map_some]
  obtain ⟨n', hd'⟩ := Obj.data_mapSeq hd (·.setIfInBounds (Int.negSucc j + items.size).toNat v)
  refine wpAny_bind (wpAny_setSeqItemAt ho hd ?_)
  refine wpAny_pure ⟨.none, rfl, wpAny_pure (hQ _ ⟨_, n', Heap.get?_update_self _ ho (Obj.isFreed_of_seq hd'), (Obj.cls_mapSeq ..).trans hc, ?_, hd'⟩ (Heap.SameBut.update ..))⟩
  obtain ⟨c, d, dt, sl⟩ := o
  subst hd
  exact hdn
end
section
variable {X : Act} {σ : St} {KF : Fl → St → Prop}
/-- a[k] = v, k below zero, a list of the activation's own -/
theorem Ex_setNeg {o i value : Expr} {pos' pos : Pos} (h : Ev X (eval value X.env) σ fun v σ₁ => Ev X (eval o X.env) σ₁ fun ov σ₂ => Ev X (eval i X.env) σ₂ fun iv σ₃ => ∃ a its own' k, ov = .own a ∧ iv = .int k ∧ k < 0 ∧ -(its.length : Int) ≤ k ∧ -(2 ^ 63) ≤ k ∧ OwnSet a its (its.set (k + its.length).toNat v) σ₃.own own' ∧ KF .next { σ₃ with own := own' })
    (hs : swapsWith value (some (.Subscript o i pos')) pos.line X.env = pure false := by rfl) : Ex X (exec (.Assign [.Subscript o i pos'] value pos) X.env) σ KF := by
  intro s Q E R hQ
  refine wpAny_Assign_Subscript (h s _ _ R fun vv v σ₁ s₁ R₁ L₁ i₁ h₁ => h₁ s₁ _ _ R₁ fun vo ov σ₂ s₂ R₂ L₂ i₂ h₂ => h₂ s₂ _ _ R₂ fun vi iv σ₃ s₃ R₃ L₃ i₃ h₃ => ?_) hs
  obtain ⟨a, its, own', k, rfl, rfl, k0, k1, k2, O, hK⟩ := h₃
  cases i₂
  cases i₃
  obtain ⟨_, vals, p, il⟩ := R₃.own a its O.mem
  have iv' := L₃.vin R₂ (L₂.vin R₁ i₁)
  refine setItem_neg p k0 (by rw [List.size_toArray, il.length]; exact k1) k2 fun h' p' hs' => ?_
  have z := R₃.setOwn (tk := s₃.toks) (vals' := vals.set (k + its.length).toNat vv) O (il.set iv') (by rw [List.size_toArray, il.length] at p'; simpa using p') hs'
  exact hQ _ _ _ _ z.1 (((L₁.trans L₂).trans L₃).trans z.2) .next hK
end
end Mine
end
section
open PySem PySem.W PyProof.Rows PySem.Spec PySem.Calls
namespace Mine
/-- the parts between the stars -/
def tstep (a : List (List Nat) × List Nat) (x : _root_.Fin 6) : List (List Nat) × List Nat := if x = 0 then (a.1 ++ [a.2], []) else (a.1, a.2 ++ pl x)
theorem tstep_sp (l : List (_root_.Fin 6)) : ∀ a : List (List Nat) × List Nat, (l.foldl tstep a).1 ++ [(l.foldl tstep a).2] = a.1 ++ (a.2 ++ J (sp l).1) :: (sp l).2.map J := by
  induction l with
  | nil => intro a; simp [sp, J, catL]
  | cons x l ih =>
    intro a
    rw [List.foldl_cons, ih]
    by_cases h : x = 0
    · subst h; rw [sp_star]; simp [tstep, J, catL]
    · rw [sp_else h]; simp [tstep, h, J_cons]
def wrap (l : List Nat) : List Nat := [40, 63, 62, 46, 42, 63] ++ l ++ [41]
theorem midT_eq : ∀ s : List (List (_root_.Fin 6)), midT s = catL ((s.dropLast.map J).map wrap) ++ (if s = [] then [] else [46, 42] ++ ((s.map J).getLast?).getD [])
  | [] => by simp [midT, catL]
  | [f] => by simp [midT, catL]
  | f :: g :: s => by
    have ih := midT_eq (g :: s)
    rw [midT, if_neg (by simp), ih]
    simp [catL, wrap]
theorem flat_le {a : List Nat} : ∀ {ys : List (List Nat)}, a ∈ ys → a.length ≤ (catL ys).length
  | y :: ys, h => by
    rcases List.mem_cons.mp h with rfl | h
    · simp [catL]
    · have := flat_le h
      simp only [catL, List.flatten_cons, List.length_append] at this ⊢
      omega
theorem lens_S (ys : List (List Nat)) : ((ys.map S).map (·.length)).sum = (catL ys).length := by
  rw [catL, List.length_flatten, List.map_map]
  congr 1
theorem lit_dstar : Str.ofString ".*" = S [46, 42] := lit_ds
structure Jt (σ : St) (ra : Addr) (a : List (List Nat) × List Nat) : Prop where
  lk : σ.loc.lookup (Str.ofString "parts") = some (.own ra)
  own : (ra, ((a.1 ++ [a.2]).map S).map V.str) ∈ σ.own
set_option maxRecDepth 20000 in
set_option maxHeartbeats 4000000 in
theorem T_text (l : List (_root_.Fin 6)) (hp : l.length ≤ 100) {X : Act} {σ : St} {K : V → St → Prop} (hv : 1 ≤ X.lvl) (h : K (.str (S (textT l))) σ) :
    OpN X (fun vals => call (.ref 108) vals) [.lst (l.map (pv .none))] σ K := by
  refine O_call (f := 108) [Str.ofString "pieces"] (fun Y L hc => ?_) hv rfl rfl rfl (by kernel_rfl) rfl (fun vals e => ?_) (by decide +kernel) (by decide +kernel) rfl rfl rfl rfl rfl rfl
  · have hsc := hc.sc
    conv at hsc => rhs; whnf
    conv in bodyOf _ => whnf
    change Ex Y _ ⟨(Str.ofString "pieces", _) :: [], _, _, _⟩ _
    have hbd := body_len l
    rw [lit_e]
    refine Ex_cons (Ex_assign (Ev_listO (Evs_cons (Ev_str (Evs_nil ⟨?_, fun ra _ => seqK_next ?_⟩)))))
    · show 1 ≤ sizeLine; decide
    have hlen : ∀ i, i ≤ l.length → ((l.take i).foldl tstep ([], [])).1.length ≤ i ∧ ((l.take i).foldl tstep ([], [])).2.length ≤ 4 * i := by
      intro i
      induction i with
      | zero => intro _; simp
      | succ n ih =>
        intro hn
        have hx : l[n]? = some l[n] := List.getElem?_eq_getElem hn
        obtain ⟨h1, h2⟩ := ih (Nat.le_of_lt hn)
        rw [take_next hx, List.foldl_append]
        have := pl_len l[n]
        simp only [List.foldl_cons, List.foldl_nil, tstep]
        split
        · simp; omega
        · simp; omega
    refine Ex_cons (Ex_for (Ev_nameL ⟨_, iter_lst _, fun i σ' => Jt σ' ra ((l.take i).foldl tstep ([], [])) ∧ i ≤ l.length, fun av => ⟨⟨lk_hit, List.mem_cons_self⟩, Nat.zero_le _⟩, .inl (kd hsc (by rfl)), ?_, ?_⟩))
    · rintro i v ⟨loc, own, mu, av⟩ hvv ⟨⟨j1, j2⟩, hil⟩
      obtain ⟨x, hx, rfl⟩ := map_get hvv
      have hi := (List.getElem?_eq_some_iff.mp hx).1
      obtain ⟨hl1, hl2⟩ := hlen i hil
      dsimp only at j1 j2 ⊢
      have hne : pv .none x ≠ .undef := by
        by_cases h0 : x = 0
        · subst h0; nofun
        · rw [pv_else h0]; nofun
      generalize hA : (l.take i).foldl tstep ([], []) = A at j2 hl1 hl2
      refine Ex_cons (Ex_if (Tr_cmp (Ev_nameL (Ev_none (O_is (isNone_pv x) (B_bool ?_))))))
      refine brK_split (fun h0 => ?_) (fun h0 => ?_)
      · have hx0 : x = 0 := by simpa using h0
        obtain ⟨own', O, hm'⟩ := OwnSet.of_mem (vs' := ((A.1 ++ [A.2]).map S).map V.str ++ [.str (S [])]) j2
        refine Ex_cons (Ex_expr (Ev_append (Ev_nameL ⟨ra, _, rfl, j2, Ev_str ⟨_, own', O, ?_, rfl, ?_⟩⟩)))
        · simp only [List.length_append, List.length_map, List.length_cons, List.length_nil]; rw [sizeLine_eq]; omega
        refine seqK_next (Ex_nil (seqK_next (Ex_nil (forK_next ⟨⟨lk_miss (by decide) j1, ?_⟩, hi⟩))))
        rw [take_next hx, List.foldl_append, hA]
        simpa [tstep, hx0] using hm'
      · have hx0 : x ≠ 0 := by simpa using h0
        rw [pv_else hx0] at hne ⊢
        have hln : (((A.1 ++ [A.2]).map S).map V.str).length = A.1.length + 1 := by simp
        have hidx : ((-1 : Int) + ((((A.1 ++ [A.2]).map S).map V.str).length : Nat)).toNat = A.1.length := by rw [hln]; omega
        have hlast : (((A.1 ++ [A.2]).map S).map V.str)[((-1 : Int) + ((((A.1 ++ [A.2]).map S).map V.str).length : Nat)).toNat]? = some (.str (S A.2)) := by
          rw [hidx]; simp
        obtain ⟨own', O, hm'⟩ := OwnSet.of_mem (vs' := (((A.1 ++ [A.2]).map S).map V.str).set ((-1 : Int) + ((((A.1 ++ [A.2]).map S).map V.str).length : Nat)).toNat (.str (S A.2 ++ S (pl x)))) j2
        refine Ex_cons (Ex_setNeg (Ev_bin (Ev_sub (Ev_nameL (Ev_una (Ev_int (O_neg (O_itemLn (.own j2) ?_ ?_ ?_ hlast (Ev_nameL (O_addS ?_ (Ev_nameL (Ev_una (Ev_int (O_neg ⟨ra, _, own', _, rfl, rfl, ?_, ?_, ?_, O, ?_⟩))))))))))))))
        · decide
        · rw [hln]; omega
        · decide
        · have := pl_len x; rw [S_len, S_len, sizeLine_eq]; omega
        · decide
        · rw [hln]; omega
        · decide
        refine seqK_next (Ex_nil (seqK_next (Ex_nil (forK_next ⟨⟨lk_miss (by decide) j1, ?_⟩, hi⟩))))
        rw [take_next hx, List.foldl_append, hA]
        rw [hidx, S_app] at hm'
        have e : ((A.1 ++ [A.2]).map S).map V.str = (A.1.map S).map V.str ++ [.str (S A.2)] := by simp
        have e2 : ∀ w : V, ((A.1.map S).map V.str ++ [V.str (S A.2)]).set A.1.length w = (A.1.map S).map V.str ++ [w] := fun w => by
          rw [List.set_append]
          simp
        rw [e, e2] at hm'
        simpa [tstep, hx0] using hm'
    · rintro ⟨loc, own, mu, av⟩ av' ⟨⟨j1, j2⟩, _⟩
      rw [List.length_map, List.take_length] at j2
      have hbody : (l.foldl tstep ([], [])).1 ++ [(l.foldl tstep ([], [])).2] = J (sp l).1 :: (sp l).2.map J := by
        rw [tstep_sp]; simp
      obtain ⟨hl1, hl2⟩ := hlen l.length (Nat.le_refl _)
      rw [List.take_length] at hl1 hl2
      have hcnt := congrArg List.length hbody
      rw [List.length_append, List.length_cons, List.length_cons, List.length_nil, List.length_map] at hcnt
      rw [hbody] at j2
      dsimp only at j1 j2 ⊢
      generalize hf0 : J (sp l).1 = f0 at j2 hbody
      generalize hsg : (sp l).2 = sg at j2 hcnt hbody
      have hbd' : (f0 ++ midT sg).length ≤ 12 * l.length := by rw [← hf0, ← hsg]; exact hbd
      rw [midT_eq] at hbd'
      rw [List.length_append, List.length_append] at hbd'
      have hpk : pick (((f0 :: sg.map J).map S).map V.str) (some 1) (some (-1)) = ((sg.dropLast.map J).map S).map V.str := by
        rw [pick_inner]
        simp only [List.map_cons, List.drop_succ_cons, List.drop_zero, List.length_cons, List.length_map]
        rw [List.map_dropLast, List.map_dropLast, List.map_dropLast, List.dropLast_eq_take]
        simp
      have hll : (((f0 :: sg.map J).map S).map V.str).length = sg.length + 1 := by simp
      refine seqK_next (Ex_cons (Ex_assign (Ev_bin (Ev_sub (Ev_nameL (Ev_int (O_itemL (v := .str (S f0)) (.own j2) ?_ ?_ ?_ ?_)))))))
      · decide
      · decide
      · rfl
      refine Ev_join (x := S []) (ys := ((sg.dropLast.map J).map wrap).map S) (Ev_str ⟨rfl, ?_⟩)
      refine Ev_comp (fv₀ := []) frees0 (Ev_sliceL (Ev_nameL (EvP_some (Ev_int ⟨_, rfl, ?_⟩))))
      refine EvP_some (Ev_una (Ev_int (O_neg ⟨_, rfl, ⟨_, .own j2, ?_, ?_⟩⟩)))
      · rw [hll, sizeLine_eq]; omega
      rw [hpk]
      have hdl : sg.dropLast.length ≤ l.length := by rw [List.length_dropLast]; omega
      have hcat : catL ((sg.dropLast.map J).map wrap) = ((sg.dropLast.map J).map wrap).flatten := rfl
      refine ⟨_, [], (sg.dropLast.map J).map fun p => some (.str (S (wrap p))), iter_lst _, ?_, frees0, rfl, ?_, ?_, ?_, ?_, ?_⟩
      · simp only [List.length_map]; rw [sizeLine_eq]; omega
      · simp
      · intro Y' hi i u σY hu hlu hfv
        obtain ⟨q, hq, rfl⟩ := map_get hu
        obtain ⟨f, hf, rfl⟩ := map_get hq
        have hsc' := hi.sc
        rw [hsc] at hsc'
        have hfl : f.length ≤ 12 * l.length := by
          have hm : f ∈ sg.dropLast.map J := List.mem_of_getElem? hf
          have h1 : (wrap f).length ≤ (catL ((sg.dropLast.map J).map wrap)).length := by
            exact flat_le (List.mem_map.mpr ⟨f, hm, rfl⟩)
          simp only [wrap, List.length_append] at h1
          omega
        refine Fs_nil ⟨rfl, ?_⟩
        rw [if_pos rfl]
        refine Ev_bin (Ev_bin (Ev_str (Ev_nameL (O_addS ?_ (Ev_str (O_addS ?_ ⟨rfl, ?_⟩))))))
        · rw [lit_b, S_len, S_len, sizeLine_eq]; simp; omega
        · rw [lit_b, lit_c, S_app, S_len, S_len, sizeLine_eq]; simp; omega
        · rw [lit_b, lit_c, S_app, S_app, List.getElem?_map, hf]; rfl
      · have e : ((sg.dropLast.map J).map fun p => some (V.str (S (wrap p)))).filterMap id = (((sg.dropLast.map J).map wrap).map S).map V.str := by
          rw [List.filterMap_map]; simp [Function.comp_def]
        rw [e]; exact .lst _
      · rw [lens_S, S_len]; simp only [List.length_nil, Nat.mul_zero]; omega
      rw [join_S]
      refine O_addS ?_ (seqK_next ?_)
      · rw [S_len, S_len, sizeLine_eq]; omega
      rw [S_app]
      refine Ex_cons (Ex_return (Ev_bin (Ev_bin (Ev_bin (Ev_str (Ev_nameL (O_addS ?_ ?_)))))))
      · rw [lit_a, S_len, S_len, sizeLine_eq]; simp only [List.length_append, List.length_cons, List.length_nil]; omega
      rw [lit_a, S_app]
      refine Ev_ifexp (Tr_cmp (Ev_callB "len" (Ev_builtin ⟨rfl, Evs_cons (Ev_nameL (Evs_nil (O_lenL (.own j2) ?_ (Ev_int (O_gtI (B_bool ?_))))))⟩)))
      · rw [hll, sizeLine_eq]; omega
      rw [hll]
      have htext : textT l = [40, 63, 115, 58] ++ (f0 ++ (catL ((sg.dropLast.map J).map wrap) ++ (if sg = [] then [] else [46, 42] ++ ((sg.map J).getLast?).getD []))) ++ [41, 92, 90] := by
        rw [textT, body, hf0, hsg, midT_eq]
      refine brK_split (fun hg => ?_) (fun hg => ?_)
      · have hg1 : 1 ≤ sg.length := by
          have : (1 : Int) < ((sg.length + 1 : Nat) : Int) := by simpa using hg
          omega
        have hsn : sg ≠ [] := fun e => by rw [e] at hg1; simp at hg1
        obtain ⟨z, hz⟩ : ∃ z, (sg.map J).getLast? = some z := by
          cases e : (sg.map J).getLast? with
          | none => rw [List.getLast?_eq_none_iff] at e; exact absurd (List.map_eq_nil_iff.mp e) hsn
          | some z => exact ⟨z, rfl⟩
        have hlast : (((f0 :: sg.map J).map S).map V.str)[((-1 : Int) + ((((f0 :: sg.map J).map S).map V.str).length : Nat)).toNat]? = some (.str (S z)) := by
          rw [hll, show ((-1 : Int) + ((sg.length + 1 : Nat) : Int)).toNat = sg.length by omega, List.getElem?_map, List.getElem?_map]
          rw [List.getLast?_eq_getElem?, List.length_map] at hz
          rw [show sg.length = (sg.length - 1) + 1 by omega, List.getElem?_cons_succ, hz]; rfl
        have hzl : z.length ≤ 12 * l.length := by
          rw [if_neg hsn, hz] at hbd'
          simp at hbd'; omega
        refine Ev_bin (Ev_str (Ev_sub (Ev_nameL (Ev_una (Ev_int (O_neg (O_itemLn (.own j2) ?_ ?_ ?_ hlast (O_addS ?_ ?_))))))))
        · decide
        · rw [hll]; omega
        · decide
        · rw [lit_ds, S_len, S_len, sizeLine_eq]; simp only [List.length_append, List.length_cons, List.length_nil]; omega
        rw [lit_ds, S_app]
        refine O_addS ?_ (Ev_str (O_addS ?_ ?_))
        · rw [S_len, S_len, sizeLine_eq]; simp only [List.length_append, List.length_cons, List.length_nil]; omega
        · rw [S_app, lit_z, S_len, S_len, sizeLine_eq]; simp only [List.length_append, List.length_cons, List.length_nil]; omega
        rw [S_app, lit_z, S_app]
        rw [if_neg hsn, hz] at htext
        have e : [40, 63, 115, 58] ++ (f0 ++ catL ((sg.dropLast.map J).map wrap)) ++ ([46, 42] ++ z) ++ [41, 92, 90] = textT l := by rw [htext]; simp
        rw [e]
        exact seqK_ret ⟨_, .same _, h⟩
      · have hg1 : sg = [] := by
          have : ¬ (1 : Int) < ((sg.length + 1 : Nat) : Int) := by simpa using hg
          exact List.eq_nil_of_length_eq_zero (by omega)
        refine Ev_str (O_addS ?_ (Ev_str (O_addS ?_ ?_)))
        · rw [S_len, S_len, sizeLine_eq]; simp only [List.length_append, List.length_cons, List.length_nil]; omega
        · rw [S_app, lit_z, S_len, S_len, sizeLine_eq]; simp only [List.length_append, List.length_cons, List.length_nil]; omega
        rw [S_app, lit_z, S_app]
        rw [if_pos hg1] at htext
        have e : [40, 63, 115, 58] ++ (f0 ++ catL ((sg.dropLast.map J).map wrap)) ++ [] ++ [41, 92, 90] = textT l := by rw [htext]; simp
        rw [e]
        exact seqK_ret ⟨_, .same _, h⟩
  · match vals, e with
    | [a], _ => rfl
end Mine
end
section
open PySem PySem.W PyProof.Rows PySem.Spec PySem.Calls
namespace Mine
/-- an exception of a builtin class: not yet noted, or noted by an entry in the state fl -/
def Exn (h₀ : Heap) (σ : St) (h : Heap) (e : Addr) (cls : String) (fl : Option Value) : Prop :=
  ∃ ob vs, h.get? e = some ob ∧ ob.cls = .type cls ∧ ob.data = .fields vs ∧ vs[2]? = some .none ∧ e ∈ σ.av ∧ h₀.get? e = none ∧ (match fl with
    | none => vs[1]? = some .none
    | some f => ∃ T oT ts, vs[1]? = some (.ref T) ∧ T ∈ σ.av ∧ T ≠ e ∧ h₀.get? T = none ∧ h.get? T = some oT ∧ oT.data = .fields ts ∧ ts[3]? = some f)
section
variable {X : Act} {σ : St} {s : Shared}
theorem Framed.fun (F : Framed X) (R : Rep X σ s) : ∃ outer, X.A.frames = some (X.env :: outer) ∧ X.env.frame = some X.env.locals ∧ s.heap.FunFrames X.hb (X.env :: outer) ∧ ∀ b ∈ (X.env :: outer).filterMap (·.frame), b = X.env.locals ∨ b ∈ X.fr := by
  obtain ⟨outer, h1, h2, h3⟩ := F
  refine ⟨outer, h1, h2, ⟨by rw [R.ok.kind]; decide, ?_, ?_⟩, ?_⟩
  · obtain ⟨m, o, es, ep, ho, hd, _⟩ := R.ns
    refine ⟨X.env.locals, o, h2, ?_, ho, fun vs q => by rw [hd] at q; cases q⟩
    cases e : X.hb.get? X.env.locals with
    | none => rfl
    | some o => exact absurd (R.ok.base _ o e) (R.mu_s₀ R.lmut)
  · clear h1
    induction outer with
    | nil => trivial
    | cons x outer ih =>
      obtain ⟨hk, L, hL, hf, o, ho, hd⟩ := h3 x List.mem_cons_self
      obtain ⟨sl, z⟩ := R.frs L hL o ho
      exact ⟨hk, ⟨L, _, hf, R.ok.hbF L hL, z, hd⟩, ih fun e he => h3 e (List.mem_cons_of_mem _ he)⟩
  · intro b hb
    obtain ⟨x, hx, hxf⟩ := List.mem_filterMap.mp hb
    rcases List.mem_cons.mp hx with rfl | hx
    · rw [h2] at hxf; exact .inl (Option.some.inj hxf).symm
    · obtain ⟨_, L, hL, hf, _⟩ := h3 x hx
      rw [hf] at hxf; exact .inr (Option.some.inj hxf ▸ hL)
/-- the frames are made ready -/
theorem Rep.slots (R : Rep X σ s) {S : List Addr} (hS : ∀ b ∈ S, b = X.env.locals ∨ b ∈ X.fr) {h' : Heap} (hs : Heap.SlotsOnly S s.heap h') : Rep X σ { s with heap := h' } ∧ Later X σ s σ { s with heap := h' } := by
  have hPS : X.P ∉ S := fun hm => (hS _ hm).elim (fun q => R.mu_ne R.lmut q.symm) R.ok.frP
  have hoff : ∀ b o, b ∉ off X σ → s.heap.get? b = some o → h'.get? b = some o := fun b o hb e => (hs.2.1 b fun hm => (hS b hm).elim (fun q => hb (off_mu (q ▸ R.lmut))) fun q => hb (off_mu₀ (R.ok.frm b q))).trans e
  exact R.growP (s' := { s with heap := h' }) ⟨h', s.toks, rfl⟩ (fun b o _ h2 h3 e => (hs.2.1 b fun hm => (hS b hm).elim h2 h3).trans e) (fun b _ o e => hs.2.2 b o e) (R.tab.later (fun o e => (hs.2.1 _ hPS).trans e) hoff fun b hb => .inl hb)
/-- an entry is added -/
theorem note_new {σ₀ : St} {s₀ : Shared} (F : Framed X) (R : Rep X σ s) (L₀ : Later X σ₀ s₀ σ s) {e : Addr} {ob : Obj} {vs : Array Value} {cls : String} {head : Value} {hn : Bool} (he : s.heap.get? e = some ob) (hc : ob.cls = .type cls) (hd : ob.data = .fields vs) (h2 : vs[2]? = some .none) (hav : e ∈ σ.av) (hn0 : s₀.heap.get? e = none) {Q : Unit → Shared → Prop} {E : Value → Shared → Prop}
    (hQ : ∀ T s', Rep X { σ with av := T :: σ.av } s' → Later X σ₀ s₀ { σ with av := T :: σ.av } s' → Exn s₀.heap { σ with av := T :: σ.av } s'.heap e cls (some (rawInt X.env.locals)) → Q () s') :
    wpAny (model X.prog X.w) X.A (do let a ← frameOf X.env; let pl ← entryPlaceOf X.env.locals hn; let b ← EntryCells.newEntry head a .none (rawInt X.env.locals) .none pl; setField (.ref e) 1 b) Q E s := by
  obtain ⟨outer, hfr, hf, hl, hS⟩ := F.fun R
  refine wpAny_bind (wpAny_frameOf_fun hfr hl hf fun h₁ hs₁ => ?_)
  have z₁ := R.slots hS hs₁
  refine wpAny_bind (wpAny_entryPlaceOf fun pl hpl => ?_)
  refine wpAny_bind ?_
  unfold EntryCells.newEntry newFields
  refine wpAny_newObj_type ?_ (hpl.sizeOk5 _ _ _ _ _)
  have hav2 := R.avn e hav
  have heS : e ∉ (X.env :: outer).filterMap (·.frame) := fun hm => (hS e hm).elim (fun q => hav2.2.2.1 (q ▸ R.lmut)) fun q => Nat.lt_irrefl _ (Nat.lt_of_lt_of_le (R.wild_lt (.inr q)) hav2.1)
  have he₁ : h₁.get? e = some ob := (hs₁.2.1 e heS).trans he
  generalize hTo : ({ cls := .type "traceback", dict := none, data := .fields ([head, Value.ref X.env.locals, .none, rawInt X.env.locals, .none] ++ (if pl.isEmpty then List.replicate 6 Value.none else pl)).toArray } : Obj) = oT
  have z₂ := z₁.1.addAv (tk := s.toks) oT (by rw [← hTo]; rfl)
  have he₂ : (h₁.push oT).get? e = some ob := Heap.get?_push_of_some _ he₁
  have hsz : 1 < vs.size := Nat.lt_trans (by decide) (Array.getElem?_eq_some_iff.mp h2).1
  have hT₂ : (h₁.push oT).get? h₁.objs.size = some oT := Heap.get?_push_size _ (by rw [← hTo]; rfl)
  have hTe : h₁.objs.size ≠ e := Nat.ne_of_gt (Heap.lt_size he₁)
  have hd₃ := Obj.data_mapFields hd (·.setIfInBounds 1 (Value.ref h₁.objs.size))
  have he₃ := Heap.get?_update_self (Obj.mapFields (·.setIfInBounds 1 (Value.ref h₁.objs.size))) he₂ (Obj.isFreed_of_fields hd₃)
  have hk₃ : ∀ b o, b ≠ e → (h₁.push oT).get? b = some o → ((h₁.push oT).update e (Obj.mapFields (·.setIfInBounds 1 (Value.ref h₁.objs.size)))).get? b = some o := fun b o hb q => (Heap.get?_update_other _ _ (Ne.symm hb)).trans q
  have heav : e ∈ ({ σ with av := h₁.objs.size :: σ.av } : St).av := List.mem_cons_of_mem _ hav
  have R₃ := z₂.1.touchAv (tk := s.toks) (h' := (h₁.push oT).update e (Obj.mapFields (·.setIfInBounds 1 (Value.ref h₁.objs.size)))) heav hk₃ ⟨_, he₃⟩
  have L₃ : Later X σ₀ s₀ { σ with av := h₁.objs.size :: σ.av } { s with heap := (h₁.push oT).update e (Obj.mapFields (·.setIfInBounds 1 (Value.ref h₁.objs.size))) } := by
    exact ((L₀.trans z₁.2).trans z₂.2).but (tk := s.toks) hn0 hk₃ ⟨_, he₃⟩
  have hTd : s₀.heap.get? h₁.objs.size = none := L₀.none (Heap.get?_none_of_le (Nat.le_of_eq hs₁.1.symm))
  refine wpAny_setField he₂ hd hsz (hQ h₁.objs.size _ R₃ L₃ ⟨_, _, he₃, (Obj.cls_mapFields _ _).trans hc, hd₃, ?_, heav, hn0, h₁.objs.size, oT, _, ?_, List.mem_cons_self, hTe, hTd, hk₃ _ _ hTe hT₂, by rw [← hTo], ?_⟩)
  · rw [Array.getElem?_setIfInBounds_ne (by decide)]; exact h2
  · simp [hsz]
  · simp
/-- an entry's flight is set -/
theorem set_T {σ₀ : St} {s₀ : Shared} (R : Rep X σ s) (L₀ : Later X σ₀ s₀ σ s) {e T : Addr} {ob oT : Obj} {vs ts : Array Value} {cls : String} {f g : Value} (he : s.heap.get? e = some ob) (hc : ob.cls = .type cls) (hd : ob.data = .fields vs) (h2 : vs[2]? = some .none) (hav : e ∈ σ.av) (hn0 : s₀.heap.get? e = none)
    (h1 : vs[1]? = some (.ref T)) (hTav : T ∈ σ.av) (hTe : T ≠ e) (hT0 : s₀.heap.get? T = none) (hT : s.heap.get? T = some oT) (hdT : oT.data = .fields ts) (h3 : ts[3]? = some f) {Q : Unit → Shared → Prop} {E : Value → Shared → Prop} {M : Model} {A : Around}
    (hQ : ∀ s', Rep X σ s' → Later X σ₀ s₀ σ s' → Exn s₀.heap σ s'.heap e cls (some g) → Q () s') : wpAny M A (setField (.ref T) 3 g) Q E s := by
  have hsz : 3 < ts.size := (Array.getElem?_eq_some_iff.mp h3).1
  have hdT' := Obj.data_mapFields hdT (·.setIfInBounds 3 g)
  have hT' := Heap.get?_update_self (Obj.mapFields (·.setIfInBounds 3 g)) hT (Obj.isFreed_of_fields hdT')
  have hk : ∀ b o, b ≠ T → s.heap.get? b = some o → (s.heap.update T (Obj.mapFields (·.setIfInBounds 3 g))).get? b = some o := fun b o hb q => (Heap.get?_update_other _ _ (Ne.symm hb)).trans q
  have R' := R.touchAv (tk := s.toks) (h' := s.heap.update T (Obj.mapFields (·.setIfInBounds 3 g))) hTav hk ⟨_, hT'⟩
  have L' := L₀.but (tk := s.toks) hT0 hk ⟨_, hT'⟩
  exact wpAny_setField hT hdT hsz (hQ _ R' L' ⟨ob, vs, hk _ _ (Ne.symm hTe) he, hc, hd, h2, hav, hn0, T, _, _, h1, hTav, hTe, hT0, hT', hdT', by simp [hsz]⟩)
theorem set_flight {σ₀ : St} {s₀ : Shared} (R : Rep X σ s) (L₀ : Later X σ₀ s₀ σ s) {e : Addr} {cls : String} {f : Value} (x : Exn s₀.heap σ s.heap e cls (some f)) (fr : Option Addr) {Q : Unit → Shared → Prop} {E : Value → Shared → Prop} {M : Model} {A : Around}
    (hQ : ∀ s', Rep X σ s' → Later X σ₀ s₀ σ s' → Exn s₀.heap σ s'.heap e cls (some (fr.elim .none fun f => rawInt f)) → Q () s') : wpAny M A (setFlight (.ref e) fr) Q E s := by
  obtain ⟨ob, vs, he, hc, hd, h2, hav, hn0, T, oT, ts, h1, hTav, hTe, hT0, hT, hdT, h3⟩ := x
  unfold setFlight
  refine wpAny_bind (wpAny_field he hd h1 ?_)
  rw [if_pos (show (Value.ref T != Value.none) = true by simp)]
  exact set_T R L₀ he hc hd h2 hav hn0 h1 hTav hTe hT0 hT hdT h3 hQ
theorem note_frame {σ₀ : St} {s₀ : Shared} (F : Framed X) (R : Rep X σ s) (L₀ : Later X σ₀ s₀ σ s) {e : Addr} {cls : String} {fl : Option Value} (x : Exn s₀.heap σ s.heap e cls fl) (hfl : fl = none ∨ fl = some .none ∨ fl = some (rawInt X.env.locals)) {Q : Unit → Shared → Prop} {E : Value → Shared → Prop}
    (hQ : ∀ av s', Rep X { σ with av := av } s' → Later X σ₀ s₀ { σ with av := av } s' → Exn s₀.heap { σ with av := av } s'.heap e cls (some (rawInt X.env.locals)) → Q () s') : wpAny (model X.prog X.w) X.A (noteFrame (.ref e) X.env) Q E s := by
  obtain ⟨outer, hfr, hf, _⟩ := F.fun R
  obtain ⟨ob, vs, he, hc, hd, h2, hav, hn0, rest⟩ := id x
  unfold noteFrame
  simp only [hf]
  rcases hfl with rfl | rfl | rfl
  · refine wpAny_bind (wpAny_field he hd rest ?_)
    rw [if_neg (by decide)]
    exact note_new F R L₀ he hc hd h2 hav hn0 fun T s' R' L' x' => hQ _ _ R' L' x'
  · obtain ⟨T, oT, ts, h1, hTav, hTe, hT0, hT, hdT, h3⟩ := rest
    refine wpAny_bind (wpAny_field he hd h1 ?_)
    rw [if_pos (show (Value.ref T != Value.none) = true by simp)]
    refine wpAny_bind (wpAny_field hT hdT h3 ?_)
    rw [if_neg (show ¬ ((Value.none == rawInt X.env.locals) = true) by simp [rawInt])]
    refine wpAny_bind (set_T R L₀ he hc hd h2 hav hn0 h1 hTav hTe hT0 hT hdT h3 fun s' R' L' x' => ?_)
    obtain ⟨ob', vs', he', hc', hd', h2', hav', hn0', _⟩ := x'
    exact note_new F R' L' he' hc' hd' h2' hav' hn0' fun T s' R' L' x' => hQ _ _ R' L' x'
  · obtain ⟨T, oT, ts, h1, hTav, hTe, hT0, hT, hdT, h3⟩ := rest
    refine wpAny_bind (wpAny_field he hd h1 ?_)
    rw [if_pos (show (Value.ref T != Value.none) = true by simp)]
    refine wpAny_bind (wpAny_field hT hdT h3 ?_)
    rw [if_pos (show (rawInt X.env.locals == rawInt X.env.locals) = true by simp)]
    exact wpAny_pure (hQ σ.av _ R L₀ x)
/-- the activation while an exception is handled -/
abbrev Act.hold (X : Act) (e : Addr) : Act := { X with A := X.A.mark (some (.ref e)) }
theorem ActOk.hold (h : ActOk X) (e : Addr) : ActOk (X.hold e) := ⟨h.kin, h.top, h.chd, h.pc, h.room, h.hbP, h.frm, h.hbF, h.fal, h.frP, h.frC, h.base, h.pmu, h.plt, h.kind, h.glob, h.blt⟩
theorem Rep.hold (R : Rep X σ s) {h₀ : Heap} {e : Addr} {cls : String} {fl : Option Value} (x : Exn h₀ σ s.heap e cls fl) : Rep (X.hold e) { σ with av := σ.av.filter (· != e) } s := by
  obtain ⟨ob, vs, he, hc, hd, h2, hav, _⟩ := x
  have z := R.avn e hav
  have hsub : ∀ b ∈ off (X.hold e) { σ with av := σ.av.filter (· != e) }, b ∈ off X σ := fun b hb => by
    rcases List.mem_append.mp hb with hb | hb
    · exact off_mu hb
    · rcases List.mem_append.mp hb with hb | hb
      · exact off_av (List.mem_filter.mp hb).1
      · exact off_mu₀ hb
  have hn : ∀ b ∈ off (X.hold e) { σ with av := σ.av.filter (· != e) }, b ∈ off X σ ∨ s.heap.get? b = none := fun b hb => .inl (hsub b hb)
  have hen : e ∉ off (X.hold e) { σ with av := σ.av.filter (· != e) } := fun hm => by
    rcases List.mem_append.mp hm with hm | hm
    · exact z.2.2.1 hm
    · rcases List.mem_append.mp hm with hm | hm
      · have q := (List.mem_filter.mp hm).2
        simp at q
      · exact Nat.lt_irrefl _ (Nat.lt_of_lt_of_le (R.mlt e hm) z.1)
  have ht := R.tab.later (mu' := off (X.hold e) { σ with av := σ.av.filter (· != e) }) (fun _ e => e) (fun _ _ _ e => e) hn
  refine ⟨R.ok.hold e, R.sh, R.keep, R.frs, ⟨ht.tab, .inr ⟨e, ob, vs, rfl, he, hd, h2, hen⟩⟩, R.new, R.lmut, R.ns, fun y v q => ?_, R.cmut, fun a ws hm => ?_, R.apart, R.clt, R.mlt, fun b hb => R.avn b (List.mem_filter.mp hb).1⟩
  · have w := (R.var y v q).later (mu' := off (X.hold e) { σ with av := σ.av.filter (· != e) }) (fun _ e => e) (fun _ _ _ e => e) (fun _ _ _ e => e) hn
    exact ⟨w.loc, w.cell⟩
  · obtain ⟨h1, vals, p, i⟩ := R.own a ws hm
    exact ⟨h1, vals, p, i.later (fun _ _ _ e => e) hn⟩
theorem Rep.unhold {e : Addr} (hh : X.A.handled = none) (ok : ActOk X) (R : Rep (X.hold e) σ s) : Rep X σ s :=
  ⟨ok, R.sh, R.keep, R.frs, ⟨R.tab.tab, .inl hh⟩, R.new, R.lmut, R.ns, fun y v q => let w := R.var y v q; ⟨w.loc, w.cell⟩, R.cmut, R.own, R.apart, R.clt, R.mlt, R.avn⟩
theorem Later.unhold {e : Addr} {σ' : St} {s' : Shared} (L : Later (X.hold e) σ s σ' s') : Later X σ s σ' s' := ⟨L.keep, L.new, L.newM, L.av, L.live⟩

/-- t surely raises -/
def Rz {α : Type} (X : Act) (t : Sem α) (σ : St) (cls : String) (fl : Option Value) (K : St → Prop) : Prop :=
  ∀ s Q E, Rep X σ s → (∀ e σ' s', Rep X σ' s' → Later X σ s σ' s' → Exn s.heap σ' s'.heap e cls fl → K σ' → E (.ref e) s') → wpAny (model X.prog X.w) X.A t Q E s
theorem Exn.base {h₀ h₁ h : Heap} {e : Addr} {cls : String} {fl : Option Value} (x : Exn h₁ σ h e cls fl) (k : ∀ q, h₁.get? q = none → h₀.get? q = none) : Exn h₀ σ h e cls fl := by
  obtain ⟨ob, vs, a, b, c, d, f, g, r⟩ := x
  refine ⟨ob, vs, a, b, c, d, f, k _ g, ?_⟩
  cases fl with
  | none => exact r
  | some fv =>
    obtain ⟨T, oT, ts, r1, r2, r3, r4, r5⟩ := r
    exact ⟨T, oT, ts, r1, r2, r3, k _ r4, r5⟩
theorem Rz_first {st : Stmt} {rest : List Stmt} {cls : String} {fl : Option Value} {K : St → Prop} (h : Rz X (exec st X.env) σ cls fl K) : Rz X (execs (st :: rest) X.env) σ cls fl K :=
  fun s Q E R hE => wpAny_execs_cons (h s _ _ R hE)
theorem Rz_next {st : Stmt} {rest : List Stmt} {cls : String} {fl : Option Value} {K : St → Prop} (h : Ex X (exec st X.env) σ fun f σ₁ => f = .next ∧ Rz X (execs rest X.env) σ₁ cls fl K) : Rz X (execs (st :: rest) X.env) σ cls fl K := by
  intro s Q E R hE
  refine wpAny_execs_cons (h s _ _ R fun f fl' σ₁ s₁ R₁ L₁ i₁ h₁ => ?_)
  obtain ⟨rfl, h₁⟩ := h₁
  cases i₁
  exact h₁ s₁ _ _ R₁ fun e σ' s' R' L' x' k => hE e σ' s' R' (L₁.trans L') (x'.base fun q => L₁.none) k
/-- try: .. except T: .., the body surely raises what T catches -/
theorem Ex_caught {body : List Stmt} {tn : Str} {tp pos hpos : Pos} {b₀ : Stmt} {suite : List Stmt} {rest : List ExceptHandler} {cls T : String} {fl : Option Value} {KF : Fl → St → Prop} (F : Framed X) (hh : X.A.handled = none)
    (h : Rz X (execs body X.env) σ cls fl fun σ₁ => ∀ e av, Ex (X.hold e) (execs (b₀ :: suite) X.env) { σ₁ with av := av } KF) (hfl : fl = none ∨ fl = some .none ∨ fl = some (rawInt X.env.locals))
    (hexc : isSubtype (.type T) (.type "BaseException") = pure true) (hnt : isSubtype (.type ((Manifest.find? T).elim "type" fun x => x.metatype)) (.type "tuple") = pure false) (hsub : isSubtype (.type cls) (.type T) = pure true)
    (hb : bootBuiltins tn = some (.type T) := by rfl) (e : nsIn (heapK X.w.params) mainGlobals tn = some none := by rfl) (hk : X.env.kindOf tn = some .globalImplicit := by first | assumption | exact kd (by assumption) (by rfl)) (hn : tn ≠ "__name__" := by decide) (hd : (tn == ("__debug__" : Str)) = false := by decide) :
    Ex X (exec (.Try body (.ExceptHandler (some (.Name tn tp)) none (b₀ :: suite) hpos :: rest) [] [] pos) X.env) σ KF := by
  intro s Q E R hQ
  refine wpAny_Try_except (h s _ _ R fun ex σ₁ s₁ R₁ L₁ x₁ h₁ => ?_)
  refine note_frame F R₁ L₁ x₁ hfl fun av₂ s₂ R₂ L₂ x₂ => ?_
  refine set_flight R₂ L₂ x₂ none fun s₃ R₃ L₃ x₃ => ?_
  obtain ⟨p, loose, mean, mg, mb, T'⟩ := R₃.ok.top
  have TT := topRead_of T'
  obtain ⟨ob, vs, he, hc, _⟩ := id x₃
  refine wpAny_handleBy_builtin (X := cls) (T := T) (b := true) hexc hnt hsub (Name_function_global R₃.ok.kind hk (loadGlobal_builtin (env := X.env) (by rw [R₃.ok.glob]; exact TT.g.keeps R₃.base) (mg_none_of R₃.ok.kin TT.g e) (by rw [R₃.ok.blt]; exact TT.b.keeps R₃.base) ((TT.builtins tn hn).trans hb) ⟨rfl, ⟨ob, he, hc⟩, ?_⟩) hd)
  rw [if_pos rfl]
  refine set_flight R₃ L₃ x₃ none fun s₄ R₄ L₄ x₄ => ?_
  have RH := R₄.hold x₄
  refine h₁ ex _ s₄ _ _ RH fun f fl' σ' s' R' L' i' k => ?_
  have hdead : s.heap.get? ex = none := let ⟨_, _, _, _, _, _, _, q, _⟩ := x₄; q
  have L₅ : Later X σ s { σ₁ with av := av₂.filter (· != ex) } s₄ := ⟨L₄.keep, fun b hb => L₄.new b (by
    rcases List.mem_append.mp hb with hb | hb
    · exact List.mem_append_left _ hb
    · exact List.mem_append_right _ (List.mem_filter.mp hb).1), L₄.newM, fun b hb => List.mem_filter.mpr ⟨L₄.av b hb, by
      have : b ≠ ex := fun q => by obtain ⟨o, z⟩ := (R.avn b hb).2.1; rw [q, hdead] at z; cases z
      simpa using this⟩, L₄.live⟩
  exact hQ _ _ _ _ (R'.unhold hh R₄.ok) (L₅.trans L'.unhold) i' k
theorem Rz_expr {e : Expr} {pos : Pos} {cls : String} {fl : Option Value} {K : St → Prop} (h : Rz X (eval e X.env) σ cls fl K) (hs : swapsWith e none pos.line X.env = pure false := by rfl) : Rz X (exec (.Expr e pos) X.env) σ cls fl K := by
  intro s Q E R hE
  exact wpAny_Expr (h s _ _ R hE) (by unfold interactive; rw [R.ok.kind]; rfl) hs
theorem Rz_return {e : Expr} {pos : Pos} {cls : String} {fl : Option Value} {K : St → Prop} (h : Rz X (eval e X.env) σ cls fl K) : Rz X (exec (.Return (some e) pos) X.env) σ cls fl K :=
  fun s Q E R hE => wpAny_Return_some (h s _ _ R hE)

theorem forR {it : Addr} {fp : List Addr} {vs : List V} {P : Nat → Value → Prop} {S : Nat → Heap → Prop} {G : Heap → List Addr → Prop} {x : Str} {px : Pos} {body : List Stmt} {RR : Result → Shared → Prop} {cls : String} {fl : Option Value} {K : St → Prop} (I : Nat → St → Prop) (j : Nat) (hj : j < vs.length) (F : Framed X)
    (R : Rep X σ s) (hit : it ∈ σ.av) (W : Walk X it vs fp P S G) (hst : S 0 s.heap) (hg : G s.heap (off X σ))
    {σ₀ : St} {s₀ : Shared} (L₀ : Later X σ₀ s₀ σ s) (hnew : s₀.heap.get? it = none) (h0 : I 0 σ) (hk : X.env.kindOf x = some .local)
    (turn : ∀ i v σ, i < j → vs[i]? = some v → I i σ → Ex X (execs body X.env) { σ with loc := (x, v) :: σ.loc } fun f σ' => f = .next ∧ I (i + 1) σ')
    (last : ∀ v σ, vs[j]? = some v → I j σ → Rz X (execs body X.env) { σ with loc := (x, v) :: σ.loc } cls fl fun σ' => ∀ av, K { σ' with av := av }) (hfl : fl = none ∨ fl = some .none ∨ fl = some (rawInt X.env.locals))
    (hR : ∀ e σ' s', Rep X σ' s' → Later X σ₀ s₀ σ' s' → Exn s₀.heap σ' s'.heap e cls (some (rawInt X.env.locals)) → K σ' → RR (.error (.ref e)) s') :
    codeAny (model X.prog X.w) X.A (.forLoop (.Name x px) (.ref it) body [] X.env) RR s := by
  refine codeAny_forLoop (fun k s' => ∃ i σ', i ≤ j ∧ k = vs.length + 1 - i ∧ I i σ' ∧ Rep X σ' s' ∧ Later X σ₀ s₀ σ' s' ∧ it ∈ σ'.av ∧ S i s'.heap ∧ G s'.heap (off X σ')) ?_ (vs.length + 1) ⟨0, σ, Nat.zero_le _, rfl, h0, R, L₀, hit, hst, hg⟩
  rintro k s' ⟨i, σ', hi, rfl, hI, R', L', hit', hs, hg'⟩
  have hnn : ∀ b ∈ off X σ', b ∈ off X σ' ∨ s'.heap.get? b = none := fun b hb => .inl hb
  have hlt : i < vs.length := Nat.lt_of_le_of_lt hi hj
  refine W.walks.item i s' _ _ hlt hs fun val h₁ tk₁ hPv hs₁ hk₁ => ?_
  have hk₁' : ∀ b o, b ≠ it → s'.heap.get? b = some o → h₁.get? b = some o := fun b o hb e => hk₁ b o (fun hm => hb (List.mem_singleton.mp hm)) e
  have hsz₁ : Alive h₁ it := W.live _ _ hs₁
  have R₁ := R'.touchAv (tk := tk₁) hit' hk₁' hsz₁
  have L₁ := L'.but (tk := tk₁) hnew hk₁' hsz₁
  have hg₁ : G h₁ (off X σ') := W.lasts _ _ _ _ (fun b o hb e => hk₁' b o (fun q => hb (q ▸ off_av hit')) e) hnn hg'
  obtain ⟨v, hv, iv⟩ := W.item h₁ _ i val hg₁ hPv
  refine wpAny_assign_Name (Un_storeL R₁ hk iv fun s₂ R₂ L₂ => ?_)
  by_cases hij : i < j
  · refine turn i v σ' hij hv hI s₂ _ _ R₂ fun f fl' σ₃ s₃ R₃ L₃ i₃ h₃ => ?_
    obtain ⟨rfl, hI₃⟩ := h₃
    cases i₃
    have hit₂ : it ∈ ({ σ' with loc := (x, v) :: σ'.loc } : St).av := L₂.av it hit'
    have hg₂ := W.lasts.later R₁ L₂ hg₁
    have keep1 : ∀ b ∈ fp, ∀ o, h₁.get? b = some o → s₂.heap.get? b = some o := fun b hb o e => by
      rcases W.fp _ _ (off_av hit') hg₁ b hb with q | q
      · exact L₂.keep b o (fun hm => (R₁.avn it hit').2.2.1 (q ▸ hm)) (fun z => Nat.lt_irrefl _ (Nat.lt_of_lt_of_le (q ▸ R₁.wild_lt z) (R₁.avn it hit').1)) e
      · exact L₂.off_keep R₁ b o q e
    have keep2 : ∀ b ∈ fp, ∀ o, s₂.heap.get? b = some o → s₃.heap.get? b = some o := fun b hb o e => by
      rcases W.fp _ _ (off_av hit₂) hg₂ b hb with q | q
      · exact L₃.keep b o (fun hm => (R₂.avn it hit₂).2.2.1 (q ▸ hm)) (fun z => Nat.lt_irrefl _ (Nat.lt_of_lt_of_le (q ▸ R₂.wild_lt z) (R₂.avn it hit₂).1)) e
      · exact L₃.off_keep R₂ b o q e
    exact ⟨vs.length + 1 - (i + 1), by omega, i + 1, σ₃, hij, rfl, hI₃, R₃, (L₁.trans L₂).trans L₃, L₃.av it hit₂, W.walks.frame _ _ _ (W.walks.frame _ _ _ hs₁ keep1) keep2, W.lasts.later R₂ L₃ hg₂⟩
  · obtain rfl : i = j := Nat.le_antisymm hi (Nat.not_lt.mp hij)
    refine last v σ' hv hI s₂ _ _ R₂ fun e σ₃ s₃ R₃ L₃ x₃ h₃ => ?_
    have LB := (L₁.trans L₂).trans L₃
    have x₃' : Exn s₀.heap σ₃ s₃.heap e cls fl := x₃.base fun q => (L₁.trans L₂).none
    refine note_frame F R₃ LB x₃' hfl fun av s₄ R₄ L₄ x₄ => ?_
    exact hR e _ _ R₄ L₄ x₄ (h₃ av)
theorem came_back {σ₀ : St} {s₀ : Shared} (F : Framed X) (R : Rep X σ s) (L₀ : Later X σ₀ s₀ σ s) {e : Addr} {cls : String} {f : Value} (x : Exn s₀.heap σ s.heap e cls (some f)) {E : Value → Shared → Prop} {A : Around}
    (hQ : ∀ s', Rep X σ s' → Later X σ₀ s₀ σ s' → Exn s₀.heap σ s'.heap e cls (some (rawInt X.env.locals)) → E (.ref e) s') : cameBackBy (model X.prog X.w) A X.env E (.ref e) s := by
  obtain ⟨outer, _, hf, _⟩ := F.fun R
  obtain ⟨ob, vs, he, hc, hd, h2, hav, hn0, T, oT, ts, h1, _⟩ := id x
  unfold cameBackBy
  refine wpAny_bind (wpAny_field he hd h1 ?_)
  rw [if_neg (show ¬ ((Value.ref T == Value.none) = true) by simp)]
  refine set_flight R L₀ x X.env.frame fun s' R' L' x' => hQ s' R' L' ?_
  rw [hf] at x'
  exact x'
/-- a for whose turn j surely raises -/
theorem Rz_for {x : Str} {px pos : Pos} {iter : Expr} {body : List Stmt} {cls : String} {fl : Option Value} {K : St → Prop} (F : Framed X) (h : Ev X (eval iter X.env) σ fun v σ₁ => ∃ vs, Iter X v vs ∧ ∃ (I : Nat → St → Prop) (j : Nat), j < vs.length ∧
      (∀ av, I 0 { σ₁ with av := av }) ∧ (∀ i v σ, i < j → vs[i]? = some v → I i σ → Ex X (execs body X.env) { σ with loc := (x, v) :: σ.loc } fun f σ' => f = .next ∧ I (i + 1) σ') ∧
      (∀ v σ, vs[j]? = some v → I j σ → Rz X (execs body X.env) { σ with loc := (x, v) :: σ.loc } cls fl fun σ' => ∀ av, K { σ' with av := av })) (hfl : fl = none ∨ fl = some .none ∨ fl = some (rawInt X.env.locals))
    (hk : X.env.kindOf x = some .local := by first | assumption | exact kd (by assumption) (by rfl)) (hs : ∀ x, foldedSetIterable iter X.env x = pure x := by intro _; rfl) : Rz X (exec (.For (.Name x px) iter body [] pos) X.env) σ cls (some (rawInt X.env.locals)) K := by
  intro s Q E R hE
  refine wpAny_For (h s _ _ R fun val v σ₁ s₁ R₁ L₁ i₁ h₁ => ?_) hs
  obtain ⟨vs, it, I, j, hj, h0, turn, last⟩ := h₁
  refine it σ₁ s₁ val _ _ R₁ i₁ fun o fp P S G hf W hS hG => ?_
  have z := R₁.addAv (tk := s₁.toks) o hf
  exact forR I j hj F z.1 List.mem_cons_self W hS hG (L₁.trans z.2) (L₁.none (get_size _)) (h0 _) hk turn last hfl fun e σ' s' R' L' x' k => came_back F R' L' x' fun s'' R'' L'' x'' => hE e σ' s'' R'' L'' x'' k
end
end Mine
end
section
open PySem PySem.W PyProof.Rows PySem.Spec PySem.Calls
namespace Mine
section
variable {X : Act} {σ : St} {s : Shared}
theorem Rep.growPA (R : Rep X σ s) {s' : Shared} (bs : List Addr) (hbs' : ∀ b ∈ bs, s.heap.objs.size ≤ b ∧ Alive s'.heap b) (hsh : ∃ h tk, s' = { s with heap := h, toks := tk }) (hk : ∀ b o, b ≠ X.P → b ≠ X.env.locals → b ∉ X.fr → s.heap.get? b = some o → s'.heap.get? b = some o)
    (hs : ∀ b, b = X.env.locals ∨ b ∈ X.fr → ∀ o, s.heap.get? b = some o → ∃ sl, s'.heap.get? b = some { o with slots := sl }) (ht : TabIn X s'.heap (off X { σ with av := bs ++ σ.av })) :
    Rep X { σ with av := bs ++ σ.av } s' ∧ Later X σ s { σ with av := bs ++ σ.av } s' := by
  have hbs : ∀ b ∈ bs, s.heap.get? b = none ∧ Alive s'.heap b := fun b hb => ⟨Heap.get?_none_of_le (hbs' b hb).1, (hbs' b hb).2⟩
  have hP : X.P ∈ off X σ := off_mu₀ R.ok.pmu
  have hk' : ∀ b o, b ∉ off X σ → s.heap.get? b = some o → s'.heap.get? b = some o := fun b o hb e => hk b o (fun q => hb (q ▸ hP)) (fun q => hb (off_mu (q ▸ R.lmut))) (fun q => hb (off_mu₀ (R.ok.frm b q))) e
  have hn' : ∀ b ∈ σ.mu ++ (bs ++ σ.av), b ∈ σ.mu ++ σ.av ∨ s.heap.get? b = none := fun b hb => by
    rcases List.mem_append.mp hb with hb | hb
    · exact .inl (List.mem_append_left _ hb)
    · rcases List.mem_append.mp hb with hb | hb
      · exact .inr (hbs b hb).1
      · exact .inl (List.mem_append_right _ hb)
  have hn : ∀ b ∈ off X { σ with av := bs ++ σ.av }, b ∈ off X σ ∨ s.heap.get? b = none := off_new (σ' := { σ with av := bs ++ σ.av }) hn'
  have al : ∀ b, Alive s.heap b → Alive s'.heap b := fun b x => by
    by_cases q : b = X.P
    · rw [q]; exact ht.alive
    · obtain ⟨o, e⟩ := x
      by_cases q2 : b = X.env.locals ∨ b ∈ X.fr
      · obtain ⟨sl, z⟩ := hs b q2 o e; exact ⟨_, z⟩
      · exact ⟨o, hk b o q (fun z => q2 (.inl z)) (fun z => q2 (.inr z)) e⟩
  have ap := List.nodup_cons.mp R.apart
  have hC : ∀ c o, c ∈ X.env.cells.map (·.2) → s.heap.get? c = some o → s'.heap.get? c = some o := fun c o hc e =>
    hk c o (fun q => R.ok.pc (q ▸ hc)) (fun q => ap.1 (List.mem_append_left _ (q ▸ hc))) (fun q => R.ok.frC c q hc) e
  have hN : ∀ m, s.heap.Ns X.env.locals m → s'.heap.Ns X.env.locals m := fun m n => nsSlots n fun o e => hs _ (.inl rfl) o e
  have hnot : ∀ b ∈ bs, ∀ x, Alive s.heap x → b ≠ x := fun b hb x ⟨o, e⟩ q => by rw [← q, (hbs b hb).1] at e; cases e
  refine ⟨⟨R.ok, ?_, fun b o hb e => ?_, fun b hb o e => ?_, ht, fun b hb => ⟨(R.new b hb).1, al b (R.new b hb).2⟩, R.lmut, ?_, ?_, R.cmut, ?_, R.apart, fun c hc => al c (R.clt c hc), R.mlt, fun b hb => ?_⟩, ⟨fun b o hm hb e => hk b o (fun q => hb (.inl q)) (fun q => hm (q ▸ R.lmut)) (fun q => hb (.inr q)) e, hn', fun b hb => .inl hb, fun _ h => List.mem_append_right _ h, fun b hb => al b (hb.elim (fun q => (R.new b q).2) R.wildAlive)⟩⟩
  · obtain ⟨h, t, e⟩ := R.sh; obtain ⟨h', t', e'⟩ := hsh; exact ⟨h', t', by rw [e', e]⟩
  · exact hk b o (fun q => hb (.inl q)) (fun q => R.mu_s₀ R.lmut (q ▸ e)) (fun q => hb (.inr q)) (R.keep b o hb e)
  · obtain ⟨sl, q⟩ := R.frs b hb o e
    obtain ⟨sl', q'⟩ := hs b (.inr hb) _ q
    exact ⟨sl', q'⟩
  · obtain ⟨m, n⟩ := R.ns; exact ⟨m, hN m n⟩
  · intro x v e
    have w := R.var x v e
    refine ⟨fun h1 h2 => ?_, fun h1 => ?_⟩
    · obtain ⟨m, val, n, hm, i⟩ := w.loc h1 h2
      exact ⟨m, val, hN m n, hm, i.later hk' hn⟩
    · obtain ⟨c, vo, hc, ⟨o, ho, r⟩, hv⟩ := w.cell h1
      exact ⟨c, vo, hc, ⟨o, hC c o (List.mem_map.mpr ⟨_, mem_of_lookup hc, rfl⟩) ho, r⟩, fun q => let ⟨val, q1, q2⟩ := hv q; ⟨val, q1, q2.later hk' hn⟩⟩
  · intro b vs hb
    obtain ⟨h1, vals, p, i⟩ := R.own b vs hb
    have hne : b ≠ X.env.locals := fun q => ap.1 (List.mem_append_right _ (q ▸ List.mem_map.mpr ⟨(b, vs), hb, rfl⟩))
    exact ⟨h1, vals, let ⟨o, n, e, r⟩ := p; ⟨o, n, hk _ o (R.mu_ne h1) hne (fun q => R.mu_nw h1 (.inr q)) e, r⟩, i.later hk' hn⟩
  · rcases List.mem_append.mp hb with hb | hb
    · exact ⟨Nat.le_trans R.size (hbs' b hb).1, (hbs b hb).2, fun hm => hnot b hb b (R.new b hm).2 rfl, fun hm => hnot b hb b (R.clt b hm) rfl⟩
    · have z := R.avn b hb
      exact ⟨z.1, al b z.2.1, z.2.2⟩
/-- a call that surely raises -/
def RzN (X : Act) (t : List Value → Sem Value) (as : List V) (σ : St) (cls : String) (fl : Option Value) (K : St → Prop) : Prop :=
  ∀ s vals Q E, Rep X σ s → VAll s.heap (off X σ) as vals → (∀ e σ' s', Rep X σ' s' → Later X σ s σ' s' → Exn s.heap σ' s'.heap e cls fl → K σ' → E (.ref e) s') → wpAny (model X.prog X.w) X.A (t vals) Q E s
theorem Rz_call {f : Addr} {o : Obj} {fd : FuncData} {body : List Stmt} {as : List V} {cls : String} {fl : Option Value} {K : St → Prop} (ps : List Str) (h : ∀ (Y : Act) (L : Addr), InCall X Y fd → Rz Y (execs body Y.env) ⟨(ps.zip as).reverse, [], [L], []⟩ cls fl fun _ => fl = none ∨ fl = some .none ∨ fl = some (rawInt Y.env.locals)) (F : Framed X)
    (hK : ∀ av, K { σ with av := av })
    (hl : 1 ≤ X.lvl) (hlen : as.length = ps.length) (ho : (heapK X.w.params).lookup f = some o) (hdata : o.data = .func fd) (hcd : codeIn (heapK X.w.params) fd.code fd.qualname = true) (hbody : fd.body = .stmts body)
    (hbind : ∀ vals : List Value, vals.length = ps.length → bindArgs fd ⟨vals, []⟩ = pure (ps.zip vals)) (hnc : ∀ x ∈ fd.scope.names, x.2 ≠ .cell ∧ x.2 ≠ .free) (hloc : ∀ x ∈ ps, fd.scope.names.lookup x = some .local)
    (hclo : fd.closure = []) (hg : fd.globals = mainGlobals) (hb : fd.builtins = builtinsNs) (hco : fd.scope.isCoroutine = false) (hgen : fd.scope.isGenerator = false) (hk : fd.scope.kind = .function) : RzN X (fun vals => call (.ref f) vals) as σ cls (some .none) K := by
  intro s vals Q E R i hQ
  obtain ⟨p, loose, mean, mg, mb, T'⟩ := R.ok.top
  have T := topRead_of T'
  have hlen' : vals.length = ps.length := by rw [i.length, hlen]
  have room : X.A.depth < recursionLimit := by have := R.ok.room.1; show _ < 1000; omega
  have hcells : (callEnv fd s.heap.objs.size f).cells = [] := by show fd.closure = []; exact hclo
  have hnc' : ∀ x, (callEnv fd s.heap.objs.size f).kindOf x ≠ some .cell ∧ (callEnv fd s.heap.objs.size f).kindOf x ≠ some .free := fun x => ⟨fun q => (hnc _ (mem_of_lookup q)).1 rfl, fun q => (hnc _ (mem_of_lookup q)).2 rfl⟩
  refine wpAny_call (codeAny_call_def (body := body) (binds := ps.zip vals) room (R.base _ _ (R.ok.kin _ _ ho)) hdata (T.nolimit.keeps R.base) (codeRec_of (R.ok.kin.keeps R.base) hcd) hbody (.of_eq (hbind vals hlen')) (fun x hx => (hnc x hx).1)
    (fun x hx => hloc _ (List.of_mem_zip hx).1) (fun h₀ hns hk₀ => ?_) hco hgen hk)
  have R' := R.enter (env := callEnv fd s.heap.objs.size f) (tk := s.toks + (ps.zip vals).length) (loc := (ps.zip as).reverse) hns hk₀ rfl hcells hk hg hb hnc' hl (zip_lookup i)
  have F' : Framed (X.callee σ s (callEnv fd s.heap.objs.size f)) := F.callee R rfl
  refine wpAny_mono (h (X.callee σ s (callEnv fd s.heap.objs.size f)) s.heap.objs.size ⟨rfl, rfl, rfl, rfl, rfl, rfl, rfl, rfl, rfl, fun F => F.callee R rfl⟩ _ (fun _ _ => False) (fun e s' => wpAny (model X.prog X.w) (X.A.deeper (callEnv fd s.heap.objs.size f)) (leaving (callEnv fd s.heap.objs.size f) e) (fun _ s'' => E e s'') (fun e' s'' => E e' s'') s') R' fun e σ' s' R₁ L₁ x₁ hfl => ?_) (fun _ _ z => z.elim) fun _ _ z => z
  have L₁' := L₁
  unfold leaving
  refine wpAny_bind (note_frame F' R₁ L₁ x₁ hfl fun av s₂ R₂ L₂ x₂ => ?_)
  refine set_flight R₂ L₂ x₂ none fun s₃ R₃ L₃ x₃ => ?_
  obtain ⟨ob, vs, he, hc, hd, h2, hav, hn0, T₁, oT, ts, h1, hTav, hTe, hT0, hT, hdT, h3⟩ := x₃
  have nP : ∀ b, s.heap.get? b = none → ∀ o, s₃.heap.get? b = some o → True := fun _ _ _ _ => trivial
  have ave := R₃.avn e hav
  have avT := R₃.avn T₁ hTav
  have hbs : ∀ b ∈ [T₁, e], s.heap.objs.size ≤ b ∧ Alive s₃.heap b := fun b hb => by
    rcases List.mem_cons.mp hb with rfl | hb
    · exact ⟨avT.1, avT.2.1⟩
    · obtain rfl := List.mem_singleton.mp hb
      exact ⟨ave.1, ave.2.1⟩
  have z := R.growPA (s' := s₃) [T₁, e] hbs R₃.sh (fun b o h1 h2 h3 e => R₃.keep b o (fun q => q.elim h1 fun q => (List.mem_cons.mp q).elim h2 h3) e) (fun b hb o e => R₃.frs b (List.mem_cons.mpr hb) o e) (let z := R₃.tab.later (mu' := off X { σ with av := [T₁, e] ++ σ.av }) (fun _ e => e) (fun _ _ _ e => e) fun b hb => .inl (by
    rcases List.mem_append.mp hb with hb | hb
    · exact off_mu₀ (List.mem_append_left _ hb)
    · rcases List.mem_append.mp hb with hb | hb
      · rcases List.mem_append.mp hb with hb | hb
        · rcases List.mem_cons.mp hb with rfl | hb
          · exact off_av hTav
          · obtain rfl := List.mem_singleton.mp hb
            exact off_av hav
        · exact off_mu₀ (List.mem_append_right _ (List.mem_append_left _ hb))
      · exact off_mu₀ (List.mem_append_right _ (List.mem_append_right _ hb))); ⟨z.tab, z.hd⟩)
  exact hQ e _ _ z.1 z.2 ⟨ob, vs, he, hc, hd, h2, List.mem_append_left _ (by simp), Heap.get?_none_of_le ave.1, T₁, oT, ts, h1, List.mem_append_left _ (by simp), hTe, Heap.get?_none_of_le avT.1, hT, hdT, h3⟩ (hK _)
end
end Mine
namespace Mine
section
variable {X : Act} {σ : St} {s : Shared}
/-- a call that surely raises, as an expression -/
theorem Rz_callF {func e : Expr} {rest : List Expr} {pos : Pos} {cls : String} {fl : Option Value} {K : St → Prop} (f : Addr)
    (h : Ev X (eval func X.env) σ fun v σ₁ => v = .any (.ref f) ∧ Evs X (spliced (backTo pos (starEach (e :: rest) X.env))) σ₁ fun vs σ₂ => RzN X (fun vals => call (.ref f) vals) vs σ₂ cls fl K)
    (ho : ∃ o fd, (heapK X.w.params).lookup f = some o ∧ o.data = .func fd := by exact ⟨_, _, rfl, rfl⟩)
    (he : starEach (e :: rest) X.env = (false, eval e X.env) :: starEach rest X.env := by rfl)
    (hc : eval (.Call func (e :: rest) [] pos) X.env = (do callWith pos (← eval func X.env) [] (backTo pos (starEach (e :: rest) X.env)) (backToKw pos (keywordEach [] X.env))) := by rfl) : Rz X (eval (.Call func (e :: rest) [] pos) X.env) σ cls fl K := by
  intro s Q E R hQ
  refine PyProof.Rows.Call_ (h s _ _ R fun val v σ₁ s₁ R₁ L₁ i₁ h₁ => ?_) hc
  obtain ⟨rfl, h₁⟩ := h₁
  cases i₁
  obtain ⟨o, fd, ho, hd⟩ := ho
  refine PyProof.Rows.callWith_def hd (h₁ s₁ _ _ R₁ fun vals vs σ₂ s₂ R₂ L₂ i₂ h₂ => ⟨R₂.base _ _ (R₂.ok.kin _ _ ho), ?_⟩) he
  exact h₂ s₂ vals _ _ R₂ i₂ fun e σ' s' R' L' x' k => hQ e σ' s' R' ((L₁.trans L₂).trans L') (x'.base fun _ z => (L₁.trans L₂).none z) k
/-- try: .. except, the body does not raise -/
theorem Ex_try {body : List Stmt} {h₀ : ExceptHandler} {rest : List ExceptHandler} {pos : Pos} {KF : Fl → St → Prop} (h : Ex X (execs body X.env) σ KF) : Ex X (exec (.Try body (h₀ :: rest) [] [] pos) X.env) σ KF := by
  intro s Q E R hQ
  refine wpAny_Try_except (h s _ _ R fun f fl σ₁ s₁ R₁ L₁ i₁ h₁ => ?_)
  cases i₁ with
  | next => exact wpAny_execs_nil (hQ _ _ _ _ R₁ L₁ .next h₁)
  | brk => exact hQ _ _ _ _ R₁ L₁ .brk h₁
  | cont => exact hQ _ _ _ _ R₁ L₁ .cont h₁
  | ret i => exact hQ _ _ _ _ R₁ L₁ (.ret i) h₁
theorem note_same {h₀ : Heap} {e : Addr} {cls : String} (F : Framed X) (R : Rep X σ s) (x : Exn h₀ σ s.heap e cls (some (rawInt X.env.locals))) {Q : Unit → Shared → Prop} {E : Value → Shared → Prop} {M : Model} {A : Around} (hQ : Q () s) : wpAny M A (noteFrame (.ref e) X.env) Q E s := by
  obtain ⟨outer, hfr, hf, _⟩ := F.fun R
  obtain ⟨ob, vs, he, hc, hd, h2, hav, hn0, T, oT, ts, h1, hTav, hTe, hT0, hT, hdT, h3⟩ := x
  unfold noteFrame
  simp only [hf]
  refine wpAny_bind (wpAny_field he hd h1 ?_)
  rw [if_pos (show (Value.ref T != Value.none) = true by simp)]
  refine wpAny_bind (wpAny_field hT hdT h3 ?_)
  rw [if_pos (show (rawInt X.env.locals == rawInt X.env.locals) = true by simp [rawInt])]
  exact wpAny_pure hQ
/-- try: .. except T: if not x: raise .. , where x is False -/
theorem Rz_again {body : List Stmt} {tn x : Str} {tp pos hpos np up rp ip : Pos} {suite : List Stmt} {rest : List ExceptHandler} {cls T : String} {fl : Option Value} {K : St → Prop} (F : Framed X)
    (h : Rz X (execs body X.env) σ cls fl fun σ₁ => σ₁.loc.lookup x = some (.bool false) ∧ ∀ av, K { σ₁ with av := av }) (hfl : fl = none ∨ fl = some .none ∨ fl = some (rawInt X.env.locals)) (hkx : X.env.kindOf x = some .local) (hdx : (x == ("__debug__" : Str)) = false)
    (hexc : isSubtype (.type T) (.type "BaseException") = pure true) (hnt : isSubtype (.type ((Manifest.find? T).elim "type" fun x => x.metatype)) (.type "tuple") = pure false) (hsub : isSubtype (.type cls) (.type T) = pure true)
    (hb : bootBuiltins tn = some (.type T) := by rfl) (e : nsIn (heapK X.w.params) mainGlobals tn = some none := by rfl) (hk : X.env.kindOf tn = some .globalImplicit := by first | assumption | exact kd (by assumption) (by rfl)) (hn : tn ≠ "__name__" := by decide) (hd : (tn == ("__debug__" : Str)) = false := by decide) :
    Rz X (exec (.Try body (.ExceptHandler (some (.Name tn tp)) none (.If (.UnaryOp .Not (.Name x np) up) [.Raise none none rp] [] ip :: suite) hpos :: rest) [] [] pos) X.env) σ cls (some (rawInt X.env.locals)) K := by
  intro s Q E R hQ
  refine wpAny_Try_except (h s _ _ R fun ex σ₁ s₁ R₁ L₁ x₁ h₁ => ?_)
  refine note_frame F R₁ L₁ x₁ hfl fun av₂ s₂ R₂ L₂ x₂ => ?_
  refine set_flight R₂ L₂ x₂ none fun s₃ R₃ L₃ x₃ => ?_
  obtain ⟨p, loose, mean, mg, mb, T'⟩ := R₃.ok.top
  have TT := topRead_of T'
  obtain ⟨ob, vs, he, hc, _⟩ := id x₃
  refine wpAny_handleBy_builtin (X := cls) (T := T) (b := true) hexc hnt hsub (Name_function_global R₃.ok.kind hk (loadGlobal_builtin (env := X.env) (by rw [R₃.ok.glob]; exact TT.g.keeps R₃.base) (mg_none_of R₃.ok.kin TT.g e) (by rw [R₃.ok.blt]; exact TT.b.keeps R₃.base) ((TT.builtins tn hn).trans hb) ⟨rfl, ⟨ob, he, hc⟩, ?_⟩) hd)
  rw [if_pos rfl]
  refine set_flight R₃ L₃ x₃ none fun s₄ R₄ L₄ x₄ => ?_
  obtain ⟨m, val, n, em, i⟩ := (R₄.var x _ h₁.1).loc hkx (by nofun)
  cases i
  refine wpAny_execs_cons (wpAny_If (wpAny_isTrue_Not ?_))
  show wpAny _ _ (do let v ← eval (.Name x np) X.env; standAt (Expr.pos (.Name x np)); holding [v] (truthy v)) _ _ _
  refine wpAny_bind (wpAny_Name (wpAny_loadName_local R₄.ok.kind hkx n em ?_) hdx)
  refine wpAny_bind (wpAny_standAt (wpAny_holding (wpAny_truthy_bool ?_)))
  show wpAny _ _ (execs [.Raise none none rp] X.env) _ _ _
  refine wpAny_execs_cons ?_
  rw [arm_exec_Raise]
  refine wpAny_bind (wpAny_standAt ?_)
  show wpAny _ _ (raiseStmt X.env none none) _ _ _
  unfold raiseStmt
  refine wpAny_bind (wpAny_handled ?_)
  dsimp only [Around.mark]
  obtain ⟨ob', vs', he', hc', hd', h2', hav', hn0', T₁, oT, ts, h1, rest'⟩ := id x₄
  refine wpAny_bind (wpAny_rule (wpAny_bind (wpAny_field he' hd' h1 ?_)))
  rw [if_neg (show ¬ ((Value.ref T₁ == Value.none) = true) by simp)]
  refine wpAny_bind (set_flight R₄ L₄ x₄ X.env.frame fun s₅ R₅ L₅ x₅ => ?_)
  obtain ⟨outer, _, hf, _⟩ := F.fun R₅
  rw [hf] at x₅
  refine wpAny_throw ?_
  show wpAny _ _ (noteFrame _ _) _ _ _
  refine note_same F R₅ x₅ ?_
  exact came_back F R₅ L₅ x₅ fun s₆ R₆ L₆ x₆ => hQ ex _ s₆ R₆ L₆ x₆ (h₁.2 _)
end
end Mine
end
section
open PySem PySem.W PyProof.Rows PySem.Spec PySem.Calls PySem.SeqAt PySem.MeetsSeq
namespace Mine
theorem raiseW {α : Type} {M : Model} {A : Around} {E : Value → Shared → Prop} {s : Shared} {cls msg : String} {Q : α → Shared → Prop} (hp : PlainExc cls) (hh : A.handled = none)
    (h : ∀ h' tk e, Heap.NewExc s.heap h' e cls → s.heap.objs.size ≤ e → E (.ref e) { s with heap := h', toks := tk }) :
    wpAny M A (raiseErrorWords cls msg : Sem α) Q E s := by
  unfold raiseErrorWords
  refine wpAny_bind (wpAny_mkText (wpAny_bind ?_))
  unfold newExc newTuple
  refine wpAny_bind (wpAny_newObj_type ?_)
  refine wpAny_bind (m := firstArgMember _ _) (wpAny_of_eq (a := Value.none) (by simp only [firstArgMember, hp.first]; rfl) ?_)
  rw [hp.own]
  refine wpAny_newObj_type ?_
  unfold raiseNew
  refine wpAny_bind (wpAny_handled ?_)
  rw [hh]
  first
    | refine wpAny_throw ?_
    | refine wpAny_bind (wpAny_pure (wpAny_throw ?_))
  exact h _ _ _ ⟨fun b o hb => Heap.get?_push_of_some _ (Heap.get?_push_of_some _ hb), Heap.get?_none_of_le (by simp), _, .ref s.heap.objs.size, Heap.get?_push_size _ rfl, rfl, by simp⟩ (by simp)
theorem raiseM {α : Type} {M : Model} {A : Around} {E : Value → Shared → Prop} {s : Shared} {cls msg : String} {Q : α → Shared → Prop} (hp : PlainExc cls) (hh : A.handled = none)
    (h : ∀ h' tk e, Heap.NewExc s.heap h' e cls → s.heap.objs.size ≤ e → E (.ref e) { s with heap := h', toks := tk }) (hm : (msg : Str).length ≤ sizeLine) :
    wpAny M A (raiseErrorMade cls msg : Sem α) Q E s := by
  unfold raiseErrorMade
  refine wpAny_bind (wpAny_mkStr (wpAny_bind ?_) hm)
  unfold newExc newTuple
  refine wpAny_bind (wpAny_newObj_type ?_)
  refine wpAny_bind (m := firstArgMember _ _) (wpAny_of_eq (a := Value.none) (by simp only [firstArgMember, hp.first]; rfl) ?_)
  rw [hp.own]
  refine wpAny_newObj_type ?_
  unfold raiseNew
  refine wpAny_bind (wpAny_handled ?_)
  rw [hh]
  first
    | refine wpAny_throw ?_
    | refine wpAny_bind (wpAny_pure (wpAny_throw ?_))
  exact h _ _ _ ⟨fun b o hb => Heap.get?_push_of_some _ (Heap.get?_push_of_some _ hb), Heap.get?_none_of_le (by simp), _, .ref s.heap.objs.size, Heap.get?_push_size _ rfl, rfl, by simp⟩ (by simp)
def raisesAbove (cls : String) : PySem.Spec := fun A R s => A.handled = none ∧ ∀ h' tk e, Heap.NewExc s.heap h' e cls → s.heap.objs.size ≤ e → R (.error (.ref e)) { s with heap := h', toks := tk }
theorem removeAt_loop (l : Addr) (items : Array Value) (n : Nat) (sl : Array (Option Value)) (x : Value) (e : Value → Bool) (j : Nat) (hj : j < items.size) (hit : e items[j] = true) (k : Nat) (hs1 : items.size ≤ sizeLine) :
    ∀ i : Nat, j - i = k → i ≤ j → (∀ m (hm : m < items.size), i ≤ m → m < j → e items[m] = false) → Meets (Builtin.«list.remove.loop» ⟨[.ref l, x, rawInt i], []⟩)
      (fun A R s => s.heap.get? l = some { cls := .type "list", dict := none, data := .seq items n, slots := sl } ∧ (∀ y, y ∈ items → EqAt A.in1 s y x (e y)) ∧ R (.ok (.ret .none)) { s with heap := s.heap.update l (Obj.mapSeq fun xs => xs.eraseIdxIfInBounds j) }) := by
  induction k with
  | zero =>
    intro i hk hij hno prog w A R s h
    obtain ⟨hp, g, d, tk, os⟩ := s; obtain ⟨hl, he, h⟩ := h
    have hij' : i = j := by omega
    subst hij'
    wp_walk using wpAny_loadPart' hl
    have hi : items[((i : Nat) : Int).toNat]? = some items[i] := by simp [hj]
    rw [hi]
    refine wpAny_bind (he _ (Array.getElem_mem hj) prog w _ _ ?_)
    rw [hit]
    have hz' : (items.eraseIdxIfInBounds i).size ≤ sizeLine + 1 := Nat.le_trans (size_erased items _) (Nat.le_succ_of_le hs1)
    wp_walk using (wpAny_updateSeq hl rfl (hz := hs1) (_hz' := hz')), wpAny_loadPart' hl
    simpa using h
  | succ k ih =>
    intro i hk hij hno prog w A R s h
    obtain ⟨hp, g, d, tk, os⟩ := s; obtain ⟨hl, he, h⟩ := h
    have hlt : i < items.size := by omega
    wp_walk using wpAny_loadPart' hl
    have hi : items[((i : Nat) : Int).toNat]? = some items[i] := by simp [hlt]
    have hc : ((i : Int) + 1) = ((i + 1 : Nat) : Int) := by push_cast; rfl
    rw [hi]
    refine wpAny_bind (he _ (Array.getElem_mem hlt) prog w _ _ ?_)
    rw [hno i hlt (Nat.le_refl _) (by omega)]
    wp_walk
    rw [hc]
    exact ⟨plainId_quiet plain_remove_loop _, codeAny_builtin entry_remove_loop (by
      rw [Around.under_plainId plain_remove_loop _]
      exact ih (i + 1) (by omega) (by omega) (fun m hm h1 h2 => hno m hm (by omega) h2) prog w A R _ ⟨hl, he, h⟩)⟩
theorem removeAt (l : Addr) (items : Array Value) (n : Nat) (sl : Array (Option Value)) (x : Value) (e : Value → Bool) (j : Nat) (hj : j < items.size)
    (hit : e items[j] = true) (hno : ∀ m (hm : m < items.size), m < j → e items[m] = false) (hs1 : items.size ≤ sizeLine) :
    Meets (Builtin.«list.remove» ⟨[.ref l, x], []⟩)
      (fun A R s => s.heap.get? l = some { cls := .type "list", dict := none, data := .seq items n, slots := sl } ∧ (∀ y, y ∈ items → EqAt A.in1 s y x (e y)) ∧ R (.ok (.ret .none)) { s with heap := s.heap.update l (Obj.mapSeq fun xs => xs.eraseIdxIfInBounds j) }) := by
  intro prog w A R s h
  obtain ⟨hp, g, d, tk, os⟩ := s; obtain ⟨hl, he, h⟩ := h
  wp_walk using wpAny_loadPart' hl
  exact ⟨plainId_quiet plain_remove_loop _, codeAny_builtin entry_remove_loop (by
    rw [Around.under_plainId plain_remove_loop _]
    exact removeAt_loop l items n sl x e j hj hit _ hs1 0 rfl (Nat.zero_le _) (fun m hm _ h2 => hno m hm h2) prog w A R _ ⟨hl, he, h⟩)⟩
theorem removeAt_loop_none (l : Addr) (items : Array Value) (n : Nat) (sl : Array (Option Value)) (x : Value) (e : Value → Bool) (hno : ∀ m (hm : m < items.size), e items[m] = false) (k : Nat) :
    ∀ i : Nat, items.size - i = k → Meets (Builtin.«list.remove.loop» ⟨[.ref l, x, rawInt i], []⟩)
      (fun A R s => s.heap.get? l = some { cls := .type "list", dict := none, data := .seq items n, slots := sl } ∧ (∀ y, y ∈ items → EqAt A.in1 s y x (e y)) ∧ raisesAbove "ValueError" A R s) := by
  induction k with
  | zero =>
    intro i hk prog w A R s h
    obtain ⟨hp, g, d, tk, os⟩ := s; obtain ⟨hl, he, h⟩ := h
    wp_walk using wpAny_loadPart' hl
    have hi : items[((i : Nat) : Int).toNat]? = none := by simp; omega
    rw [hi]
    wp_walk
    exact raiseW plainExc_ValueError h.1 h.2
  | succ k ih =>
    intro i hk prog w A R s h
    obtain ⟨hp, g, d, tk, os⟩ := s; obtain ⟨hl, he, h⟩ := h
    have hlt : i < items.size := by omega
    wp_walk using wpAny_loadPart' hl
    have hi : items[((i : Nat) : Int).toNat]? = some items[i] := by simp [hlt]
    have hc : ((i : Int) + 1) = ((i + 1 : Nat) : Int) := by push_cast; rfl
    rw [hi]
    refine wpAny_bind (he _ (Array.getElem_mem hlt) prog w _ _ ?_)
    rw [hno i hlt]
    wp_walk
    rw [hc]
    exact ⟨plainId_quiet plain_remove_loop _, codeAny_builtin entry_remove_loop (by
      rw [Around.under_plainId plain_remove_loop _]
      exact ih (i + 1) (by omega) prog w A R _ ⟨hl, he, h⟩)⟩
theorem removeAt_none (l : Addr) (items : Array Value) (n : Nat) (sl : Array (Option Value)) (x : Value) (e : Value → Bool) (hno : ∀ m (hm : m < items.size), e items[m] = false) :
    Meets (Builtin.«list.remove» ⟨[.ref l, x], []⟩)
      (fun A R s => s.heap.get? l = some { cls := .type "list", dict := none, data := .seq items n, slots := sl } ∧ (∀ y, y ∈ items → EqAt A.in1 s y x (e y)) ∧ raisesAbove "ValueError" A R s) := by
  intro prog w A R s h
  obtain ⟨hp, g, d, tk, os⟩ := s; obtain ⟨hl, he, h⟩ := h
  wp_walk using wpAny_loadPart' hl
  exact ⟨plainId_quiet plain_remove_loop _, codeAny_builtin entry_remove_loop (by
    rw [Around.under_plainId plain_remove_loop _]
    exact removeAt_loop_none l items n sl x e hno _ 0 rfl prog w A R _ ⟨hl, he, h⟩)⟩
section
variable {X : Act} {σ : St} {s : Shared}
theorem Rep.newExc (R : Rep X σ s) {h' : Heap} {tk : Nat} {e : Addr} {cls : String} (x : Heap.NewExc s.heap h' e cls) (he : s.heap.objs.size ≤ e) :
    Rep X { σ with av := e :: σ.av } { s with heap := h', toks := tk } ∧ Later X σ s { σ with av := e :: σ.av } { s with heap := h', toks := tk } ∧ Exn s.heap { σ with av := e :: σ.av } h' e cls none := by
  obtain ⟨ob, t, h1, h2, h3⟩ := x.there
  have hn : ∀ b ∈ off X { σ with av := [e] ++ σ.av }, b ∈ off X σ ∨ s.heap.get? b = none := off_new (σ' := { σ with av := [e] ++ σ.av }) fun b hb => by
    rcases List.mem_append.mp hb with hb | hb
    · exact .inl (List.mem_append_left _ hb)
    · rcases List.mem_append.mp hb with hb | hb
      · exact .inr (List.mem_singleton.mp hb ▸ x.new)
      · exact .inl (List.mem_append_right _ hb)
  have z := R.growPA (s' := { s with heap := h', toks := tk }) [e] (fun b hb => by obtain rfl := List.mem_singleton.mp hb; exact ⟨he, ob, h1⟩) ⟨h', tk, rfl⟩ (fun b o _ _ _ q => x.keeps b o q) (fun b _ o q => ⟨o.slots, x.keeps b o q⟩) (R.tab.later (fun o q => x.keeps _ o q) (fun b o _ q => x.keeps b o q) hn)
  exact ⟨z.1, z.2, ob, _, h1, h2, h3, rfl, List.mem_cons_self, x.new, rfl⟩
end
end Mine
end
section
open PySem PySem.W PyProof.Rows PySem.Spec PySem.Calls PySem.SeqAt PySem.MeetsSeq
namespace Mine
section
variable {X : Act} {σ : St} {s : Shared}
/-- a method of a list of the activation's own, up to the call -/
theorem ownM {name : Str} {id : String} {o e : Expr} {rest : List Expr} {apos pos : Pos} {Q : Value → Shared → Prop} {E : Value → Shared → Prop} (R : Rep X σ s) (slot : Slot "list" name id) (ty : typeOf (.builtin id) = pure (.type "method_descriptor"))
    (h : Ev X (eval o X.env) σ fun v σ₁ => ∃ a its, v = .own a ∧ (a, its) ∈ σ₁.own ∧ Evs X (spliced (backTo pos (starEach (e :: rest) X.env))) σ₁ fun vs σ₂ => ∀ s₂ vals, Rep X σ₂ s₂ → Later X σ s σ₂ s₂ → VAll s₂.heap (off X σ₂) vs vals → wpAny (model X.prog X.w) X.A (call (.builtin id) (.ref a :: vals)) Q E s₂)
    (he : ∃ pl, eval (.Call (.Attribute o name apos) (e :: rest) [] pos) X.env = (do
      let ov ← eval o X.env
      standAt apos.atName
      let (f, first) ← holding [ov] (getMethod ov name pl)
      callWith pos f first (backTo pos (starEach (e :: rest) X.env)) []) := by exact ⟨_, rfl⟩)
    (hs : starEach (e :: rest) X.env = (false, eval e X.env) :: starEach rest X.env := by rfl) (hp : (backTo pos (starEach rest X.env)).any (·.1) = false := by rfl) : wpAny (model X.prog X.w) X.A (eval (.Call (.Attribute o name apos) (e :: rest) [] pos) X.env) Q E s := by
  obtain ⟨pl, he⟩ := he
  refine PyProof.Rows.MethodCall_ (h s _ _ R fun val v σ₁ s₁ R₁ L₁ i₁ h₁ => ?_) he
  obtain ⟨a, its, rfl, hm, h₁⟩ := h₁
  cases i₁
  obtain ⟨_, vals₀, ⟨ob, n, ho, hc, hdn, hdt⟩, _⟩ := R₁.own a its hm
  refine getMethod_builtin ⟨_, ho, hc⟩ PySem.F.plainAttrs_list slot ty (fun b q => by cases q; exact ⟨_, ho, hdn⟩) ?_
  rw [hs] at h₁ ⊢
  refine PySem.Calls.callWith_builtin (by show (false || (backTo pos (starEach rest X.env)).any (·.1)) = false; rw [hp]; rfl) (PySem.Calls.evalArgs_plain (h₁ s₁ _ _ R₁ fun vals vs σ₂ s₂ R₂ L₂ i₂ h₂ => ?_))
  exact h₂ s₂ vals R₂ (L₁.trans L₂) i₂
variable {α : Type} [DecidableEq α] (k : Kd α)
theorem Kd.readsAt {h : Heap} {mu : List Addr} {l : List α} {vals : List Value} (i : VAll h mu (l.map k.v) vals) {x : α} {val : Value} (j : VIn h mu (k.v x) val) :
    ∃ as bs, ReadsAll h vals (l.map k.d) as ∧ Reads h val (k.d x) bs ∧ vals.map (readOf h) = l.map k.d := by
  obtain ⟨as, q⟩ := (k.datAll l).reads i
  obtain ⟨bs, r⟩ := (k.dat x).reads j
  exact ⟨as, bs, q, r, readsAll_map _ _ _ (k.layAll l) q⟩
theorem eraseVals {α : Type} (vals : List α) (j : Nat) : vals.toArray.eraseIdxIfInBounds j = (vals.eraseIdx j).toArray := by
  apply Array.toList_inj.mp
  simp [Array.toList_eraseIdxIfInBounds]
theorem map_eraseIdx' {α β : Type} (f : α → β) : ∀ (l : List α) (j : Nat), (l.eraseIdx j).map f = (l.map f).eraseIdx j
  | [], _ => rfl
  | _ :: _, 0 => rfl
  | x :: l, j + 1 => by simp [List.eraseIdx_cons_succ, map_eraseIdx' f l j]
theorem VAll.erase {h : Heap} {mu : List Addr} : ∀ {vs : List V} {vals : List Value} (j : Nat), VAll h mu vs vals → VAll h mu (vs.eraseIdx j) (vals.eraseIdx j)
  | _, _, _, .nil => by simpa using VAll.nil
  | _, _, 0, .cons _ r => by simpa using r
  | _, _, j + 1, .cons i r => by simpa using VAll.cons i (VAll.erase j r)
/-- x.remove(y): there is one like it -/
theorem Ev_remove {o e : Expr} {apos pos : Pos} {K : V → St → Prop} (hkn : k.n ≤ 60)
    (h : Ev X (eval o X.env) σ fun v σ₁ => ∃ a its, v = .own a ∧ (a, its) ∈ σ₁.own ∧ Evs X (spliced (backTo pos (starEach [e] X.env))) σ₁ fun vs σ₂ => ∃ (l : List α) (x : α) (own' : List (Addr × List V)), vs = [k.v x] ∧ x ∈ l ∧ OwnSet a (l.map k.v) ((l.erase x).map k.v) σ₂.own own' ∧ l.length ≤ sizeLine ∧ K .none { σ₂ with own := own' })
    (he : ∃ pl, eval (.Call (.Attribute o (Str.ofString "remove") apos) [e] [] pos) X.env = (do
      let ov ← eval o X.env
      standAt apos.atName
      let (f, first) ← holding [ov] (getMethod ov (Str.ofString "remove") pl)
      callWith pos f first (backTo pos (starEach [e] X.env)) []) := by exact ⟨_, rfl⟩)
    (hs : starEach [e] X.env = (false, eval e X.env) :: starEach [] X.env := by rfl) : Ev X (eval (.Call (.Attribute o (Str.ofString "remove") apos) [e] [] pos) X.env) σ K := by
  intro s Q E R hQ
  refine ownM R PySem.F.slot_list_remove PySem.F.type_list_remove (fun s' Q' E' R' hQ' => h s' Q' E' R' fun val v σ₁ s₁ R₁ L₁ i₁ h₁ => hQ' val v σ₁ s₁ R₁ L₁ i₁ ?_) he hs
  obtain ⟨a, its, rfl, hm, h₁⟩ := h₁
  refine ⟨a, its, rfl, hm, fun s' Q' E' R' hQ' => h₁ s' Q' E' R' fun vals vs σ₂ s₂ R₂ L₂ i₂ h₂ => hQ' vals vs σ₂ s₂ R₂ L₂ i₂ ?_⟩
  obtain ⟨l, x, own', rfl, hx, O, hz, hK⟩ := h₂
  intro s₂ vals R₂ L₂ i₂
  obtain ⟨y, iy, rfl⟩ : ∃ y, VIn s₂.heap (off X σ₂) (k.v x) y ∧ vals = [y] := by
    cases i₂ with
    | cons i r => cases r; exact ⟨_, i, rfl⟩
  obtain ⟨_, ws, p, il⟩ := R₂.own a _ O.mem
  obtain ⟨ob, n, ho, hc, hdn, hdt⟩ := id p
  obtain ⟨c, dd, dt, sl⟩ := ob
  dsimp only at hc hdn hdt
  subst hc hdn hdt
  obtain ⟨as, bs, q, r, hmap⟩ := k.readsAt il iy
  have hu := R₂.units
  have hlen : ws.length = l.length := by rw [il.length, List.length_map]
  have hat : ∀ m (hm : m < ws.toArray.size), PyData.eqv (readOf s₂.heap ws.toArray[m]) (k.d x) = decide (l[m]'(by simpa [hlen] using hm) = x) := fun m hm => by
    have hm' : m < l.length := by simpa [hlen] using hm
    have e1 := congrArg (fun z => z[m]?) hmap
    simp only [List.getElem?_map] at e1
    rw [List.getElem?_eq_getElem (by omega), List.getElem?_eq_getElem hm'] at e1
    simp only [Option.map_some, Option.some.injEq] at e1
    rw [List.getElem_toArray, e1, k.eqv]
  have hj : l.idxOf x < l.length := List.idxOf_lt_length_iff.mpr hx
  have hxs := k.layAll l
  refine call_meets PySem.F.slot_list_remove ⟨_, ho, rfl⟩ PySem.F.entry_list_remove (PySem.F.args_list_remove_2 _ _)
    (removeAt a ws.toArray n sl y (fun y => PyData.eqv (readOf s₂.heap y) (k.d x)) (l.idxOf x) (by simpa [hlen] using hj) ?_ ?_ (by simpa [hlen] using hz)) ⟨ho, ?_, ?_⟩
  · rw [hat _ (by simpa [hlen] using hj)]; simp
  · intro m hm hlt
    rw [hat m hm]
    simp only [decide_eq_false_iff_not]
    intro z
    have w := List.not_of_lt_findIdx (p := (· == x)) hlt
    rw [z] at w
    simp at w
  · exact items_eqAt (by simpa using q) r hxs (k.lay x) (by have := k.dep x; have : min (PyData.depthAll (l.map k.d)) (k.d x).depth ≤ (k.d x).depth := Nat.min_le_right _ _; show _ < 9900; omega)
  · have hp' : PlainL (s₂.heap.update a (Obj.mapSeq fun xs => xs.eraseIdxIfInBounds (l.idxOf x))) a (ws.eraseIdx (l.idxOf x)).toArray := by
      obtain ⟨n', hd'⟩ := Obj.data_mapSeq (o := { cls := .type "list", dict := none, data := .seq ws.toArray n, slots := sl }) rfl (fun xs => xs.eraseIdxIfInBounds (l.idxOf x))
      refine ⟨_, n', Heap.get?_update_self _ ho (Obj.isFreed_of_seq hd'), Obj.cls_mapSeq .., rfl, ?_⟩
      rw [hd', eraseVals]
    have hv : VAll s₂.heap (off X σ₂) ((l.erase x).map k.v) (ws.eraseIdx (l.idxOf x)) := by
      have := il.erase (l.idxOf x)
      rw [← map_eraseIdx'] at this
      rw [List.erase_eq_eraseIdx_of_idxOf (i := l.idxOf x) rfl]
      exact this
    have z := R₂.setOwn (tk := s₂.toks) O hv hp' (Heap.SameBut.update ..)
    exact hQ _ _ _ _ z.1 (L₂.trans z.2) .none hK
/-- x.remove(y): there is none like it -/
theorem Rz_remove {o e : Expr} {apos pos : Pos} {K : St → Prop} (hkn : k.n ≤ 60) (hh : X.A.handled = none)
    (h : Ev X (eval o X.env) σ fun v σ₁ => ∃ a its, v = .own a ∧ (a, its) ∈ σ₁.own ∧ Evs X (spliced (backTo pos (starEach [e] X.env))) σ₁ fun vs σ₂ => ∃ (l : List α) (x : α), vs = [k.v x] ∧ x ∉ l ∧ (a, l.map k.v) ∈ σ₂.own ∧ ∀ av, K { σ₂ with av := av })
    (he : ∃ pl, eval (.Call (.Attribute o (Str.ofString "remove") apos) [e] [] pos) X.env = (do
      let ov ← eval o X.env
      standAt apos.atName
      let (f, first) ← holding [ov] (getMethod ov (Str.ofString "remove") pl)
      callWith pos f first (backTo pos (starEach [e] X.env)) []) := by exact ⟨_, rfl⟩)
    (hs : starEach [e] X.env = (false, eval e X.env) :: starEach [] X.env := by rfl) : Rz X (eval (.Call (.Attribute o (Str.ofString "remove") apos) [e] [] pos) X.env) σ "ValueError" none K := by
  intro s Q E R hQ
  refine ownM R PySem.F.slot_list_remove PySem.F.type_list_remove (fun s' Q' E' R' hQ' => h s' Q' E' R' fun val v σ₁ s₁ R₁ L₁ i₁ h₁ => hQ' val v σ₁ s₁ R₁ L₁ i₁ ?_) he hs
  obtain ⟨a, its, rfl, hm, h₁⟩ := h₁
  refine ⟨a, its, rfl, hm, fun s' Q' E' R' hQ' => h₁ s' Q' E' R' fun vals vs σ₂ s₂ R₂ L₂ i₂ h₂ => hQ' vals vs σ₂ s₂ R₂ L₂ i₂ ?_⟩
  obtain ⟨l, x, rfl, hx, O, hK⟩ := h₂
  intro s₂ vals R₂ L₂ i₂
  obtain ⟨y, iy, rfl⟩ : ∃ y, VIn s₂.heap (off X σ₂) (k.v x) y ∧ vals = [y] := by
    cases i₂ with
    | cons i r => cases r; exact ⟨_, i, rfl⟩
  obtain ⟨_, ws, p, il⟩ := R₂.own a _ O
  obtain ⟨ob, n, ho, hc, hdn, hdt⟩ := id p
  obtain ⟨c, dd, dt, sl⟩ := ob
  dsimp only at hc hdn hdt
  subst hc hdn hdt
  obtain ⟨as, bs, q, r, hmap⟩ := k.readsAt il iy
  have hu := R₂.units
  have hlen : ws.length = l.length := by rw [il.length, List.length_map]
  have hxs := k.layAll l
  refine call_meets PySem.F.slot_list_remove ⟨_, ho, rfl⟩ PySem.F.entry_list_remove (PySem.F.args_list_remove_2 _ _)
    (removeAt_none a ws.toArray n sl y (fun y => PyData.eqv (readOf s₂.heap y) (k.d x)) ?_) ⟨ho, ?_, hh, fun h' tk e x' hge => ?_⟩
  · intro m hm
    have hm' : m < l.length := by simpa [hlen] using hm
    have e1 := congrArg (fun z => z[m]?) hmap
    simp only [List.getElem?_map] at e1
    rw [List.getElem?_eq_getElem (by omega), List.getElem?_eq_getElem hm'] at e1
    simp only [Option.map_some, Option.some.injEq] at e1
    rw [List.getElem_toArray, e1, k.eqv]
    simp only [decide_eq_false_iff_not]
    exact fun z => hx (z ▸ List.getElem_mem hm')
  · exact items_eqAt (by simpa using q) r hxs (k.lay x) (by have := k.dep x; have : min (PyData.depthAll (l.map k.d)) (k.d x).depth ≤ (k.d x).depth := Nat.min_le_right _ _; show _ < 9900; omega)
  · have z := R₂.newExc (tk := tk) x' hge
    exact hQ e _ _ z.1 (L₂.trans z.2.1) (z.2.2.base fun _ q => L₂.none q) (hK _)
end
end Mine
end
section
open PySem PySem.W PyProof.Rows PySem.Spec PySem.Calls PySem.SeqAt PySem.MeetsSeq
namespace Mine
section
variable {X : Act} {σ : St} {s : Shared}
theorem Rep.addMuAt (R : Rep X σ s) {h' : Heap} {tk : Nat} (hk : ∀ b o', s.heap.get? b = some o' → h'.get? b = some o') (ha : Alive h' s.heap.objs.size) : Rep X { σ with mu := s.heap.objs.size :: σ.mu } { s with heap := h', toks := tk } ∧ Later X σ s { σ with mu := s.heap.objs.size :: σ.mu } { s with heap := h', toks := tk } := by
  have hn' : ∀ b ∈ (s.heap.objs.size :: σ.mu) ++ σ.av, b ∈ σ.mu ++ σ.av ∨ s.heap.get? b = none := fun b hb => by
    rcases List.mem_cons.mp hb with rfl | hb
    · exact .inr (get_size _)
    · exact .inl hb
  have hn : ∀ b ∈ off X { σ with mu := s.heap.objs.size :: σ.mu }, b ∈ off X σ ∨ s.heap.get? b = none := off_new (σ' := { σ with mu := s.heap.objs.size :: σ.mu }) hn'
  have al : ∀ b, Alive s.heap b → Alive h' b := fun b x => x.keep fun o e => hk b o e
  refine ⟨⟨R.ok, ?_, fun b o hb e => hk b o (R.keep b o hb e), R.frsStep fun b o _ e => hk b o e, R.tab.later (fun o e => hk _ o e) (fun b o _ e => hk b o e) hn, fun b hb => ?_, List.mem_cons_of_mem _ R.lmut, ?_, ?_, fun m x c a b => List.mem_cons_of_mem _ (R.cmut m x c a b), ?_, R.apart, fun c hc => al c (R.clt c hc), R.mlt, fun b hb => ?_⟩, ⟨fun b o _ _ e => hk b o e, hn', fun b hb => ?_, fun _ h => h, fun b hb => al b (hb.elim (fun q => (R.new b q).2) R.wildAlive)⟩⟩
  · obtain ⟨h, t, e⟩ := R.sh; exact ⟨_, tk, by rw [e]⟩
  · rcases List.mem_cons.mp hb with rfl | hb
    · exact ⟨R.size, ha⟩
    · exact ⟨(R.new b hb).1, al b (R.new b hb).2⟩
  · obtain ⟨m, n⟩ := R.ns; exact ⟨m, n.at fun o e => hk _ o e⟩
  · exact fun x v e => (R.var x v e).later (fun o e => hk _ o e) (fun c o hc e => hk c o e) (fun b o _ e => hk b o e) hn
  · intro b vs hb
    obtain ⟨h1, vals, p, i⟩ := R.own b vs hb
    exact ⟨List.mem_cons_of_mem _ h1, vals, p.keeps hk, i.later (fun b o _ e => hk b o e) hn⟩
  · have z := R.avn b hb
    refine ⟨z.1, al b z.2.1, fun hm => ?_, z.2.2.2⟩
    rcases List.mem_cons.mp hm with q | hm
    · exact Nat.lt_irrefl _ (q ▸ z.2.1.lt)
    · exact z.2.2.1 hm
  · rcases List.mem_cons.mp hb with rfl | hb
    · exact .inr (get_size _)
    · exact .inl hb
theorem Rep.newOwnAt (R : Rep X σ s) {h' : Heap} {tk : Nat} {vs : List V} {vals : List Value} (i : VAll s.heap (off X σ) vs vals) (hk : ∀ b o', s.heap.get? b = some o' → h'.get? b = some o') (hp : PlainL h' s.heap.objs.size vals.toArray) :
    Rep X { σ with mu := s.heap.objs.size :: σ.mu, own := (s.heap.objs.size, vs) :: σ.own } { s with heap := h', toks := tk } ∧
      Later X σ s { σ with mu := s.heap.objs.size :: σ.mu, own := (s.heap.objs.size, vs) :: σ.own } { s with heap := h', toks := tk } := by
  obtain ⟨R', L'⟩ := R.addMuAt (tk := tk) hk (let ⟨o, _, e, _⟩ := hp; ⟨o, e⟩)
  refine ⟨⟨R'.ok, R'.sh, R'.keep, R'.frs, R'.tab, R'.new, R'.lmut, R'.ns, R'.var, R'.cmut, fun a ws hm => ?_, ?_, R'.clt, R'.mlt, R'.avn⟩, ⟨L'.keep, L'.new, L'.newM, L'.av, L'.live⟩⟩
  · rcases List.mem_cons.mp hm with e | hm
    · cases e
      exact ⟨List.mem_cons_self, vals, hp, Later.vall R L' i⟩
    · exact R'.own a ws hm
  · have lt := R.pin_lt
    have ap := List.nodup_cons.mp R.apart
    have ap2 := List.nodup_append.mp ap.2
    refine List.nodup_cons.mpr ⟨fun hm => ?_, List.nodup_append.mpr ⟨ap2.1, List.nodup_cons.mpr ⟨fun hm => ?_, ap2.2.1⟩, fun a ha b hb q => ?_⟩⟩
    · rcases List.mem_append.mp hm with hm | hm
      · exact ap.1 (List.mem_append_left _ hm)
      · rcases List.mem_cons.mp hm with q | hm
        · have := lt X.env.locals List.mem_cons_self
          rw [q] at this; exact Nat.lt_irrefl _ this
        · exact ap.1 (List.mem_append_right _ hm)
    · exact Nat.lt_irrefl _ (lt _ (List.mem_cons_of_mem _ (List.mem_append_right _ hm)))
    · rcases List.mem_cons.mp hb with r | hb
      · rw [q, r] at ha
        exact Nat.lt_irrefl _ (R.clt _ ha).lt
      · exact ap2.2.2 a ha b hb q
/-- list(x) of a list that stays as it is -/
theorem O_list {vs : List V} {K : V → St → Prop} (hz : vs.length ≤ sizeLine) (h : ∀ a, K (.own a) { σ with mu := a :: σ.mu, own := (a, vs) :: σ.own }) : OpN X (fun vals => call (.type "list") vals) [.lst vs] σ K := by
  intro s vals Q E R i hQ
  obtain ⟨y, iy, rfl⟩ : ∃ y, VIn s.heap (off X σ) (.lst vs) y ∧ vals = [y] := by
    cases i with
    | cons i r => cases r; exact ⟨_, i, rfl⟩
  cases iy with
  | lst hl _ hi =>
    obtain ⟨o, ho, hc, n, hd⟩ := hl
    refine call_list_seq _ (.inl rfl) ho hc hd (fun h' c' hk hs => ?_) (by rw [List.size_toArray, hi.length]; exact hz)
    have z := R.newOwnAt (tk := s.toks) hi hk ⟨_, _, hs, rfl, rfl, rfl⟩
    exact hQ _ _ _ _ z.1 z.2 (.own _) (h _)
end
end Mine
end
section
open PySem PySem.W PyProof.Rows PySem.Spec PySem.Calls
namespace Mine
/-- the items of l taken out of t one by one, as far as it goes -/
def takeOut {α : Type} [DecidableEq α] : List α → List α → Option (List α)
  | [], t => some t
  | x :: l, t => if x ∈ t then takeOut l (t.erase x) else none
/-- the same kinds, however often and in whatever order -/
def alike {α : Type} [DecidableEq α] (l l' : List α) : Bool := match takeOut (dd [] l) (dd [] l') with
  | none => false
  | some t => t.isEmpty
theorem takeOut_app {α : Type} [DecidableEq α] : ∀ (l l₂ t : List α), takeOut (l ++ l₂) t = (takeOut l t).bind (takeOut l₂)
  | [], _, _ => rfl
  | x :: l, l₂, t => by
    simp only [List.cons_append, takeOut]
    split
    · exact takeOut_app l l₂ _
    · rfl
theorem takeOut_le {α : Type} [DecidableEq α] : ∀ (l t t' : List α), takeOut l t = some t' → t'.length ≤ t.length
  | [], t, t', h => by cases h; exact Nat.le_refl _
  | x :: l, t, t', h => by
    simp only [takeOut] at h
    split at h
    · exact Nat.le_trans (takeOut_le l _ _ h) (List.length_erase_le ..)
    · cases h
/-- where it stops -/
theorem takeOut_none {α : Type} [DecidableEq α] (l : List α) : ∀ t, takeOut l t = none → ∃ j x t', l[j]? = some x ∧ takeOut (l.take j) t = some t' ∧ x ∉ t' := by
  induction l with
  | nil => intro t h; cases h
  | cons y l ih =>
    intro t h
    simp only [takeOut] at h
    split at h
    · rename_i hy
      obtain ⟨j, x, t', h1, h2, h3⟩ := ih _ h
      exact ⟨j + 1, x, t', by simpa using h1, by simp [takeOut, hy, h2], h3⟩
    · rename_i hy
      exact ⟨0, y, t, by simp, rfl, hy⟩
end Mine
end
section
open PySem PySem.W PyProof.Rows PySem.Spec PySem.Calls
namespace Mine
theorem sub_VE : isSubtype (.type "ValueError") (.type "ValueError") = pure true := by rw [isSubtype_type]; kernel_rfl
theorem exc_VE : isSubtype (.type "ValueError") (.type "BaseException") = pure true := by rw [isSubtype_type]; kernel_rfl
theorem nt_VE : isSubtype (.type ((Manifest.find? "ValueError").elim "type" fun x => x.metatype)) (.type "tuple") = pure false := by rw [isSubtype_type]; kernel_rfl
theorem takeOut_in {α : Type} [DecidableEq α] {l t u ti : List α} {i : Nat} {x : α} (h : takeOut l t = some u) (hx : l[i]? = some x) (h2 : takeOut (l.take i) t = some ti) : x ∈ ti := by
  have hi : i < l.length := (List.getElem?_eq_some_iff.mp hx).1
  have e : l = l.take i ++ x :: l.drop (i + 1) := by
    have e2 := List.take_append_drop i l
    rw [List.drop_eq_getElem_cons hi, (List.getElem?_eq_some_iff.mp hx).2] at e2
    exact e2.symm
  rw [e, takeOut_app, h2] at h
  simp only [Option.bind_some, takeOut] at h
  split at h
  · assumption
  · cases h
set_option maxRecDepth 20000 in
set_option maxHeartbeats 4000000 in
theorem T_compare {α : Type} [DecidableEq α] (k : Kd α) (hn : k.n ≤ 60) (l l' : List α) (hz : l.length ≤ 1000) (hz' : l'.length ≤ 1000) {X : Act} {σ : St} {K : V → St → Prop} (F : Framed X) (hh : X.A.handled = none) (hl : 2 ≤ X.lvl) (h : K (.bool (alike l l')) σ) :
    OpN X (fun vals => call (.ref 53) vals) [.lst (l.map k.v), .lst (l'.map k.v)] σ K := by
  refine O_call (f := 53) [Str.ofString "first_args", Str.ofString "second_args"] (fun Y L hc => ?_) (by omega) rfl rfl rfl (by kernel_rfl) rfl (fun vals e => ?_) (by decide +kernel) (by decide +kernel) rfl rfl rfl rfl rfl rfl
  · have hsc := hc.sc
    conv at hsc => rhs; whnf
    conv in bodyOf _ => whnf
    have hlv : 1 ≤ Y.lvl := by rw [hc.lvl]; omega
    have FY := hc.frm F
    have hhY : Y.A.handled = none := hc.hd.trans hh
    change Ex Y _ ⟨(Str.ofString "second_args", _) :: (Str.ofString "first_args", _) :: [], _, _, _⟩ _
    refine Ex_cons (Ex_assign (Ev_callF 46 (Ev_global ⟨rfl, Evs_cons (Ev_nameL (Evs_nil (T_dedup k hn l hz hlv ?_)))⟩)))
    refine seqK_next (Ex_cons (Ex_assign (Ev_callF 46 (Ev_global ⟨rfl, Evs_cons (Ev_nameL (Evs_nil (T_dedup k hn l' hz' hlv ?_)))⟩))))
    refine seqK_next (Ex_cons (Ex_assign (Ev_callT "list" (Ev_builtin ⟨rfl, Evs_cons (Ev_nameL (Evs_nil (O_list ?_ fun a => ?_)))⟩))))
    · rw [List.length_map]; exact Nat.le_trans (dd_length _ _) (Nat.le_trans (by simpa using hz') (by decide))
    refine seqK_next ?_
    have hle : (dd [] l').length ≤ 1000 := Nat.le_trans (dd_length _ _) (by simpa using hz')
    cases ht : takeOut (dd [] l) (dd [] l') with
    | some t =>
      refine Ex_cons (Ex_try (Ex_cons (Ex_for (Ev_nameL ⟨_, iter_lst _, fun i σ' => σ'.loc.lookup (Str.ofString "t") = some (.own a) ∧ ∃ ti, takeOut ((dd [] l).take i) (dd [] l') = some ti ∧ σ'.own = [(a, ti.map k.v)], fun av => ⟨lk_hit, _, rfl, rfl⟩, .inl (kd hsc (by rfl)), ?_, ?_⟩))))
      · rintro i v ⟨loc, own, mu, av⟩ hv ⟨h1, ti, h2, h3⟩
        obtain ⟨x, hx, rfl⟩ := map_get hv
        dsimp only at h1 h2 h3 ⊢
        subst h3
        have hne := (k.dat x).ne
        have hlt := takeOut_le _ _ _ h2
        have hxt : x ∈ ti := takeOut_in ht hx h2
        refine Ex_cons (Ex_expr (Ev_remove k hn (Ev_nameL ⟨a, _, rfl, List.mem_cons_self, Evs_cons (Ev_nameL (Evs_nil ⟨ti, x, _, rfl, hxt, .head, ?_, rfl, ?_⟩))⟩)))
        · exact Nat.le_trans hlt (Nat.le_trans hle (by decide))
        · refine seqK_next (Ex_nil (forK_next ⟨lk_miss (by decide) h1, ti.erase x, ?_, rfl⟩))
          rw [take_next hx, takeOut_app, h2]
          simp [takeOut, hxt]
      · rintro ⟨loc, own, mu, av⟩ av' ⟨h1, ti, h2, h3⟩
        dsimp only at h1 h2 h3 ⊢
        subst h3
        rw [List.length_map, List.take_length, ht] at h2
        cases h2
        refine seqK_next (Ex_nil (seqK_next (Ex_cons (Ex_return (Ev_una (Ev_nameL (O_not (B_list (.own List.mem_cons_self) ?_ (seqK_ret ⟨_, .same _, ?_⟩)))))))))
        · rw [List.length_map]; exact Nat.le_trans (takeOut_le _ _ _ ht) (Nat.le_trans hle (by decide))
        · have : alike l l' = t.isEmpty := by simp [alike, ht]
          rw [this] at h
          cases t <;> exact h
    | none =>
      obtain ⟨j, x, t', h1, h2, h3⟩ := takeOut_none _ _ ht
      have hj : j < ((dd [] l).map k.v).length := by rw [List.length_map]; exact (List.getElem?_eq_some_iff.mp h1).1
      refine Ex_cons (Ex_caught (T := "ValueError") FY hhY (Rz_first (Rz_for FY (Ev_nameL ⟨_, iter_lst _, fun i σ' => σ'.loc.lookup (Str.ofString "t") = some (.own a) ∧ ∃ ti, takeOut ((dd [] l).take i) (dd [] l') = some ti ∧ σ'.own = [(a, ti.map k.v)], j, hj, fun av => ⟨lk_hit, _, rfl, rfl⟩, ?_, ?_⟩) (.inl rfl))) (.inr (.inr rfl)) exc_VE nt_VE sub_VE)
      · rintro i v ⟨loc, own, mu, av⟩ hij hv ⟨g1, ti, g2, g3⟩
        obtain ⟨y, hy, rfl⟩ := map_get hv
        dsimp only at g1 g2 g3 ⊢
        subst g3
        have hne := (k.dat y).ne
        have hlt := takeOut_le _ _ _ g2
        have hyt : y ∈ ti := takeOut_in h2 (by rw [List.getElem?_take, if_pos hij]; exact hy) (by rw [List.take_take, Nat.min_eq_left (Nat.le_of_lt hij)]; exact g2)
        refine Ex_cons (Ex_expr (Ev_remove k hn (Ev_nameL ⟨a, _, rfl, List.mem_cons_self, Evs_cons (Ev_nameL (Evs_nil ⟨ti, y, _, rfl, hyt, .head, ?_, rfl, ?_⟩))⟩)))
        · exact Nat.le_trans hlt (Nat.le_trans hle (by decide))
        · refine seqK_next (Ex_nil ⟨rfl, lk_miss (by decide) g1, ti.erase y, ?_, rfl⟩)
          rw [take_next hy, takeOut_app, g2]
          simp [takeOut, hyt]
      · rintro v ⟨loc, own, mu, av⟩ hv ⟨g1, ti, g2, g3⟩
        obtain ⟨y, hy, rfl⟩ := map_get hv
        dsimp only at g1 g2 g3 ⊢
        subst g3
        have hne := (k.dat y).ne
        rw [h1] at hy; cases hy
        rw [h2] at g2; cases g2
        refine Rz_first (Rz_expr (Rz_remove k hn hhY (Ev_nameL ⟨a, _, rfl, List.mem_cons_self, Evs_cons (Ev_nameL (Evs_nil ⟨t', x, rfl, h3, List.mem_cons_self, fun av' av'' e av₃ => ?_⟩))⟩)))
        refine Ex_cons (Ex_return (Ev_bool (seqK_ret (seqK_ret ⟨_, .same _, ?_⟩))))
        have : alike l l' = false := by simp [alike, ht]
        rw [this] at h
        exact h
  · match vals, e with
    | [a, b], _ => rfl
end Mine
end
section
open PySem PySem.W PyProof.Rows PySem.Spec PySem.Calls
set_option maxRecDepth 100000
namespace Mine
abbrev fkObj : Obj := { cls := .type "builtin_function_or_method", data := .fields #[.builtin "dict.fromkeys", .type "dict"] }
theorem type_fk : typeOf (.builtin "dict.fromkeys") = pure (.type "classmethod_descriptor") := by show builtinType _ = _; rw [builtinType_eq_fast]; kernel_rfl
theorem entry_fk : entryFor table "dict.fromkeys" = some Builtin.«dict.fromkeys» := entryFor_of_tree (by kernel_rfl)
theorem entry_fkl : entryFor table "dict.fromkeys.loop" = some Builtin.«dict.fromkeys.loop» := entryFor_of_tree (by kernel_rfl)
theorem quiet_fk {as : Args} : (Code.builtin "dict.fromkeys" as).quiet = true := Code.quiet_builtin _ (by decide +kernel)
theorem plain_fk : plainId "dict.fromkeys" = true := by decide +kernel
theorem plain_fkl : plainId "dict.fromkeys.loop" = true := by decide +kernel
theorem owner_fk : (kfb_private% "ownerAndName") "dict.fromkeys" = ("dict", "fromkeys") := by first | decide +kernel | kernel_rfl
theorem isType_dict : isType (.type "dict") = pure true := by first | rfl | kernel_rfl
theorem sub_dd : isSubtype (.type "dict") (.type "dict") = pure true := by rw [isSubtype_type]; kernel_rfl
section
variable {prog : Program} {w : World} {M : Model} {A : Around} {E : Value → Shared → Prop} {s : Shared}
theorem run_get_fk {P : PySem.Fin → Shared → Prop} (h : P (.done (.ret (.ref s.heap.objs.size))) { s with heap := s.heap.push fkObj }) :
    wpAny M A (Builtin.«classmethod_descriptor.__get__» ⟨[.builtin "dict.fromkeys", .none, .type "dict"], []⟩) P E s := by
  unfold Builtin.«classmethod_descriptor.__get__»
  refine wpAny_bind (wpAny_of_eq (a := (.builtin "dict.fromkeys", none, some (.type "dict"))) (by first | rfl | kernel_rfl) ?_)
  simp only [owner_fk]
  refine wpAny_bind (wpAny_of_eq (a := .type "dict") rfl ?_)
  refine wpAny_bind (wpAny_of_eq (a := true) isType_dict ?_)
  refine KFB.if_not rfl ?_
  refine wpAny_bind (wpAny_of_eq (a := true) sub_dd ?_)
  refine KFB.if_not rfl ?_
  exact wpAny_bind (wpAny_newObj_type (wpAny_pure h))
theorem fk_cls : findCls [] (.type "dict") (.type "type") (PySem.Str.ofString "fromkeys") = some (.get (.builtin "classmethod_descriptor.__get__") (.builtin "dict.fromkeys") .none (.type "dict")) := by kernel_rfl
theorem in_nil (h : Heap) : Frag.In [] h := by intro a o e; cases e
theorem getm_fk {pl : Sem Bool} {Q : Value × List Value → Shared → Prop}
    (h : Q (.ref s.heap.objs.size, []) { s with heap := s.heap.push fkObj, toks := s.toks + 1 }) :
    wpAny (model prog w) A (getMethod (.type "dict") (PySem.Str.ofString "fromkeys") pl) Q E s := by
  have X : Frag.In [] s.heap := in_nil _
  have hstub : opaqueClassAbove (.type "dict") = pure none := by unfold opaqueClassAbove; dsimp only; rw [show Manifest.isStub "dict" = false by decide +kernel]; rfl
  have ht : typeOf (.type "dict") = pure (.type "type") := by first | rfl | kernel_rfl
  have L0 : Looks (model prog w) s.heap (typeOf (.type "dict")) (.type "type") := Looks.of_pure ht
  have hg : findIn [] (.type "type") "__getattribute__" = some (some (.builtin "type.__getattribute__")) := type_tga
  unfold getMethod specialOf
  refine wpAny_bind (wpAny_bind (L0.here ((looks_findIn X hg).here ?_)))
  dsimp only
  rw [if_pos canon_tga]
  refine wpAny_bind (wpAny_mono (Q := fun v => Q (v, [])) (E := E) ?_ (fun _ _ z => wpAny_pure z) fun _ _ z => z)
  have LO : Looks (model prog w) s.heap (opaqueClassAbove (.type "dict")) none := Looks.of_pure hstub
  refine cls_open X LO L0 hg (looks_hook X (r := none) (by rfl)) (by show subIn [] _ _ = _; rfl) fk_cls ?_
  show wpAny _ _ (holding [.builtin "dict.fromkeys"] (call (.builtin "classmethod_descriptor.__get__") [.builtin "dict.fromkeys", .none, .type "dict"]) >>= fun v => ret v) _ _ _
  refine wpAny_bind (wpAny_holding (wpAny_call_entry KFB.slot_get type_fk KFB.entry_get (run_get_fk ⟨_, rfl, wpAny_pure (wpAny_pure h)⟩) (KFB.args_get _ _ _)))
end
end Mine
end
section
open PySem PySem.W PyProof.Rows PySem.Spec PySem.Calls PySem.SeqAt PySem.MeetsSeq
set_option maxRecDepth 100000
namespace Mine
theorem typeCall_dict0 : checkTypeCall "dict" ⟨[], []⟩ = pure () := by kernel_rfl
theorem newCall_dict0 : checkBuiltinCall "dict.__new__" ⟨[.type "dict"], []⟩ = pure () := by kernel_rfl
theorem args_dict_init0 (a : Value) : argsOk "dict.__init__" ⟨[a], []⟩ := by unfold argsOk; kernel_rfl
abbrev emptyD : Obj := { cls := .type "dict", data := .dict #[] }
section
variable {prog : Program} {w : World} {A : Around} {E : Value → Shared → Prop} {s : Shared}
theorem code_dict_new0 {Q₁ : Value → Shared → Prop} (h : Q₁ (.ref s.heap.objs.size) { s with heap := s.heap.push emptyD }) :
    codeAny (model prog w) A (.call (.builtin "dict.__new__") ⟨[.type "dict"], []⟩) (wants Q₁ E) s := by
  refine codeAny_call_builtin F.kt_plain_dict_new F.kt_entry_dict_new (wpAny_of_eq newCall_dict0 ?_)
  have hsub := F.kt_sub_dict
  have hmro := F.kt_mro_dict
  obtain ⟨hp, g, d, tk, os⟩ := s
  unfold Builtin.«dict.__new__»
  wp_walk
  exact h
theorem call_dict0 {Q : Value → Shared → Prop} (h : Q (.ref s.heap.objs.size) { s with heap := s.heap.push emptyD }) : wpAny (model prog w) A (call (.type "dict") []) Q E s := by
  refine callType_codes (Q₁ := fun obj s₁ => obj = .ref s.heap.objs.size ∧ s₁ = { s with heap := s.heap.push emptyD }) F.kt_called_dict typeCall_dict0 F.entry_dict_init (code_dict_new0 ⟨rfl, rfl⟩) ?_
  rintro obj s₁ ⟨rfl, rfl⟩
  have hnew : Shared.TypeIs { s with heap := s.heap.push emptyD } (.ref s.heap.objs.size) "dict" := ⟨_, Heap.get?_push_size _ rfl, rfl⟩
  refine ⟨hnew, args_dict_init0 _, ?_⟩
  unfold Builtin.«dict.__init__»
  refine wpAny_bind ?_
  unfold Builtin.Dict.selfAndRest
  refine wpAny_bind (wpAny_notOrdered_dict hnew ?_)
  show wpAny _ _ (pure (s.heap.objs.size, ([] : List Value))) _ _ _
  refine wpAny_pure ?_
  show wpAny _ _ (Builtin.Dict.addKeywords s.heap.objs.size [] >>= _) _ _ _
  exact wpAny_bind (wpAny_pure (wpAny_pure ⟨rfl, h⟩))
variable {K : Type} [DecidableEq K] (knd : KeyKind prog w K)
abbrev finP (prog : Program) (w : World) (A : Around) (R : Result → Shared → Prop) : PySem.Fin → Shared → Prop := fun fin s' => match fin with | .done f => R (.ok f) s' | .again c' => c'.quiet = true ∧ codeAny (model prog w) A c' R s'
/-- the keys, each once -/
def kstore (acc : List (K × Value)) (ks : List K) : List (K × Value) := ks.foldl (fun acc k => stored acc k .none) acc
theorem stored_len (acc : List (K × Value)) (k : K) (v : Value) : (stored acc k v).length ≤ acc.length + 1 := by
  unfold stored
  split <;> simp
theorem fk_loop (d it l : Addr) (items : Array Value) (ks : List K) (hks : ∀ i (h : i < items.size), ∃ k, ks[i]? = some k ∧ knd.is k items[i] = true) (hlen : ks.length = items.size) (hdi : d ≠ it) (hdl : d ≠ l) (hil : it ≠ l) (hz : items.size ≤ sizeLine) (n : Nat) :
    ∀ (i : Nat) (A : Around) (R : Result → Shared → Prop) (s : Shared) (kvs : List (K × Value)), items.size - i = n → i ≤ items.size → A.handled = none → s.heap.DictOf knd d kvs → s.heap.IsListIter it l i → s.heap.IsList l items → kvs.length ≤ i →
      (∀ h' tk, h'.DictOf knd d (kstore kvs (ks.drop i)) → (∀ b o, b ≠ d → b ≠ it → s.heap.get? b = some o → h'.get? b = some o) → R (.ok (.ret (.ref d))) { s with heap := h', toks := tk }) →
      wpAny (model prog w) A.in1 (Builtin.«dict.fromkeys.loop» ⟨[.ref d, .ref it, .none], []⟩) (finP prog w A R) (fun e s' => R (.error e) s') s := by
  induction n with
  | zero =>
    intro i A R s kvs hn hi hh hd hit hl hle h
    obtain rfl : i = items.size := by omega
    unfold Builtin.«dict.fromkeys.loop»
    refine wpAny_bind (list_end (A := A.in1) (.inl hh) (fun b q => by rw [Around.in1_handled, hh] at q; cases q) hit hl (by simp) fun h' he => ?_)
    refine wpAny_pure ?_
    rw [List.drop_eq_nil_of_le (by omega)] at h
    exact h h' s.toks (hd.extBut he hdi) fun b o _ hb e => he b o hb e
  | succ n ih =>
    intro i A R s kvs hn hi hh hd hit hl hle h
    have hlt : i < items.size := by omega
    obtain ⟨k, hk, his⟩ := hks i hlt
    unfold Builtin.«dict.fromkeys.loop»
    refine wpAny_bind (wpAny_pyNext_list_item hit hl (x := items[i]) (by simp [hlt]) fun h₁ hit₁ hs₁ => ?_)
    have hd₁ := hd.sameBut hs₁ hdi
    have hl₁ : h₁.IsList l items := hl.extBut hs₁.extBut (Ne.symm hil)
    refine wpAny_bind (wpAny_typeOf (Heap.DictOf.typeIs (s := { s with heap := h₁ }) hd₁) ?_)
    rw [if_pos (by decide)]
    refine wpAny_bind (wpAny_of_eq (a := d) rfl (wpAny_bind (wpAny_holding ?_)))
    refine wpAny_dictSet_pairs (s := { s with heap := h₁ }) his hd₁ (fun h₂ hd₂ hs₂ => ?_) (by omega)
    refine wpAny_pure ⟨plainId_quiet plain_fkl _, codeAny_builtin entry_fkl ?_⟩
    rw [Around.under_plainId plain_fkl _]
    refine ih (i + 1) A R _ _ (by omega) hlt hh hd₂ (hit₁.extBut hs₂.extBut (Ne.symm hdi)) (hl₁.extBut hs₂.extBut (Ne.symm hdl)) (Nat.le_trans (stored_len _ _ _) (by omega)) fun h' tk hd' hk' => ?_
    refine h h' tk ?_ fun b o hb1 hb2 e => hk' b o hb1 hb2 (hs₂.extBut b o hb1 (hs₁.extBut b o hb2 e))
    rw [List.drop_eq_getElem_cons (by omega), kstore, List.foldl_cons, (List.getElem?_eq_some_iff.mp hk).2]
    exact hd'
/-- a list has no hash -/
theorem hash_list {a : Addr} {its : Array Value} {Q : Int → Shared → Prop} (hh : A.handled = none) (hu : A.units < cLine) (hl : s.heap.IsList a its)
    (h : ∀ h' tk e, Heap.NewExc s.heap h' e "TypeError" → s.heap.objs.size ≤ e → E (.ref e) { s with heap := h', toks := tk }) : wpAny (model prog w) A (pyHash (.ref a)) Q E s := by
  show wpAny _ _ (pyHashByItsType (.ref a)) _ _ _
  unfold pyHashByItsType
  refine wpAny_bind (wpAny_cRoomFor_or (.inr hu) ?_)
  refine wpAny_bind (wpAny_specialOf hl.typeIs (r := some .none) (by rw [typeLookup_type, builtinLookup_eq_fast]; kernel_rfl) ?_)
  rw [if_pos (by decide)]
  refine wpAny_bind (wpAny_rule (wpAny_bind (wpAny_typeNameOf' hl.typeIs (by decide) ?_)))
  exact wpAny_bind (raiseM plainExc_TypeError hh h (by decide +kernel))
theorem fk_bad (d it l a : Addr) (items its : Array Value) (hx : items[0]? = some (.ref a)) (hdi : d ≠ it) (hai : a ≠ it) {A : Around} {R : Result → Shared → Prop} {s : Shared} (hh : A.handled = none) (hu : A.in1.units < cLine) (hd : s.TypeIs (.ref d) "dict") (hit : s.heap.IsListIter it l 0) (hl : s.heap.IsList l items) (ha : s.heap.IsList a its)
      (h : ∀ h₁ h' tk e, Heap.SameBut it s.heap h₁ → Heap.NewExc h₁ h' e "TypeError" → s.heap.objs.size ≤ e → R (.error (.ref e)) { s with heap := h', toks := tk }) :
      wpAny (model prog w) A.in1 (Builtin.«dict.fromkeys.loop» ⟨[.ref d, .ref it, .none], []⟩) (finP prog w A R) (fun e s' => R (.error e) s') s := by
  unfold Builtin.«dict.fromkeys.loop»
  refine wpAny_bind (wpAny_pyNext_list_item hit hl hx fun h₁ hit₁ hs₁ => ?_)
  refine wpAny_bind (wpAny_typeOf (T := "dict") (let ⟨o, ho, hc⟩ := hd; ⟨o, (hs₁.2 _ hdi).trans ho, hc⟩) ?_)
  rw [if_pos (by decide)]
  refine wpAny_bind (wpAny_of_eq (a := d) rfl (wpAny_bind (wpAny_holding ?_)))
  unfold dictSet
  refine wpAny_holding ?_
  refine wpAny_bind (hash_list (s := { s with heap := h₁ }) hh hu (ha.extBut hs₁.extBut hai) fun h' tk e x he => ?_)
  exact h h₁ h' tk e hs₁ x (by rw [← hs₁.1]; exact he)
end
end Mine
end
section
open PySem PySem.W PyProof.Rows PySem.Spec PySem.Calls PySem.SeqAt PySem.MeetsSeq
set_option maxRecDepth 100000
namespace Mine
section
variable {prog : Program} {w : World} {A : Around} {E : Value → Shared → Prop} {s : Shared}
variable {K : Type} [DecidableEq K] (knd : KeyKind prog w K)
theorem fk_tree {l : Addr} {items : Array Value} {R : Result → Shared → Prop} (hl : s.heap.IsList l items)
    (h : wpAny (model prog w) A.in1 (Builtin.«dict.fromkeys.loop» ⟨[.ref s.heap.objs.size, .ref (s.heap.objs.size + 1), .none], []⟩) (finP prog w A R) (fun e s' => R (.error e) s') { s with heap := (s.heap.push emptyD).push { cls := .type "list_iterator", data := .fields #[.ref l, .int 0 0] } }) :
    wpAny (model prog w) A.in1 (Builtin.«dict.fromkeys» ⟨[.type "dict", .ref l], []⟩) (finP prog w A R) (fun e s' => R (.error e) s') s := by
  have hd : Shared.TypeIs { s with heap := s.heap.push emptyD } (.ref s.heap.objs.size) "dict" := ⟨_, Heap.get?_push_size _ rfl, rfl⟩
  have hl' : (s.heap.push emptyD).IsList l items := hl.push _
  unfold Builtin.«dict.fromkeys»
  refine wpAny_bind (wpAny_of_eq (a := true) isType_dict ?_)
  refine KFB.if_not rfl ?_
  refine wpAny_bind (wpAny_of_eq (a := true) sub_dd ?_)
  refine KFB.if_not rfl ?_
  refine KFB.if_not rfl ?_
  refine wpAny_bind (wpAny_rule (wpAny_bind (wpAny_pure ?_)))
  dsimp only
  refine wpAny_bind (call_dict0 ?_)
  refine wpAny_holding ?_
  refine wpAny_bind (wpAny_typeOf hl'.typeIs (wpAny_bind (wpAny_typeOf hd ?_)))
  rw [if_neg (by decide)]
  refine wpAny_bind (wpAny_typeOf hd ?_)
  rw [if_neg (by decide)]
  refine wpAny_bind (wpAny_pyIter_list (s := { s with heap := s.heap.push emptyD }) hl' ?_)
  refine wpAny_pure ⟨plainId_quiet plain_fkl _, codeAny_builtin entry_fkl ?_⟩
  rw [Around.under_plainId plain_fkl _]
  rw [Heap.size_push]
  exact h
theorem callBound_fk {x l : Addr} {items : Array Value} {Q : Value → Shared → Prop} (hx : s.heap.get? x = some fkObj) (hl : s.heap.IsList l items)
    (h : wpAny (model prog w) A.in1 (Builtin.«dict.fromkeys.loop» ⟨[.ref s.heap.objs.size, .ref (s.heap.objs.size + 1), .none], []⟩) (finP prog w A (wants Q E)) (fun e s' => wants Q E (.error e) s') { s with heap := (s.heap.push emptyD).push { cls := .type "list_iterator", data := .fields #[.ref l, .int 0 0] } }) :
    wpAny (model prog w) A (call (.ref x) [.ref l]) Q E s := by
  refine wpAny_call (codeAny_of_tree ?_)
  show wpAny _ A.in1 (callAny (.ref x) ⟨[.ref l], []⟩) _ _ s
  simp only [callAny]
  refine wpAny_bind (wpAny_load hx ?_)
  simp only [fkObj, show (Value.type "builtin_function_or_method" == Value.type "method" || Value.type "builtin_function_or_method" == Value.type "builtin_function_or_method" || Value.type "builtin_function_or_method" == Value.type "method-wrapper") = true by decide, if_true]
  refine KFB.if_so (by decide) ?_
  refine wpAny_bind (wpAny_of_eq (a := ()) (by kernel_rfl) ?_)
  refine wpAny_bind (wpAny_pure (wpAny_pure ?_))
  refine ⟨quiet_fk, codeAny_builtin entry_fk ?_⟩
  rw [Around.under_plainId plain_fk _]
  exact fk_tree hl h
end
end Mine
end
section
open PySem PySem.W PyProof.Rows PySem.Spec PySem.Calls
set_option maxRecDepth 100000
namespace Mine
def ko (x : _root_.Fin 6) : Option Str := if x = 0 then none else some (pst x)
theorem ko_is {h : Heap} {mu : List Addr} {x : _root_.Fin 6} {val : Value} (i : VIn h mu (kp.v x) val) : isOS (ko x) val = true := by
  change VIn h mu (if x = 0 then V.none else V.str (pst x)) val at i
  unfold ko
  split at i
  · cases i; rw [if_pos ‹_›]; rfl
  · cases i; rw [if_neg ‹_›]; simp [isOS, Value.isStrOf]
theorem ko_inj : ∀ x y, ko x = ko y → x = y := by decide +kernel
theorem dd_map {α β : Type} [DecidableEq α] [DecidableEq β] (f : α → β) (hf : ∀ x y, f x = f y → x = y) : ∀ (l acc : List α), dd (acc.map f) (l.map f) = (dd acc l).map f
  | [], acc => rfl
  | x :: l, acc => by
    have hm : (f x ∈ acc.map f) ↔ x ∈ acc := ⟨fun h => by obtain ⟨y, hy, e⟩ := List.mem_map.mp h; rw [← hf _ _ e]; exact hy, fun h => List.mem_map.mpr ⟨x, h, rfl⟩⟩
    rw [List.map_cons, dd, dd]
    by_cases h : x ∈ acc
    · rw [if_pos h, if_pos (hm.mpr h)]; exact dd_map f hf l acc
    · rw [if_neg h, if_neg (fun q => h (hm.mp q))]
      rw [← dd_map f hf l (acc ++ [x]), List.map_append]; rfl
theorem stored_keys {K : Type} [DecidableEq K] (acc : List K) (k : K) : stored (acc.map fun k => (k, Value.none)) k .none = (if k ∈ acc then acc else acc ++ [k]).map fun k => (k, Value.none) := by
  unfold stored
  have e : ((acc.map fun k => (k, Value.none)).any fun kv => decide (kv.1 = k)) = decide (k ∈ acc) := by
    induction acc with
    | nil => simp
    | cons y acc ih =>
      rw [List.map_cons, List.any_cons, ih]
      by_cases h : y = k
      · subst h; simp
      · have h' : k ≠ y := fun e => h e.symm
        simp [h, h']
  rw [e]
  by_cases h : k ∈ acc
  · rw [if_pos (by simpa using h), if_pos h, List.map_map]
    refine List.map_congr_left fun y _ => ?_
    simp only [Function.comp]
    split <;> rfl
  · rw [if_neg (by simpa using h), if_neg h, List.map_append]; rfl
theorem kstore_dd {K : Type} [DecidableEq K] : ∀ (ks acc : List K), kstore (acc.map fun k => (k, Value.none)) ks = (dd acc ks).map fun k => (k, Value.none)
  | [], acc => rfl
  | k :: ks, acc => by
    rw [kstore, List.foldl_cons, stored_keys, dd]
    exact kstore_dd ks _
section
variable {X : Act} {σ : St} {s : Shared} {K : V → St → Prop}
theorem callWith_bo {prog : Program} {w : World} {A : Around} {E : Value → Shared → Prop} {env : Env} {pos : Pos} {u : Addr} {id : String} {b : Value} {e : Expr} {Q : Value → Shared → Prop}
    (h : wpAny (model prog w) A (spliced (backTo pos (starEach [e] env))) (fun vs s₁ => (∃ o, s₁.heap.get? u = some o ∧ o.cls = .type "builtin_function_or_method" ∧ o.data = .fields #[.builtin id, b]) ∧ wpAny (model prog w) A (call (.ref u) vs) Q E s₁) E s)
    (he : starEach [e] env = (false, eval e env) :: starEach [] env) : wpAny (model prog w) A (callWith pos (.ref u) [] (backTo pos (starEach [e] env)) []) Q E s := by
  rw [he] at h ⊢
  unfold callWith
  refine wpAny_bind (wpAny_holding (PySem.Calls.evalArgs_plain (wpAny_mono h (fun vs s₁ h₁ => wpAny_bind (wpAny_standAt ?_)) fun _ _ x => x)))
  obtain ⟨⟨o, ho, hcls, hdata⟩, hcall⟩ := h₁
  have hplain : (backTo pos ((false, eval e env) :: starEach [] env)).any (·.1) = false := rfl
  dsimp only
  rw [hplain]
  refine wpAny_bind (m := keeperOf (.ref u)) ?_
  unfold keeperOf
  refine wpAny_bind (wpAny_load ho ?_)
  rw [hdata]
  dsimp only
  rw [hcls]
  simp only [show (Value.type "builtin_function_or_method" != Value.type "method") = true by decide, show (Value.type "builtin_function_or_method" == Value.type "builtin_function_or_method" || Value.type "builtin_function_or_method" == Value.type "method-wrapper") = true by decide, if_true]
  refine wpAny_pure ?_
  exact wpAny_bind (wpAny_mono hcall (fun r s₂ hr => wpAny_bind (wpAny_holding (wpAny_point (wpAny_pure hr)))) fun _ _ x => x)
theorem Rep.big (R : Rep X σ s) : 120 < s.heap.objs.size := by
  have h : (heapK X.w.params).lookup 120 = some ((heapK X.w.params).lookup 120).get! := by rfl
  exact Heap.lt_size (R.base _ _ (R.ok.kin _ _ h))
/-- dict.fromkeys(a list), up to its loop -/
theorem fromkeys_core {e : Expr} {p apos pos : Pos} {Q : Value → Shared → Prop} {E : Value → Shared → Prop} (R : Rep X σ s)
    (h : Ev X (eval (.Name (Str.ofString "dict") p) X.env) σ fun v σ₁ => v = .any (.type "dict") ∧ Ev X (eval e X.env) σ₁ fun u σ₂ => ∃ vs, u = .lst vs ∧ ∀ s₂ l items, Rep X σ₂ s₂ → Later X σ s σ₂ s₂ → s₂.heap.IsList l items.toArray → VAll s₂.heap (off X σ₂) vs items →
      wpAny (model X.prog X.w) X.A.in1 (Builtin.«dict.fromkeys.loop» ⟨[.ref s₂.heap.objs.size, .ref (s₂.heap.objs.size + 1), .none], []⟩) (finP X.prog X.w X.A (wants Q E)) (fun e s' => wants Q E (.error e) s') { s₂ with heap := (s₂.heap.push emptyD).push { cls := .type "list_iterator", data := .fields #[.ref l, .int 0 0] } })
    (he : ∃ pl, eval (.Call (.Attribute (.Name (Str.ofString "dict") p) (Str.ofString "fromkeys") apos) [e] [] pos) X.env = (do
      let ov ← eval (.Name (Str.ofString "dict") p) X.env
      standAt apos.atName
      let (f, first) ← holding [ov] (getMethod ov (Str.ofString "fromkeys") pl)
      callWith pos f first (backTo pos (starEach [e] X.env)) [])) (hs : starEach [e] X.env = (false, eval e X.env) :: starEach [] X.env) :
    wpAny (model X.prog X.w) X.A (eval (.Call (.Attribute (.Name (Str.ofString "dict") p) (Str.ofString "fromkeys") apos) [e] [] pos) X.env) Q E s := by
  obtain ⟨pl, he⟩ := he
  refine PyProof.Rows.MethodCall_ (h s _ _ R fun val v σ₁ s₁ R₁ L₁ i₁ h₁ => ?_) he
  obtain ⟨rfl, h₁⟩ := h₁
  cases i₁
  refine getm_fk ?_
  have z := R₁.push (tk := s₁.toks + 1) fkObj
  have hat : ({ s₁ with heap := s₁.heap.push fkObj, toks := s₁.toks + 1 } : Shared).heap.get? s₁.heap.objs.size = some fkObj := Heap.get?_push_size _ rfl
  have hoff : s₁.heap.objs.size ∉ off X σ₁ := R₁.fresh (Nat.le_refl _)
  refine callWith_bo (id := "dict.fromkeys") (b := .type "dict") ?_ hs
  refine PyProof.Rows.args_cons (h₁ _ _ _ z.1 fun val u σ₂ s₂ R₂ L₂ i₂ h₂ => ?_) hs
  refine PyProof.Rows.args_nil ?_
  obtain ⟨vs, rfl, h₂⟩ := h₂
  have hat₂ := L₂.off_keep z.1 _ _ hoff hat
  refine ⟨⟨_, hat₂, rfl, rfl⟩, ?_⟩
  cases i₂ with
  | lst hl _ hi => exact callBound_fk hat₂ hl (h₂ s₂ _ _ R₂ ((L₁.trans z.2).trans L₂) hl hi)
/-- the keys of a row, each once -/
theorem Ev_fromkeys {e : Expr} {p apos pos : Pos} (hh : X.A.handled = none)
    (h : Ev X (eval (.Name (Str.ofString "dict") p) X.env) σ fun v σ₁ => v = .any (.type "dict") ∧ Ev X (eval e X.env) σ₁ fun u σ₂ => ∃ l : List (_root_.Fin 6), u = .lst (l.map kp.v) ∧ l.length ≤ 1000 ∧ K (.dict X.prog X.w ((dd [] l).map ko)) σ₂)
    (he : ∃ pl, eval (.Call (.Attribute (.Name (Str.ofString "dict") p) (Str.ofString "fromkeys") apos) [e] [] pos) X.env = (do
      let ov ← eval (.Name (Str.ofString "dict") p) X.env
      standAt apos.atName
      let (f, first) ← holding [ov] (getMethod ov (Str.ofString "fromkeys") pl)
      callWith pos f first (backTo pos (starEach [e] X.env)) []) := by exact ⟨_, rfl⟩) (hs : starEach [e] X.env = (false, eval e X.env) :: starEach [] X.env := by rfl) :
    Ev X (eval (.Call (.Attribute (.Name (Str.ofString "dict") p) (Str.ofString "fromkeys") apos) [e] [] pos) X.env) σ K := by
  intro s Q E R hQ
  refine fromkeys_core R (fun s' Q' E' R' hQ' => h s' Q' E' R' fun val v σ₁ s₁ R₁ L₁ i₁ h₁ => hQ' val v σ₁ s₁ R₁ L₁ i₁ ⟨h₁.1, fun s' Q' E' R' hQ' => h₁.2 s' Q' E' R' fun val u σ₂ s₂ R₂ L₂ i₂ h₂ => hQ' val u σ₂ s₂ R₂ L₂ i₂ ?_⟩) he hs
  obtain ⟨l, rfl, hz, hK⟩ := h₂
  refine ⟨_, rfl, fun s₂ a items R₂ L₂ hl hi => ?_⟩
  have hlen : items.length = l.length := by rw [hi.length, List.length_map]
  have hd : ((s₂.heap.push emptyD).push { cls := .type "list_iterator", data := .fields #[.ref a, .int 0 0] }).DictOf (osKind X.prog X.w) s₂.heap.objs.size [] := (Heap.DictOf.new s₂.heap).push _
  have ha : a < s₂.heap.objs.size := isList_lt hl
  refine fk_loop (osKind X.prog X.w) s₂.heap.objs.size (s₂.heap.objs.size + 1) a items.toArray (l.map ko) (fun i hi' => ?_) (by simp [hlen]) (Nat.ne_of_lt (Nat.lt_succ_self _)) (Nat.ne_of_gt ha) (Nat.ne_of_gt (Nat.lt_succ_of_lt ha)) ?_ (items.toArray.size - 0) 0 X.A (wants Q E) _ [] rfl (Nat.zero_le _) hh hd ?_ ((hl.push _).push _) (Nat.zero_le _) fun h' tk hd' hk' => ?_
  · have hi2 : i < l.length := by simpa [hlen] using hi'
    refine ⟨ko l[i], by rw [List.getElem?_map, List.getElem?_eq_getElem hi2]; rfl, ?_⟩
    obtain ⟨val, e1, e2⟩ := hi.get (i := i) (v := kp.v l[i]) (by rw [List.getElem?_map, List.getElem?_eq_getElem hi2]; rfl)
    have e3 : items.toArray[i] = val := by
      rw [List.getElem?_eq_getElem (by omega)] at e1
      simpa using e1
    show isOS _ _ = true
    rw [e3]
    exact ko_is e2
  · rw [List.size_toArray, hlen]; exact Nat.le_trans hz (by decide)
  · exact ⟨_, by rw [← Heap.size_push s₂.heap emptyD]; exact Heap.get?_push_size _ rfl, rfl, rfl⟩
  · have z := R₂.grow (tk := tk) (h' := h') fun b o e => by
      have hb := Heap.lt_size e
      exact hk' b o (Nat.ne_of_lt hb) (Nat.ne_of_lt (Nat.lt_succ_of_lt hb)) (Heap.get?_push_of_some _ (Heap.get?_push_of_some _ e))
    have e1 := kstore_dd (l.map ko) []
    rw [List.map_nil, show ([] : List (Option Str)) = ([] : List (_root_.Fin 6)).map ko from rfl, dd_map ko ko_inj] at e1
    rw [List.drop_zero, e1] at hd'
    exact hQ _ _ _ _ z.1 (L₂.trans z.2) (.dict hd' (by
      have := R₂.big
      simp only [beq_eq_false_iff_ne, ne_eq]
      intro q
      rw [q] at this
      exact absurd this (by decide)) (R₂.fresh (Nat.le_refl _))) hK
/-- the keys cannot be told apart by a hash: the first one is a list -/
theorem Rz_fromkeys {e : Expr} {p apos pos : Pos} {K : St → Prop} (hh : X.A.handled = none)
    (h : Ev X (eval (.Name (Str.ofString "dict") p) X.env) σ fun v σ₁ => v = .any (.type "dict") ∧ Ev X (eval e X.env) σ₁ fun u σ₂ => ∃ ws vs, u = .lst (.lst ws :: vs) ∧ ∀ av, K { σ₂ with av := av })
    (he : ∃ pl, eval (.Call (.Attribute (.Name (Str.ofString "dict") p) (Str.ofString "fromkeys") apos) [e] [] pos) X.env = (do
      let ov ← eval (.Name (Str.ofString "dict") p) X.env
      standAt apos.atName
      let (f, first) ← holding [ov] (getMethod ov (Str.ofString "fromkeys") pl)
      callWith pos f first (backTo pos (starEach [e] X.env)) []) := by exact ⟨_, rfl⟩) (hs : starEach [e] X.env = (false, eval e X.env) :: starEach [] X.env := by rfl) :
    Rz X (eval (.Call (.Attribute (.Name (Str.ofString "dict") p) (Str.ofString "fromkeys") apos) [e] [] pos) X.env) σ "TypeError" none K := by
  intro s Q E R hQ
  refine fromkeys_core R (fun s' Q' E' R' hQ' => h s' Q' E' R' fun val v σ₁ s₁ R₁ L₁ i₁ h₁ => hQ' val v σ₁ s₁ R₁ L₁ i₁ ⟨h₁.1, fun s' Q' E' R' hQ' => h₁.2 s' Q' E' R' fun val u σ₂ s₂ R₂ L₂ i₂ h₂ => hQ' val u σ₂ s₂ R₂ L₂ i₂ ?_⟩) he hs
  obtain ⟨ws, vs, rfl, hK⟩ := h₂
  refine ⟨_, rfl, fun s₂ a items R₂ L₂ hl hi => ?_⟩
  cases hi with
  | cons i₁ r =>
    cases i₁ with
    | @lst b vals _ hb hbm hbi =>
      have ha : a < s₂.heap.objs.size := isList_lt hl
      have hbl : b < s₂.heap.objs.size := isList_lt hb
      have hu := R₂.units
      refine fk_bad s₂.heap.objs.size (s₂.heap.objs.size + 1) a b _ vals.toArray (by simp) (Nat.ne_of_lt (Nat.lt_succ_self _)) (Nat.ne_of_lt (Nat.lt_succ_of_lt hbl)) hh (by show X.A.in1.units < 9900; rw [Around.in1_units]; omega) ⟨_, Heap.get?_push_of_some _ (Heap.get?_push_size _ rfl), rfl⟩ ⟨_, by rw [← Heap.size_push s₂.heap emptyD]; exact Heap.get?_push_size _ rfl, rfl, rfl⟩ ((hl.push _).push _) ((hb.push _).push _) fun h₁ h' tk e hs₁ x hge => ?_
      have hold : ∀ b o, s₂.heap.get? b = some o → h₁.get? b = some o := fun b o q => by
        have hb := Heap.lt_size q
        exact (hs₁.2 b (Nat.ne_of_lt (Nat.lt_succ_of_lt hb))).trans (Heap.get?_push_of_some _ (Heap.get?_push_of_some _ q))
      have hge' : s₂.heap.objs.size ≤ e := by
        have : ((s₂.heap.push emptyD).push { cls := .type "list_iterator", data := .fields #[.ref a, .int 0 0] }).objs.size ≤ e := hge
        rw [Heap.size_push, Heap.size_push] at this
        omega
      have x' : Heap.NewExc s₂.heap h' e "TypeError" := ⟨fun b o q => x.keeps b o (hold b o q), Heap.get?_none_of_le hge', x.there⟩
      have z := R₂.newExc (tk := tk) x' hge'
      exact hQ e _ _ z.1 (L₂.trans z.2.1) (z.2.2.base fun _ q => L₂.none q) (hK _)
end
end Mine
end
section
open PySem PySem.W PyProof.Rows PySem.Spec PySem.Calls
set_option maxRecDepth 100000
namespace Mine
theorem binds_load {s : Shared} {fd : FuncData} {args : Args} {binds : List (Str × Value)} {a : Addr} {o : Obj} (ho : s.heap.get? a = some o)
    (h : ∃ part k, bindArgs fd args = Sem.load a part k ∧ k o = pure binds) : BindsTo s fd args binds := fun M A E Q hq => by
  obtain ⟨part, k, h₁, h₂⟩ := h
  rw [h₁]
  show wpAny M A (loadPart a part >>= k) Q E s
  refine wpAny_bind (wpAny_loadPart ho ?_)
  rw [h₂]
  exact wpAny_pure hq
section
variable {X : Act} {σ : St} {s : Shared} {K : V → St → Prop}
/-- a call of a function of the text with keyword names, one without cells -/
theorem O_callX {f : Addr} {o : Obj} {fd : FuncData} {body : List Stmt} {as : List V} (ps : List Str) (kw : List (Str × Value)) (xs : List V) (xv : List Value) (hx : ∀ h mu, VAll h mu xs xv) (h : ∀ (Y : Act) (L : Addr), InCall X Y fd → Y.prog = X.prog → Ex Y (execs body Y.env) ⟨(ps.zip (as ++ xs)).reverse, [], [L], []⟩ fun fl σ' => ∃ r, Frz σ'.own (flV fl) r ∧ K r σ)
    (hl : 1 ≤ X.lvl) (ho : (heapK X.w.params).lookup f = some o) (hdata : o.data = .func fd) (hcd : codeIn (heapK X.w.params) fd.code fd.qualname = true) (hbody : fd.body = .stmts body)
    (hbind : ∀ (vals : List Value) (s : Shared), vals.length = as.length → (∀ b o, (heapK X.w.params).lookup b = some o → s.heap.get? b = some o) → BindsTo s fd ⟨vals, kw⟩ (ps.zip (vals ++ xv))) (hnc : ∀ x ∈ fd.scope.names, x.2 ≠ .cell ∧ x.2 ≠ .free) (hloc : ∀ x ∈ ps, fd.scope.names.lookup x = some .local)
    (hclo : fd.closure = []) (hg : fd.globals = mainGlobals) (hb : fd.builtins = builtinsNs) (hco : fd.scope.isCoroutine = false) (hgen : fd.scope.isGenerator = false) (hk : fd.scope.kind = .function) : OpN X (fun vals => call (.ref f) vals kw) as σ K := by
  intro s vals Q E R i hQ
  obtain ⟨p, loose, mean, mg, mb, T'⟩ := R.ok.top
  have T := topRead_of T'
  have room : X.A.depth < recursionLimit := by have := R.ok.room.1; show _ < 1000; omega
  have hcells : (callEnv fd s.heap.objs.size f).cells = [] := by show fd.closure = []; exact hclo
  have hnc' : ∀ x, (callEnv fd s.heap.objs.size f).kindOf x ≠ some .cell ∧ (callEnv fd s.heap.objs.size f).kindOf x ≠ some .free := fun x => ⟨fun q => (hnc _ (mem_of_lookup q)).1 rfl, fun q => (hnc _ (mem_of_lookup q)).2 rfl⟩
  refine wpAny_call (codeAny_call_def (body := body) (binds := ps.zip (vals ++ xv)) room (R.base _ _ (R.ok.kin _ _ ho)) hdata (T.nolimit.keeps R.base) (codeRec_of (R.ok.kin.keeps R.base) hcd) hbody (hbind vals s i.length fun b o e => R.base _ _ (R.ok.kin _ _ e)) (fun x hx => (hnc x hx).1)
    (fun x hx => hloc _ (List.of_mem_zip hx).1) (fun h₀ hns hk₀ => ?_) hco hgen hk)
  have R' := R.enter (env := callEnv fd s.heap.objs.size f) (tk := s.toks + (ps.zip (vals ++ xv)).length) (loc := (ps.zip (as ++ xs)).reverse) hns hk₀ rfl hcells hk hg hb hnc' hl (zip_lookup (i.append (hx _ _)))
  refine wpAny_mono (h (X.callee σ s (callEnv fd s.heap.objs.size f)) s.heap.objs.size ⟨rfl, rfl, rfl, rfl, rfl, rfl, rfl, rfl, rfl, fun F => F.callee R rfl⟩ rfl _ (fun f s' => Q (flVal f) s') (fun e s' => wpAny (model X.prog X.w) (X.A.deeper (callEnv fd s.heap.objs.size f)) (leaving (callEnv fd s.heap.objs.size f) e) (fun _ s'' => E e s'') (fun e' s'' => E e' s'') s') R' fun fl' fl σ' s' R₁ L₁ i₁ h₁ => ?_) (fun fl s' hq => by cases fl <;> exact hq) fun _ _ z => z
  obtain ⟨r, fr, hK⟩ := h₁
  have z := R.growP (s' := s') R₁.sh (fun b o h1 h2 h3 e => R₁.keep b o (fun q => q.elim h1 fun q => (List.mem_cons.mp q).elim h2 h3) e) (fun b hb o e => R₁.frs b (List.mem_cons.mpr hb) o e) (let z := R₁.tab.later (fun _ e => e) (fun _ _ _ e => e) fun b hb => .inl (off_mu₀ hb); ⟨z.tab, z.hd⟩)
  exact hQ _ _ _ _ z.1 z.2 (fr.vin R₁ i₁.val) hK
theorem Rz_callX {f : Addr} {o : Obj} {fd : FuncData} {body : List Stmt} {as : List V} {cls : String} {K : St → Prop} (ps : List Str) (kw : List (Str × Value)) (xs : List V) (xv : List Value) (hx : ∀ h mu, VAll h mu xs xv) (h : ∀ (Y : Act) (L : Addr), InCall X Y fd → ∃ fl, (fl = none ∨ fl = some .none ∨ fl = some (rawInt Y.env.locals)) ∧ Rz Y (execs body Y.env) ⟨(ps.zip (as ++ xs)).reverse, [], [L], []⟩ cls fl fun _ => True) (F : Framed X)
    (hK : ∀ av, K { σ with av := av })
    (hl : 1 ≤ X.lvl) (ho : (heapK X.w.params).lookup f = some o) (hdata : o.data = .func fd) (hcd : codeIn (heapK X.w.params) fd.code fd.qualname = true) (hbody : fd.body = .stmts body)
    (hbind : ∀ (vals : List Value) (s : Shared), vals.length = as.length → (∀ b o, (heapK X.w.params).lookup b = some o → s.heap.get? b = some o) → BindsTo s fd ⟨vals, kw⟩ (ps.zip (vals ++ xv))) (hnc : ∀ x ∈ fd.scope.names, x.2 ≠ .cell ∧ x.2 ≠ .free) (hloc : ∀ x ∈ ps, fd.scope.names.lookup x = some .local)
    (hclo : fd.closure = []) (hg : fd.globals = mainGlobals) (hb : fd.builtins = builtinsNs) (hco : fd.scope.isCoroutine = false) (hgen : fd.scope.isGenerator = false) (hk : fd.scope.kind = .function) : RzN X (fun vals => call (.ref f) vals kw) as σ cls (some .none) K := by
  intro s vals Q E R i hQ
  obtain ⟨p, loose, mean, mg, mb, T'⟩ := R.ok.top
  have T := topRead_of T'
  have room : X.A.depth < recursionLimit := by have := R.ok.room.1; show _ < 1000; omega
  have hcells : (callEnv fd s.heap.objs.size f).cells = [] := by show fd.closure = []; exact hclo
  have hnc' : ∀ x, (callEnv fd s.heap.objs.size f).kindOf x ≠ some .cell ∧ (callEnv fd s.heap.objs.size f).kindOf x ≠ some .free := fun x => ⟨fun q => (hnc _ (mem_of_lookup q)).1 rfl, fun q => (hnc _ (mem_of_lookup q)).2 rfl⟩
  refine wpAny_call (codeAny_call_def (body := body) (binds := ps.zip (vals ++ xv)) room (R.base _ _ (R.ok.kin _ _ ho)) hdata (T.nolimit.keeps R.base) (codeRec_of (R.ok.kin.keeps R.base) hcd) hbody (hbind vals s i.length fun b o e => R.base _ _ (R.ok.kin _ _ e)) (fun x hx => (hnc x hx).1)
    (fun x hx => hloc _ (List.of_mem_zip hx).1) (fun h₀ hns hk₀ => ?_) hco hgen hk)
  have R' := R.enter (env := callEnv fd s.heap.objs.size f) (tk := s.toks + (ps.zip (vals ++ xv)).length) (loc := (ps.zip (as ++ xs)).reverse) hns hk₀ rfl hcells hk hg hb hnc' hl (zip_lookup (i.append (hx _ _)))
  have F' : Framed (X.callee σ s (callEnv fd s.heap.objs.size f)) := F.callee R rfl
  obtain ⟨fl, hfl, h⟩ := h (X.callee σ s (callEnv fd s.heap.objs.size f)) s.heap.objs.size ⟨rfl, rfl, rfl, rfl, rfl, rfl, rfl, rfl, rfl, fun F => F.callee R rfl⟩
  refine wpAny_mono (h _ (fun _ _ => False) (fun e s' => wpAny (model X.prog X.w) (X.A.deeper (callEnv fd s.heap.objs.size f)) (leaving (callEnv fd s.heap.objs.size f) e) (fun _ s'' => E e s'') (fun e' s'' => E e' s'') s') R' fun e σ' s' R₁ L₁ x₁ _ => ?_) (fun _ _ z => z.elim) fun _ _ z => z
  unfold leaving
  refine wpAny_bind (note_frame F' R₁ L₁ x₁ hfl fun av s₂ R₂ L₂ x₂ => ?_)
  refine set_flight R₂ L₂ x₂ none fun s₃ R₃ L₃ x₃ => ?_
  obtain ⟨ob, vs, he, hc, hd, h2, hav, hn0, T₁, oT, ts, h1, hTav, hTe, hT0, hT, hdT, h3⟩ := x₃
  have ave := R₃.avn e hav
  have avT := R₃.avn T₁ hTav
  have hbs : ∀ b ∈ [T₁, e], s.heap.objs.size ≤ b ∧ Alive s₃.heap b := fun b hb => by
    rcases List.mem_cons.mp hb with rfl | hb
    · exact ⟨avT.1, avT.2.1⟩
    · obtain rfl := List.mem_singleton.mp hb
      exact ⟨ave.1, ave.2.1⟩
  have z := R.growPA (s' := s₃) [T₁, e] hbs R₃.sh (fun b o h1 h2 h3 e => R₃.keep b o (fun q => q.elim h1 fun q => (List.mem_cons.mp q).elim h2 h3) e) (fun b hb o e => R₃.frs b (List.mem_cons.mpr hb) o e) (let z := R₃.tab.later (mu' := off X { σ with av := [T₁, e] ++ σ.av }) (fun _ e => e) (fun _ _ _ e => e) fun b hb => .inl (by
    rcases List.mem_append.mp hb with hb | hb
    · exact off_mu₀ (List.mem_append_left _ hb)
    · rcases List.mem_append.mp hb with hb | hb
      · rcases List.mem_append.mp hb with hb | hb
        · rcases List.mem_cons.mp hb with rfl | hb
          · exact off_av hTav
          · obtain rfl := List.mem_singleton.mp hb
            exact off_av hav
        · exact off_mu₀ (List.mem_append_right _ (List.mem_append_left _ hb))
      · exact off_mu₀ (List.mem_append_right _ (List.mem_append_right _ hb))); ⟨z.tab, z.hd⟩)
  exact hQ e _ _ z.1 z.2 ⟨ob, vs, he, hc, hd, h2, List.mem_append_left _ (by simp), Heap.get?_none_of_le ave.1, T₁, oT, ts, h1, List.mem_append_left _ (by simp), hTe, Heap.get?_none_of_le avT.1, hT, hdT, h3⟩ (hK _)
/-- a call with one name and a constant -/
theorem Ev_callK {func e ve : Expr} {name : Str} {val : Value} {rest : List Expr} {kp pos : Pos} (f : Addr)
    (h : Ev X (eval func X.env) σ fun v σ₁ => v = .any (.ref f) ∧ Evs X (spliced (backTo pos (starEach (e :: rest) X.env))) σ₁ fun vs σ₂ => OpN X (fun vals => call (.ref f) vals [(name, val)]) vs σ₂ K)
    (hv : eval ve X.env = pure val) (ho : keepIn (heapK X.w.params) (.ref f) = true)
    (he : starEach (e :: rest) X.env = (false, eval e X.env) :: starEach rest X.env)
    (hplain : ((backTo pos (starEach (e :: rest) X.env)).any (·.1) || (backToKw pos (keywordEach [⟨some name, ve, kp⟩] X.env)).any (·.1.isNone)) = false)
    (hall : backToKw pos (keywordEach [⟨some name, ve, kp⟩] X.env) = [(some name, do let v ← eval ve X.env; standAt pos; pure v)])
    (hc : eval (.Call func (e :: rest) [⟨some name, ve, kp⟩] pos) X.env = (do callWith pos (← eval func X.env) [] (backTo pos (starEach (e :: rest) X.env)) (backToKw pos (keywordEach [⟨some name, ve, kp⟩] X.env)))) : Ev X (eval (.Call func (e :: rest) [⟨some name, ve, kp⟩] pos) X.env) σ K := by
  intro s Q E R hQ
  rw [hc]
  refine wpAny_bind (h s _ _ R fun val v σ₁ s₁ R₁ L₁ i₁ h₁ => ?_)
  obtain ⟨rfl, h₁⟩ := h₁
  cases i₁
  refine callWith_KW (K := heapK X.w.params) (R₁.ok.kin.keeps R₁.base) ho (by rw [hall]; rfl) ?_ hplain he
  refine h₁ s₁ _ _ R₁ fun vals vs σ₂ s₂ R₂ L₂ i₂ h₂ => ?_
  rw [hall]
  show wpAny _ _ (evalAll [do let v ← eval ve X.env; standAt pos; pure v]) _ _ _
  refine wpAny_evalAll_cons ?_
  rw [hv]
  refine wpAny_bind (wpAny_pure (wpAny_bind (wpAny_standAt (wpAny_pure (wpAny_evalAll_nil ⟨R₂.ok.kin.keeps R₂.base, ?_⟩)))))
  exact h₂ s₂ vals _ _ R₂ i₂ fun val v σ' s' R' L' i' k => hQ val v σ' s' R' ((L₁.trans L₂).trans L') i' k
end
end Mine
end
section
open PySem PySem.W PyProof.Rows PySem.Spec PySem.Calls
namespace Mine
theorem sub_TE : isSubtype (.type "TypeError") (.type "TypeError") = pure true := by rw [isSubtype_type]; kernel_rfl
theorem exc_TE : isSubtype (.type "TypeError") (.type "BaseException") = pure true := by rw [isSubtype_type]; kernel_rfl
theorem nt_TE : isSubtype (.type ((Manifest.find? "TypeError").elim "type" fun x => x.metatype)) (.type "tuple") = pure false := by rw [isSubtype_type]; kernel_rfl
section
variable {X : Act} {σ : St} {K : V → St → Prop}
set_option maxRecDepth 20000 in
set_option maxHeartbeats 4000000 in
theorem T_keys (l : List (_root_.Fin 6)) (hz : l.length ≤ 1000) (hh : X.A.handled = none) (hl : 1 ≤ X.lvl) (h : K (.dict X.prog X.w ((dd [] l).map ko)) σ) : OpN X (fun vals => call (.ref 39) vals) [.lst (l.map kp.v)] σ K := by
  refine O_callX (f := 39) [Str.ofString "params", Str.ofString "unhashable_fallback"] [] [.bool false] [.bool false] (fun _ _ => .cons (.bool _) .nil) (fun Y L hc hp => ?_) hl rfl rfl (by kernel_rfl) rfl (fun vals s e hb => ?_) (by decide +kernel) (by decide +kernel) rfl rfl rfl rfl rfl rfl
  · have hsc := hc.sc
    conv at hsc => rhs; whnf
    conv in bodyOf _ => whnf
    have hhY : Y.A.handled = none := hc.hd.trans hh
    change Ex Y _ ⟨(Str.ofString "unhashable_fallback", _) :: (Str.ofString "params", _) :: [], _, _, _⟩ _
    refine Ex_cons (Ex_try (Ex_cons (Ex_return (Ev_fromkeys hhY (Ev_builtin ⟨rfl, Ev_nameL ⟨l, rfl, hz, ?_⟩⟩)))))
    refine seqK_ret (seqK_ret ⟨_, .same _, ?_⟩)
    rw [hp, hc.w]
    exact h
  · match vals, e with
    | [v], _ =>
      refine binds_load (hb 32 _ rfl) ?_
      refine ⟨_, _, Eq.refl _, ?_⟩
      exact rfl
variable {α : Type} [DecidableEq α] (k : Kd α)
set_option maxRecDepth 20000 in
set_option maxHeartbeats 4000000 in
theorem T_fall (hn : k.n ≤ 50) (x : List α) (l : List (List α)) (hz : (x :: l).length ≤ 1000) (F : Framed X) (hh : X.A.handled = none) (hl : 2 ≤ X.lvl) (h : K (.lst ((dd [] (x :: l)).map k.list.v)) σ) : OpN X (fun vals => call (.ref 39) vals [(Str.ofString "unhashable_fallback", .bool true)]) [.lst ((x :: l).map k.list.v)] σ K := by
  refine O_callX (f := 39) [Str.ofString "params", Str.ofString "unhashable_fallback"] _ [.bool true] [.bool true] (fun _ _ => .cons (.bool _) .nil) (fun Y L hc hp => ?_) (by omega) rfl rfl (by kernel_rfl) rfl (fun vals s e hb => ?_) (by decide +kernel) (by decide +kernel) rfl rfl rfl rfl rfl rfl
  · have hsc := hc.sc
    conv at hsc => rhs; whnf
    conv in bodyOf _ => whnf
    have hlv : 1 ≤ Y.lvl := by rw [hc.lvl]; omega
    have FY := hc.frm F
    have hhY : Y.A.handled = none := hc.hd.trans hh
    change Ex Y _ ⟨(Str.ofString "unhashable_fallback", _) :: (Str.ofString "params", _) :: [], _, _, _⟩ _
    refine Ex_cons (Ex_caught (T := "TypeError") FY hhY (Rz_first (Rz_return (Rz_fromkeys hhY (Ev_builtin ⟨rfl, Ev_nameL ⟨x.map k.v, l.map k.list.v, rfl, fun av e av' => ?_⟩⟩)))) (.inl rfl) exc_TE nt_TE sub_TE)
    refine Ex_cons (Ex_if (Tr_not (Tr_any rfl (Ev_nameL (B_bool ?_)))))
    show brK false _ _
    refine brK_f (Ex_nil (seqK_next ?_))
    refine Ex_cons (Ex_return (Ev_callF 46 (Ev_global ⟨rfl, Evs_cons (Ev_nameL (Evs_nil (T_dedup k.list (by show k.n + 1 ≤ 60; omega) (x :: l) hz hlv ?_)))⟩)))
    exact seqK_ret (seqK_ret ⟨_, .same _, h⟩)
  · match vals, e with
    | [v], _ => exact BindsTo.of_eq rfl
set_option maxRecDepth 20000 in
set_option maxHeartbeats 4000000 in
theorem T_refuse {ws vs : List V} {K : St → Prop} (F : Framed X) (hh : X.A.handled = none) (hl : 1 ≤ X.lvl) (hK : ∀ av, K { σ with av := av }) : RzN X (fun vals => call (.ref 39) vals) [.lst (.lst ws :: vs)] σ "TypeError" (some .none) K := by
  refine Rz_callX (f := 39) [Str.ofString "params", Str.ofString "unhashable_fallback"] [] [.bool false] [.bool false] (fun _ _ => .cons (.bool _) .nil) (fun Y L hc => ?_) F hK hl rfl rfl (by kernel_rfl) rfl (fun vals s e hb => ?_) (by decide +kernel) (by decide +kernel) rfl rfl rfl rfl rfl rfl
  · have hsc := hc.sc
    conv at hsc => rhs; whnf
    conv in bodyOf _ => whnf
    have FY := hc.frm F
    have hhY : Y.A.handled = none := hc.hd.trans hh
    change ∃ fl, _ ∧ Rz Y _ ⟨(Str.ofString "unhashable_fallback", _) :: (Str.ofString "params", _) :: [], _, _, _⟩ _ _ _
    refine ⟨_, .inr (.inr rfl), Rz_first (Rz_again (T := "TypeError") FY (Rz_first (Rz_return (Rz_fromkeys hhY (Ev_builtin ⟨rfl, Ev_nameL ⟨ws, vs, rfl, fun av => ⟨lk_hit, fun _ => trivial⟩⟩⟩)))) (.inl rfl) (kd hsc (by rfl)) (by decide) exc_TE nt_TE sub_TE)⟩
  · match vals, e with
    | [v], _ =>
      refine binds_load (hb 32 _ rfl) ?_
      refine ⟨_, _, Eq.refl _, ?_⟩
      exact rfl
set_option maxRecDepth 20000 in
set_option maxHeartbeats 4000000 in
theorem T_refused {ws vs : List V} (F : Framed X) (hh : X.A.handled = none) (hl : 2 ≤ X.lvl) (h : K (.bool true) σ) : OpN X (fun vals => call (.ref 115) vals) [.lst (.lst ws :: vs)] σ K := by
  refine O_call (f := 115) [Str.ofString "rows"] (fun Y L hc => ?_) (by omega) rfl rfl rfl (by kernel_rfl) rfl (fun vals e => ?_) (by decide +kernel) (by decide +kernel) rfl rfl rfl rfl rfl rfl
  · have hsc := hc.sc
    conv at hsc => rhs; whnf
    conv in bodyOf _ => whnf
    have hlv : 1 ≤ Y.lvl := by rw [hc.lvl]; omega
    have FY := hc.frm F
    have hhY : Y.A.handled = none := hc.hd.trans hh
    change Ex Y _ ⟨(Str.ofString "rows", _) :: [], _, _, _⟩ _
    refine Ex_cons (Ex_caught (T := "TypeError") FY hhY (Rz_first (Rz_expr (Rz_callF 39 (Ev_global ⟨rfl, Evs_cons (Ev_nameL (Evs_nil (T_refuse FY hhY hlv fun av e av' => ?_)))⟩)))) (.inr (.inl rfl)) exc_TE nt_TE sub_TE)
    exact Ex_cons (Ex_return (Ev_bool (seqK_ret (seqK_ret ⟨_, .same _, h⟩))))
  · match vals, e with
    | [a], _ => rfl
end
end Mine
end
section
open PySem PySem.W PyProof.Rows PySem.Spec PySem.Calls
set_option maxRecDepth 20000
namespace Mine
def ov : Option Str → V
  | none => .none
  | some x => .str x
theorem isOS_vin {h : Heap} {mu : List Addr} {k : Option Str} {val : Value} (i : isOS k val = true) : VIn h mu (ov k) val := by
  rcases isOS_shape i with ⟨rfl, rfl⟩ | ⟨x, t, rfl, rfl⟩
  · exact .none
  · exact .str _ _
theorem ov_ko (x : _root_.Fin 6) : ov (ko x) = kp.v x := by
  show _ = if x = 0 then V.none else V.str (pst x)
  unfold ko
  split <;> rfl
theorem VAll.of_get {h : Heap} {mu : List Addr} : ∀ {vs : List V} {vals : List Value}, vals.length = vs.length → (∀ (i : Nat) (v : V) (val : Value), vs[i]? = some v → vals[i]? = some val → VIn h mu v val) → VAll h mu vs vals
  | [], [], _, _ => .nil
  | v :: vs, val :: vals, hl, hi => .cons (hi 0 v val rfl rfl) (VAll.of_get (by simpa using hl) fun i u w e1 e2 => hi (i + 1) u w (by simpa using e1) (by simpa using e2))
  | [], _ :: _, hl, _ => by simp at hl
  | _ :: _, [], hl, _ => by simp at hl
section
variable {X : Act} {σ : St} {K : V → St → Prop} {KF : Fl → St → Prop} {KB : Bool → St → Prop}
theorem O_isDict {p : Program} {w : World} {ks : List (Option Str)} (h : K (.bool true) σ) : OpN X (fun vals => call (.builtin "isinstance") vals) [.dict p w ks, .any (.type "dict")] σ K := by
  intro s vals Q E R i hQ
  obtain ⟨a, rfl, hd⟩ : ∃ a, vals = [.ref a, .type "dict"] ∧ s.heap.DictOf (osKind p w) a (ks.map fun k => (k, Value.none)) := by
    cases i with
    | cons i r =>
      cases r with
      | cons j r =>
        cases r
        cases j
        cases i with
        | dict hd _ _ => exact ⟨_, rfl, hd⟩
  exact call_isinstance_yes (Tx := "dict") hd.typeIs (by first | rfl | kernel_rfl) sub_dd (hQ _ _ _ _ R (.refl R) (.bool true) h)
/-- list(d): its keys -/
theorem O_listD {ks : List (Option Str)} (hh : X.A.handled = none) (hz : ks.length ≤ 1000) (h : K (.lst (ks.map ov)) σ) : OpN X (fun vals => call (.type "list") vals) [.dict X.prog X.w ks] σ K := by
  intro s vals Q E R i hQ
  obtain ⟨a, rfl, hd, lo⟩ : ∃ a, vals = [.ref a] ∧ s.heap.DictOf (osKind X.prog X.w) a (ks.map fun k => (k, Value.none)) ∧ (a == sysModules) = false := by
    cases i with
    | cons i r =>
      cases r
      cases i with
      | dict hd lo _ => exact ⟨_, rfl, hd, lo⟩
  obtain ⟨ep, hat⟩ := hd.dictAt
  refine kdl_call (kdl_dict (knd := osKind X.prog X.w) (kvs := ks.map fun k => (k, Value.none)) (ep := ep) lo) hh hat ?_ fun h' tk acc' c' hk hs hacc => ?_
  · rw [List.length_map]; exact Nat.le_trans hz (by decide)
  have z := R.grow (tk := tk) (h' := h') hk
  refine hQ _ _ _ _ z.1 z.2 (.lst (vals := acc'.toList) ⟨_, hs, rfl, c', by simp⟩ (R.fresh (Nat.le_refl _)) (VAll.of_get ?_ fun i v val e1 e2 => ?_)) h
  · rw [Array.length_toList, hacc.1]; simp
  · rw [Array.getElem?_toList] at e2
    obtain ⟨k, x, e3, e4⟩ := hacc.2 i val e2
    obtain ⟨k', hk', rfl⟩ := map_get e1
    rw [List.getElem?_map, hk'] at e3
    cases e3
    exact isOS_vin e4
/-- x[::-1] -/
theorem Ev_revL {value st : Expr} {p pos : Pos} (h : Ev X (eval value X.env) σ fun o σ₁ => Ev X (eval st X.env) σ₁ fun i σ₂ => i = .int (-1) ∧ ∃ vs, Its σ₂ o vs ∧ vs.length ≤ sizeLine ∧ K (.lst vs.reverse) σ₂)
    (ht : ∀ o r, letTemporaryGo value o r = pure () := by intro _ _; rfl) : Ev X (eval (.Subscript value (.Slice none none (some st) p) pos) X.env) σ K := by
  intro s Q E R hQ
  refine wpAny_Subscript_Slice_step (T := "list") slot_list_getitem.lookup (h s _ _ R fun vo o σ₁ s₁ R₁ L₁ i₁ h₁ => wpAny_Slice (evalPart_none_step (evalPart_none_step (evalPart_some_step (h₁ s₁ _ _ R₁ fun vi i σ₂ s₂ R₂ L₂ i₂ h₂ => ?_))))) ht
  obtain ⟨rfl, vs, I, hz, h₂⟩ := h₂
  cases i₂ with
  | int _ t =>
  have i₃ := L₂.vin R₁ i₁
  obtain ⟨a, vals, rfl, hl, il⟩ := I.get R₂ i₃
  have z := R₂.push (tk := s₂.toks) { cls := .type "slice", data := .fields #[.none, .none, .int (-1) t] }
  refine ⟨(hl.push _).typeIs, ?_⟩
  refine wpAny_getItem_list_slice (s := { s₂ with heap := s₂.heap.push { cls := .type "slice", data := .fields #[.none, .none, .int (-1) t] } }) (hl.push _) (Heap.IsSliceOf.new _ _ _ _) .none .none (.int (-1) t) (by simp) ?_ (by rw [List.size_toArray, il.length]; exact hz)
  have z₂ := z.1.push (tk := s₂.toks) { cls := .type "list", data := .seq (slicePick vals.toArray none none (some (-1))) 0 }
  refine hQ _ _ _ _ z₂.1 (((L₁.trans L₂).trans z.2).trans z₂.2) (.lst (vals := vals.reverse) ⟨_, Heap.get?_push_size _ rfl, rfl, 0, ?_⟩ (z.1.fresh (Nat.le_refl _)) (Later.vall z.1 z₂.2 (Later.vall R₂ z.2 ?_))) h₂
  · rw [krv_pick]
  · refine VAll.of_get (by simp [il.length]) fun i v val e1 e2 => ?_
    have hlen := il.length
    by_cases hi : i < vs.length
    · rw [List.getElem?_reverse hi] at e1
      rw [List.getElem?_reverse (by omega), hlen] at e2
      obtain ⟨val', e3, e4⟩ := il.get e1
      rw [e3] at e2; cases e2
      exact e4
    · rw [List.getElem?_eq_none (by simpa using hi)] at e1; cases e1
/-- x, y = a, b for a name and a cell's name -/
theorem Ex_assignTC {x y : Str} {px py : Pos} {k : Nat} {tpos pos : Pos} {value : Expr} (hh : X.A.handled = none) (hmine : X.mine = true)
    (h : Ev X (eval value X.env) σ fun v σ₁ => ∃ a b u, v = .tup [a, b] ∧ List.lookup y ((x, a) :: σ₁.loc) = some u ∧ KF .next { σ₁ with loc := (y, b) :: (x, a) :: σ₁.loc })
    (hw : swappedStores [.Tuple [.Name x px, .Name y py] k tpos] value X.env = pure none := by exact (sw (by assumption)).trans (by rfl))
    (hx : X.env.kindOf x = some .local := by exact kd (by assumption) (by rfl)) (hy : X.env.kindOf y = some .cell := by exact kd (by assumption) (by rfl))
    (hs : swapsWithSole [.Tuple [.Name x px, .Name y py] k tpos] value pos.line X.env = pure false := by rfl) : Ex X (exec (.Assign [.Tuple [.Name x px, .Name y py] k tpos] value pos) X.env) σ KF := by
  intro s Q E R hQ
  refine Assign_Tuple (h s _ _ R fun val v σ₁ s₁ R₁ L₁ i₁ h₁ => ?_) hs hw
  obtain ⟨a, b, u, rfl, hu, h₁⟩ := h₁
  cases i₁ with
  | tup ht _ il =>
    cases il with
    | @cons _ va _ _ ia r =>
      cases r with
      | @cons _ vb _ _ ib r =>
        cases r
        refine wpAny_assign_Tuple hh ht rfl rfl fun h' he => ?_
        have z := R₁.ext he
        show wpAny _ _ (do holding [vb] (assign (.Name x px) X.env va); assignInOrder [assign (.Name y py) X.env] [vb]) _ _ _
        refine wpAny_bind (wpAny_holding (wpAny_assign_Name (Un_storeL z.1 hx (z.2.vin R₁ ia) fun s₂ R₂ L₂ => ?_)))
        show wpAny _ _ (do holding [] (assign (.Name y py) X.env vb); assignInOrder [] []) _ _ _
        refine wpAny_bind (wpAny_holding (wpAny_assign_Name (Un_storeC R₂ hmine hy hu (L₂.vin z.1 (z.2.vin R₁ ib)) fun s₃ R₃ L₃ => ?_)))
        exact wpAny_pure (hQ _ _ _ _ R₃ (((L₁.trans z.2).trans L₂).trans L₃) .next h₁)
end
end Mine
end
section
open PySem PySem.W PyProof.Rows PySem.Spec PySem.Calls
namespace Mine
section
variable {α : Type} [DecidableEq α]
theorem mem_dd (x : α) : ∀ (l acc : List α), x ∈ dd acc l ↔ x ∈ acc ∨ x ∈ l
  | [], acc => by simp [dd]
  | y :: l, acc => by
    rw [dd, mem_dd x l]
    split
    · rename_i h
      constructor
      · rintro (h1 | h1)
        · exact .inl h1
        · exact .inr (List.mem_cons_of_mem _ h1)
      · rintro (h1 | h1)
        · exact .inl h1
        · rcases List.mem_cons.mp h1 with rfl | h1
          · exact .inl h
          · exact .inr h1
    · simp [or_assoc]
theorem nodup_dd : ∀ (l acc : List α), acc.Nodup → (dd acc l).Nodup
  | [], _, h => h
  | y :: l, acc, h => by
    rw [dd]
    split
    · exact nodup_dd l _ h
    · rename_i hy
      refine nodup_dd l _ (List.nodup_append.mpr ⟨h, by simp, fun a ha b hb q => hy ?_⟩)
      rw [← List.mem_singleton.mp hb, ← q]; exact ha
/-- the item at i, if none ahead of it is like it -/
def firstAt (l : List α) (i : Nat) : Option α := match l[i]? with
  | none => none
  | some x => if x ∈ l.take i then none else some x
theorem firstAt_dd (l : List α) : (List.range l.length).filterMap (firstAt l) = dd [] l := by
  have h : ∀ n, n ≤ l.length → (List.range n).filterMap (firstAt l) = dd [] (l.take n) := by
    intro n
    induction n with
    | zero => intro _; simp [dd]
    | succ n ih =>
      intro hn
      have hx : l[n]? = some l[n] := List.getElem?_eq_getElem hn
      rw [List.range_succ, List.filterMap_append, ih (Nat.le_of_lt hn), take_next hx, dd_app]
      have hm : l[n] ∈ dd [] (l.take n) ↔ l[n] ∈ l.take n := by rw [mem_dd]; simp
      simp only [List.filterMap_cons, List.filterMap_nil, firstAt, hx]
      by_cases h : l[n] ∈ l.take n
      · rw [if_pos h, if_pos (hm.mpr h)]; simp
      · rw [if_neg h, if_neg (fun q => h (hm.mp q))]
  have := h l.length (Nat.le_refl _)
  rwa [List.take_length] at this
theorem takeOut_nodup : ∀ (l t : List α), l.Nodup → t.Nodup → takeOut l t = if ∀ x ∈ l, x ∈ t then some (t.filter fun y => decide (y ∉ l)) else none
  | [], t, _, _ => by
    rw [takeOut, if_pos (by simp)]
    congr 1
    exact (List.filter_eq_self.mpr (by simp)).symm
  | x :: l, t, hl, ht => by
    obtain ⟨hx, hl⟩ := List.nodup_cons.mp hl
    rw [takeOut]
    by_cases h : x ∈ t
    · rw [if_pos h, takeOut_nodup l _ hl (ht.erase x)]
      have e : ∀ y ∈ l, (y ∈ t.erase x ↔ y ∈ t) := fun y hy => List.mem_erase_of_ne fun q => hx (q ▸ hy)
      by_cases hall : ∀ y ∈ l, y ∈ t
      · rw [if_pos fun y hy => (e y hy).mpr (hall y hy), if_pos (by intro y hy; rcases List.mem_cons.mp hy with rfl | hy; exact h; exact hall y hy)]
        rw [ht.erase_eq_filter, List.filter_filter]
        congr 1
        refine List.filter_congr fun y _ => ?_
        by_cases h1 : y = x
        · subst h1; simp
        · by_cases h2 : y ∈ l <;> simp [h1, h2]
      · rw [if_neg fun q => hall fun y hy => (e y hy).mp (q y hy), if_neg fun q => hall fun y hy => q y (List.mem_cons_of_mem _ hy)]
    · rw [if_neg h, if_neg fun q => h (q x List.mem_cons_self)]
theorem alike_iff (l l' : List α) : alike l l' = true ↔ ∀ x, x ∈ l ↔ x ∈ l' := by
  have h1 : ∀ x, x ∈ dd [] l ↔ x ∈ l := fun x => by rw [mem_dd]; simp
  have h2 : ∀ x, x ∈ dd [] l' ↔ x ∈ l' := fun x => by rw [mem_dd]; simp
  unfold alike
  rw [takeOut_nodup _ _ (nodup_dd _ _ List.nodup_nil) (nodup_dd _ _ List.nodup_nil)]
  by_cases h : ∀ x ∈ dd [] l, x ∈ dd [] l'
  · rw [if_pos h]
    dsimp only
    rw [List.isEmpty_iff, List.filter_eq_nil_iff]
    constructor
    · intro q x
      refine ⟨fun hx => (h2 x).mp (h x ((h1 x).mpr hx)), fun hx => ?_⟩
      have := q x ((h2 x).mpr hx)
      exact (h1 x).mp (by simpa using this)
    · intro q x hx
      simpa using (h1 x).mpr ((q x).mpr ((h2 x).mp hx))
  · rw [if_neg h]
    dsimp only
    constructor
    · intro q; cases q
    · intro q
      exact absurd (fun x hx => (h2 x).mpr ((q x).mp ((h1 x).mp hx))) h
/-- what is in the one alone, and in the other alone -/
theorem alike_same (l l' : List α) : alike l l' = decide ((l.filter fun x => decide (x ∉ l')) ++ (l'.filter fun x => decide (x ∉ l)) = []) := by
  rw [Bool.eq_iff_iff, alike_iff, decide_eq_true_iff, List.append_eq_nil_iff, List.filter_eq_nil_iff, List.filter_eq_nil_iff]
  constructor
  · intro q
    exact ⟨fun x hx => by simpa using (q x).mp hx, fun x hx => by simpa using (q x).mpr hx⟩
  · rintro ⟨q1, q2⟩ x
    exact ⟨fun hx => by simpa using q1 x hx, fun hx => by simpa using q2 x hx⟩
theorem alike_without (l : List α) (k : Nat) (x : α) (h : l[k]? = some x) : alike l (l.take k ++ l.drop (k + 1)) = decide (x ∈ l.take k ++ l.drop (k + 1)) := by
  have hk : k < l.length := (List.getElem?_eq_some_iff.mp h).1
  have e : l = l.take k ++ x :: l.drop (k + 1) := by
    have e2 := List.take_append_drop k l
    rw [List.drop_eq_getElem_cons hk, (List.getElem?_eq_some_iff.mp h).2] at e2
    exact e2.symm
  rw [Bool.eq_iff_iff, alike_iff, decide_eq_true_iff]
  generalize l.take k = a at e
  generalize l.drop (k + 1) = b at e
  subst e
  constructor
  · intro q
    exact (q x).mp (List.mem_append_right _ List.mem_cons_self)
  · intro q y
    constructor
    · intro hy
      rcases List.mem_append.mp hy with hy | hy
      · exact List.mem_append_left _ hy
      · rcases List.mem_cons.mp hy with rfl | hy
        · exact q
        · exact List.mem_append_right _ hy
    · intro hy
      rcases List.mem_append.mp hy with hy | hy
      · exact List.mem_append_left _ hy
      · exact List.mem_append_right _ (List.mem_cons_of_mem _ hy)
theorem alike_rev (l : List α) : alike l l.reverse = true := (alike_iff _ _).mpr fun x => by simp
end
theorem pats_len (ns : List Int) : (pats ns).length ≤ ns.length + 1 ∧ ∀ p ∈ pats ns, p.length ≤ ns.length := by
  have h : ∀ (ns : List Int) (a : List (List (_root_.Fin 6)) × List (_root_.Fin 6)) (n : Nat), a.1.length ≤ n → (∀ p ∈ a.1, p.length ≤ n) → a.2.length ≤ n →
      (ns.foldl pstep a).1.length ≤ n + ns.length ∧ (∀ p ∈ (ns.foldl pstep a).1, p.length ≤ n + ns.length) ∧ (ns.foldl pstep a).2.length ≤ n + ns.length := by
    intro ns
    induction ns with
    | nil => intro a n h1 h2 h3; exact ⟨h1, h2, h3⟩
    | cons x ns ih =>
      intro a n h1 h2 h3
      have := ih (pstep a x) (n + 1) (by unfold pstep; split <;> simp <;> omega) (by
        unfold pstep
        split
        · intro p hp
          rcases List.mem_append.mp hp with hp | hp
          · exact Nat.le_succ_of_le (h2 p hp)
          · rw [List.mem_singleton.mp hp]; omega
        · intro p hp; exact Nat.le_succ_of_le (h2 p hp)) (by unfold pstep; split <;> simp <;> omega)
      rw [List.foldl_cons, List.length_cons, show n + (ns.length + 1) = n + 1 + ns.length by omega]
      exact this
  have := h ns ([], []) 0 (Nat.le_refl _) (fun p hp => nomatch hp) (Nat.le_refl _)
  unfold pats
  simp only [Nat.zero_add] at this
  refine ⟨by simp; omega, fun p hp => ?_⟩
  rcases List.mem_append.mp hp with hp | hp
  · exact this.2.1 p hp
  · rw [List.mem_singleton.mp hp]; exact this.2.2
theorem pats_cons (ns : List Int) : ∃ p ps, pats ns = p :: ps := by
  unfold pats
  dsimp only
  cases h : (ns.foldl pstep ([], [])).1 with
  | nil => exact ⟨_, [], rfl⟩
  | cons a b => exact ⟨a, b ++ [(ns.foldl pstep ([], [])).2], rfl⟩
end Mine
end
section
open PySem PySem.W PyProof.Rows PySem.Spec PySem.Calls
set_option maxRecDepth 20000
namespace Mine
section
variable {α : Type} [DecidableEq α] (k : Kd α) {X : Act}
theorem filt {β : Type} (f : β → V) (g : Nat → Option β) (l : List Nat) : ((l.map fun i => (g i).map f).filterMap id) = (l.filterMap g).map f := by
  rw [List.filterMap_map, List.map_filterMap]
  rfl
theorem filt2 (l m : List α) : ((l.map fun x => if x ∉ m then some (k.v x) else none).filterMap id) = (l.filter fun x => decide (x ∉ m)).map k.v := by
  rw [List.filterMap_map]
  induction l with
  | nil => rfl
  | cons x l ih =>
    simp only [List.filterMap_cons, Function.comp, id]
    by_cases h : x ∉ m
    · rw [if_pos h, List.filter_cons, if_pos (by simpa using h), List.map_cons]
      exact congrArg (k.v x :: ·) ih
    · rw [if_neg h, List.filter_cons, if_neg (by simpa using h)]
      exact ih
theorem turns_firsts (hn : k.n ≤ 60) {scope : Scope} {rn : Str} (l : List α) (hl : l.length ≤ 1000) {p1 p2 p3 p4 p5 p6 p7 p8 p9 p10 p11 : Pos}
    (hY : ∀ Y, InComp X Y scope → Y.env.kindOf rn = some .cell ∧ Y.env.kindOf (Str.ofString "k") = some .local) (hr : (rn == ("__debug__" : Str)) = false) :
    Turns X scope (Str.ofString "k") [.Compare (.Subscript (.Name rn p1) (.Name (Str.ofString "k") p2) p3) [.NotIn] [.Subscript (.Name rn p4) (.Slice none (some (.Name (Str.ofString "k") p5)) none p6) p7] p8]
      (.Subscript (.Name rn p9) (.Name (Str.ofString "k") p10) p11) ((List.range l.length).map fun (i : Nat) => V.int i) [(rn, .lst (l.map k.v))] ((List.range l.length).map fun i => (firstAt l i).map k.v) := by
  intro Y hi i u σY hu hlu hfv
  obtain ⟨j, hj, rfl⟩ := map_get hu
  obtain ⟨hj3, hj4⟩ := List.getElem?_eq_some_iff.mp hj
  rw [List.length_range] at hj3
  rw [List.getElem_range] at hj4
  subst hj4
  obtain ⟨hkc, hkl⟩ := hY Y hi
  have hps := hfv rn _ lk_hit
  obtain ⟨x, hx⟩ : ∃ x, l[i]? = some x := ⟨_, List.getElem?_eq_getElem hj3⟩
  have hxm : (l.map k.v)[((i : Nat) : Int).toNat]? = some (k.v x) := by rw [List.getElem?_map, Int.toNat_natCast, hx]; rfl
  have hout : ((List.range l.length).map (fun i => (firstAt l i).map k.v))[i]? = some ((firstAt l i).map k.v) := by
    rw [List.getElem?_map, List.getElem?_range hj3]; rfl
  have hdep := k.dep x
  refine Fs_one (Tr_cmp (Ev_sub (Ev_nameC (hd := hr) (Ev_nameL (O_itemL (.lst _) ?_ ?_ hxm (Ev_sliceL (Ev_nameC (hd := hr) (EvP_none (EvP_some (Ev_nameL ⟨_, rfl, _, .lst _, ?_, ?_⟩)))) ?_))))))
  · omega
  · omega
  · rw [List.length_map]; exact Nat.le_trans hl (by decide)
  · rw [pick_upto, ← List.map_take]
    refine O_notInD (k.dat x) (.lst _) (k.datAll _) (k.layAll _) (k.lay x) (by omega) (B_bool ⟨rfl, ?_⟩)
    rw [k.any, hout]
    by_cases h : x ∈ l.take i
    · rw [if_neg (by simpa using h)]
      simp [firstAt, hx, h]
    · rw [if_pos (by simpa using h)]
      refine Ev_sub (Ev_nameC (hd := hr) (Ev_nameL (O_itemL (.lst _) ?_ ?_ hxm ⟨rfl, ?_⟩)))
      · omega
      · omega
      · simp [firstAt, hx, h]
  · intro _ _; rfl
theorem turns_notin (hn : k.n ≤ 60) {scope : Scope} {B : Str} (l m : List α) {p1 p2 p3 p4 : Pos}
    (hY : ∀ Y, InComp X Y scope → Y.env.kindOf B = some .cell ∧ Y.env.kindOf (Str.ofString "one") = some .local) (hr : (B == ("__debug__" : Str)) = false) :
    Turns X scope (Str.ofString "one") [.Compare (.Name (Str.ofString "one") p1) [.NotIn] [.Name B p2] p3] (.Name (Str.ofString "one") p4) (l.map k.v) [(B, .lst (m.map k.v))] (l.map fun x => if x ∉ m then some (k.v x) else none) := by
  intro Y hi i u σY hu hlu hfv
  obtain ⟨x, hx, rfl⟩ := map_get hu
  obtain ⟨hkc, hkl⟩ := hY Y hi
  have hps := hfv B _ lk_hit
  have hne := (k.dat x).ne
  have hdep := k.dep x
  have hout : (l.map fun x => if x ∉ m then some (k.v x) else none)[i]? = some (if x ∉ m then some (k.v x) else none) := by
    rw [List.getElem?_map, hx]; rfl
  refine Fs_one (Tr_cmp (Ev_nameL (Ev_nameC (hd := hr) ?_)))
  refine O_notInD (k.dat x) (.lst _) (k.datAll _) (k.layAll _) (k.lay x) (by omega) (B_bool ⟨rfl, ?_⟩)
  rw [k.any, hout]
  by_cases h : x ∈ m
  · rw [if_neg (by simpa using h), if_neg (by simpa using h)]
  · rw [if_pos (by simpa using h), if_pos (by simpa using h)]
    exact Ev_nameL ⟨rfl, rfl⟩
end
end Mine
end
section
open PySem PySem.W PyProof.Rows PySem.Spec PySem.Calls
set_option maxRecDepth 20000
namespace Mine
noncomputable def lawBody : List Stmt := bodyOf (stmtAt 19)
noncomputable def lawScope : Scope := scopeOf (stmtAt 19)
def tail18 : List Int := [1, 3, 1, 1, 0, 3, 1, 4, 0, 1, 1, 3, 1, 0, 5, 6, 2, 6]
def Small (l : List Nat) : Prop := ∀ c ∈ l, c < 1114112
theorem Small.app {a b : List Nat} (h : Small a) (k : Small b) : Small (a ++ b) := fun c hc => (List.mem_append.mp hc).elim (h c) (k c)
theorem small_pl (x : _root_.Fin 6) : Small (pl x) := by revert x; unfold Small; decide
theorem small_J : ∀ f, Small (J f)
  | [] => fun c hc => by simp [J, catL] at hc
  | x :: f => by rw [J_cons]; exact (small_pl x).app (small_J f)
theorem small_mid : ∀ s, Small (midT s)
  | [] => fun c hc => by simp [midT] at hc
  | f :: s => by
    rw [midT]
    split
    · exact Small.app (by unfold Small; decide) (small_J f)
    · exact (((show Small [40, 63, 62, 46, 42, 63] by unfold Small; decide).app (small_J f)).app (by unfold Small; decide)).app (small_mid s)
theorem small_text (l : List (_root_.Fin 6)) : Small (textT l) :=
  ((show Small [40, 63, 115, 58] by unfold Small; decide).app ((small_J _).app (small_mid _))).app (by unfold Small; decide)
theorem ok_S {l : List Nat} (h : Small l) : PyData.strOk (S l) = true := by
  unfold PyData.strOk
  show l.toArray.all _ = true
  rw [List.all_toArray, List.all_eq_true]
  intro c hc
  exact decide_eq_true (h c hc)
def tv (l : List (_root_.Fin 6)) : V := .str (S (textT l))
def td (l : List (_root_.Fin 6)) : PyData := .str (S (textT l))
theorem tx_eqv : ∀ ls : List (List (_root_.Fin 6)), PyData.eqvAll (ls.map td) (ls.map td) = true
  | [] => by simp [PyData.eqvAll]
  | l :: ls => by simp [PyData.eqvAll, td, PyData.eqv, tx_eqv ls]
theorem tx_lay : ∀ ls : List (List (_root_.Fin 6)), PyData.canLayAll0 (ls.map td) = true
  | [] => by simp [PyData.canLayAll0]
  | l :: ls => by
    rw [List.map_cons, PyData.canLayAll0, tx_lay ls]
    simp only [td, PyData.canLay0, ok_S (small_text l), Bool.and_true]
theorem tx_dep : ∀ ls : List (List (_root_.Fin 6)), PyData.depthAll (ls.map td) = 0
  | [] => by simp [PyData.depthAll]
  | l :: ls => by simp [PyData.depthAll, td, PyData.depth, tx_dep ls]
section
variable {X : Act} {σ : St} {K : V → St → Prop}
/-- the texts are the same on both sides -/
theorem O_neT (ls : List (List (_root_.Fin 6))) (h : K (.bool false) σ) : Op2 X (compareOp .NotEq) (.lst (ls.map tv)) (.lst (ls.map tv)) σ K := by
  have hd : Dat (.lst (ls.map tv)) (.list (ls.map td)) := .lst (.map tv td (fun _ => .str _) ls)
  have hs : PySem.SeqAt.shaped (.list (ls.map td)) = true := by
    unfold PySem.SeqAt.shaped
    simp only [PyData.canLay0, PyData.depth, tx_lay, tx_dep]
    rfl
  refine O_neD hd hd hs hs ?_
  rw [show PyData.eqv (.list (ls.map td)) (.list (ls.map td)) = true by simp only [PyData.eqv]; exact tx_eqv ls]
  exact h
variable {α : Type} [DecidableEq α] (k : Kd α)
theorem O_neK (hn : k.n ≤ 64) (x y : α) (h : K (.bool (!decide (x = y))) σ) : Op2 X (compareOp .NotEq) (k.v x) (k.v y) σ K :=
  O_neD (k.dat x) (k.dat y) (k.shaped hn x) (k.shaped hn y) (by rw [k.eqv]; exact h)
theorem O_eqK (hn : k.n ≤ 64) (x y : α) (h : K (.bool (decide (x = y))) σ) : Op2 X (compareOp .Eq) (k.v x) (k.v y) σ K :=
  O_eqD (k.dat x) (k.dat y) (k.shaped hn x) (k.shaped hn y) (by rw [k.eqv]; exact h)
theorem O_inK (hn : k.n ≤ 64) (x : α) (l : List α) (h : K (.bool (decide (x ∈ l))) σ) : Op2 X (compareOp .In) (k.v x) (.lst (l.map k.v)) σ K :=
  O_inD (k.dat x) (.lst _) (k.datAll l) (k.layAll l) (k.lay x) (Nat.le_trans (k.dep x) hn) (by rw [k.any]; exact h)
end
/-- what the law's names hold -/
structure Jl (loc : List (Str × V)) (R : V) : Prop where
  rows : loc.lookup (Str.ofString "rows") = some R
  pieces : loc.lookup (Str.ofString "pieces") = some R
  row : ∃ u, loc.lookup (Str.ofString "row") = some u
  other : ∃ u, loc.lookup (Str.ofString "other") = some u
theorem lk_some {x y : Str} {v : V} {l : List (Str × V)} (h : ∃ u, l.lookup x = some u) : ∃ u, List.lookup x ((y, v) :: l) = some u := by
  rw [List.lookup_cons]
  cases x == y
  · exact h
  · exact ⟨v, rfl⟩
theorem Jl.put {loc : List (Str × V)} {R : V} (j : Jl loc R) {x : Str} (v : V) (h1 : (Str.ofString "rows" == x) = false := by decide) (h2 : (Str.ofString "pieces" == x) = false := by decide) : Jl ((x, v) :: loc) R :=
  ⟨lk_miss h1 j.rows, lk_miss h2 j.pieces, lk_some j.row, lk_some j.other⟩
theorem pick_without {β : Type} (f : β → V) (l : List β) (i : Nat) : pick (l.map f) none (some (i : Int)) ++ pick (l.map f) (some ((i : Int) + 1)) none = (l.take i ++ l.drop (i + 1)).map f := by
  rw [pick_upto, show ((i : Int) + 1) = ((i + 1 : Nat) : Int) by push_cast; rfl, pick_from, List.map_append, List.map_take, List.map_drop]
/-- rows without the one at k -/
theorem Ev_without {α : Type} {f : α → V} {X : Act} {σ : St} {K : V → St → Prop} {p1 p2 p3 p4 p5 p6 p7 p8 p9 p10 p11 : Pos} {z : Nat} (l : List α) (i : Nat) (hl : l.length ≤ 1000) (h1 : σ.loc.lookup (Str.ofString "rows") = some (.lst (l.map f))) (h2 : σ.loc.lookup (Str.ofString "k") = some (.int i))
    (k1 : X.env.kindOf (Str.ofString "rows") = some .local) (k2 : X.env.kindOf (Str.ofString "k") = some .local) (h : K (.lst ((l.take i ++ l.drop (i + 1)).map f)) σ) :
    Ev X (eval (.BinOp (.Subscript (.Name (Str.ofString "rows") p1) (.Slice none (some (.Name (Str.ofString "k") p2)) none p3) p4) .Add (.Subscript (.Name (Str.ofString "rows") p5) (.Slice (some (.BinOp (.Name (Str.ofString "k") p6) .Add (.Constant (.int 1) z p7) p8)) none none p9) p10) p11) X.env) σ K := by
  have hz : (l.map f).length ≤ sizeLine := by rw [List.length_map]; exact Nat.le_trans hl (by decide)
  refine Ev_bin ?_
  refine Ev_sliceL (Ev_nameL (EvP_none (EvP_some (Ev_nameL ⟨_, rfl, _, .lst _, hz, ?_⟩))))
  refine Ev_sliceL (Ev_nameL (EvP_some ?_))
  refine Ev_bin (Ev_nameL ?_)
  refine Ev_int ?_
  refine O_addI ⟨_, rfl, EvP_none ⟨_, .lst _, hz, ?_⟩⟩
  refine O_addL (.lst _) (.lst _) ?_ ?_
  · rw [← List.length_append, pick_without, List.length_map, List.length_append, List.length_take, List.length_drop]
    exact Nat.le_trans (by omega : _ ≤ 2000) (by decide)
  · rw [pick_without]; exact h
theorem lit_3 : Str.ofString "*?a" = S [42, 63, 97] := by decide +kernel
theorem lit_xb : Str.ofString "[!b]" = S [91, 33, 98, 93] := by decide +kernel
end Mine
end
section
open PySem PySem.W PyProof.Rows PySem.Spec PySem.Calls
namespace Mine
set_option maxRecDepth 20000 in
set_option maxHeartbeats 400000 in
theorem T_law (ns : List Int) (hn : ns.length ≤ 63) {X : Act} {mu : List Addr} (hsc : X.env.scope = lawScope) (F : Framed X) (hh : X.A.handled = none) (hmine : X.mine = true) (hlv : 5 ≤ X.lvl) (hlp : X.lamPos = ⟨87, 39, 87, 76⟩) (hlq : X.lamQual = Str.ofString "_translate" ++ ".<locals>." ++ "<lambda>") :
    Ex X (execs lawBody X.env) ⟨(Str.ofString "script", .lst (ns.map V.int)) :: (Str.ofString "pieces", .undef) :: (Str.ofString "row", .undef) :: (Str.ofString "other", .undef) :: [], [], mu, []⟩ fun fl _ => fl = .ret (.bool true) := by
  conv at hsc => rhs; whnf
  conv in lawBody => whnf
  have hz : ∀ n, n ≤ 1000 → n ≤ sizeLine := fun n h => Nat.le_trans h (by decide)
  refine Ex_cons ?_
  refine Ex_assign ?_
  refine Ev_callF 98 ?_
  refine Ev_global ⟨rfl, ?_⟩
  refine Evs_cons ?_
  refine Ev_bin ?_
  refine Ev_sliceL ?_
  refine Ev_nameL ?_
  refine EvP_none (EvP_some ?_)
  refine Ev_int ⟨_, rfl, _, .lst _, ?_, ?_⟩
  · exact hz _ (by rw [List.length_map]; omega)
  refine Ev_listF ?_
  iterate 18 (refine Evs_cons ?_; refine Ev_int ?_)
  refine Evs_nil ⟨?_, ?_⟩
  · decide
  refine O_addL (.lst _) (.lst _) ?_ (Evs_nil ?_)
  · rw [show (9 : Int) = ((9 : Nat) : Int) from rfl, pick_upto, List.length_take]
    exact hz _ (by show min _ _ + 18 ≤ 1000; omega)
  rw [show (9 : Int) = ((9 : Nat) : Int) from rfl, pick_upto]
  have e : (ns.map V.int).take 9 ++ [V.int 1, V.int 3, V.int 1, V.int 1, V.int 0, V.int 3, V.int 1, V.int 4, V.int 0, V.int 1, V.int 1, V.int 3, V.int 1, V.int 0, V.int 5, V.int 6, V.int 2, V.int 6] = (ns.take 9 ++ tail18).map V.int := by
    rw [List.map_append, List.map_take]; rfl
  rw [e]
  have hns : (ns.take 9 ++ tail18).length ≤ 27 := by rw [List.length_append, List.length_take]; show min 9 ns.length + 18 ≤ 27; omega
  generalize ns.take 9 ++ tail18 = ns' at hns
  refine T_patterns ns' (by omega) (by omega) (seqK_next ?_)
  obtain ⟨hp1, hp2⟩ := pats_len ns'
  obtain ⟨p₀, ps₀, hp0⟩ := pats_cons ns'
  generalize hps : pats ns' = ps at hp1 hp2 hp0
  have hple : ∀ p ∈ ps, p.length ≤ 27 := fun p hp => Nat.le_trans (hp2 p hp) hns
  have hpc : ps.length ≤ 28 := by omega
  have hlen : ∀ {β : Type} (f : List (_root_.Fin 6) → β), (ps.map f).length = ps.length := fun f => List.length_map f
  refine Ex_cons ?_
  refine Ex_assignComp (fv₀ := []) frees0 (Ev_nameL ⟨_, [], ps.map fun p => some (V.str (S (txt p))), iter_lst _, ?_, frees0, rfl, ?_, ?_, seqK_next ?_⟩)
  · exact hz _ (by rw [hlen]; omega)
  · rw [hlen, hlen]
  · intro Y hi i u σY hu hlu hfv
    obtain ⟨p, hp, rfl⟩ := map_get hu
    have hpl := hple p (List.mem_of_getElem? hp)
    have hsY := hi.sc
    rw [hsc] at hsY
    refine Fs_nil ⟨rfl, ?_⟩
    rw [if_pos rfl]
    refine Ev_join (x := S []) (ys := (p.map tk).map S) (Ev_str ⟨congrArg V.str lit_e, ?_⟩)
    refine Ev_comp (fv₀ := []) frees0 (Ev_nameL ⟨_, [], p.map fun x => some (V.str (S (tk x))), iter_lst _, ?_, frees0, rfl, ?_, ?_, ?_, ?_, rfl, ?_⟩)
    · exact hz _ (by rw [List.length_map]; omega)
    · rw [List.length_map, List.length_map]
    · intro Y₂ hi₂ j v σZ hv hlv₂ hfv₂
      obtain ⟨x, hx, rfl⟩ := map_get hv
      have hsZ := hi₂.sc
      rw [hsY] at hsZ
      have hout : (p.map fun x => some (V.str (S (tk x))))[j]? = some (some (V.str (S (tk x)))) := by rw [List.getElem?_map, hx]; rfl
      refine Fs_nil ⟨rfl, ?_⟩
      rw [if_pos rfl, hout]
      refine Ev_ifexp (Tr_cmp (Ev_nameL (Ev_int (O_ltI (B_bool ?_)))))
      have h6 := x.isLt
      refine brK_split (fun hb => ?_) (fun hb => ?_)
      · have hb' : (x.val : Int) + 1 < 4 := by simpa using hb
        refine Ev_sub (Ev_str (Ev_bin (Ev_nameL (Ev_int (O_subI (O_itemS (y := S (tk x)) ?_ ?_ ?_ ?_ ⟨rfl, rfl⟩))))))
        · rw [lit_3, S_len]; show -(3 : Int) ≤ _; omega
        · rw [lit_3, S_len]; show _ < (3 : Int); omega
        · rcases six x with rfl | rfl | rfl | rfl | rfl | rfl <;> decide
        · rcases six x with rfl | rfl | rfl | rfl | rfl | rfl
          · decide +kernel
          · decide +kernel
          · decide +kernel
          · exact absurd hb' (by decide)
          · exact absurd hb' (by decide)
          · exact absurd hb' (by decide)
      · have hb' : ¬ (x.val : Int) + 1 < 4 := by simpa using hb
        refine Ev_sub (Ev_listF (Evs_cons (Ev_str (Evs_cons (Ev_str (Evs_cons (Ev_str (Evs_nil ⟨?_, Ev_bin (Ev_nameL (Ev_int (O_subI (O_itemL (v := .str (S (tk x))) (.lst _) ?_ ?_ ?_ ⟨rfl, rfl⟩))))⟩))))))))
        · decide
        · omega
        · omega
        · rcases six x with rfl | rfl | rfl | rfl | rfl | rfl
          · exact absurd (by decide) hb'
          · exact absurd (by decide) hb'
          · exact absurd (by decide) hb'
          · rw [lit_ab]; rfl
          · rw [lit_xb]; rfl
          · rw [lit_dot]; rfl
    · have e : (p.map fun x => some (V.str (S (tk x)))).filterMap id = ((p.map tk).map S).map V.str := by
        rw [List.filterMap_map]; simp [Function.comp_def]
      rw [e]; exact .lst _
    · have := txt_len p
      rw [lens_S, S_len]
      show (txt p).length + _ * 0 ≤ _
      omega
    · rw [join_S, List.getElem?_map, hp]; rfl
  have ew : (ps.map fun p => some (V.str (S (txt p)))).filterMap id = ps.map fun p => V.str (S (txt p)) := by
    rw [List.filterMap_map]; simp [Function.comp_def]
  rw [ew]
  have er : (ps.map fun p => some (kp.list.v (pcs p))).filterMap id = (ps.map pcs).map kp.list.v := by
    rw [List.filterMap_map]; simp [Function.comp_def]
  refine Ex_cons ?_
  refine Ex_assignTC hh hmine ?_
  refine Ev_tuple ?_
  refine Evs_cons ?_
  refine Ev_comp (fv₀ := []) frees0 (Ev_nameL ⟨_, [], ps.map fun p => some (kp.list.v (pcs p)), iter_lst _, ?_, frees0, rfl, ?_, ?_, ?_⟩)
  · exact hz _ (by rw [hlen]; omega)
  · rw [hlen, hlen]
  · intro Y hi i u σY hu hlu hfv
    obtain ⟨p, hp, rfl⟩ := map_get hu
    have hpl := hple p (List.mem_of_getElem? hp)
    have hsY := hi.sc
    rw [hsc] at hsY
    have hout : (ps.map fun p => some (kp.list.v (pcs p)))[i]? = some (some (kp.list.v (pcs p))) := by rw [List.getElem?_map, hp]; rfl
    refine Fs_nil ⟨rfl, ?_⟩
    rw [if_pos rfl, hout]
    refine Ev_callF 84 (Ev_global ⟨rfl, Evs_cons (Ev_nameL (Evs_cons (Ev_none (Evs_cons (Ev_str (Evs_nil ?_))))))⟩)
    rw [lit_dot]
    exact T_cut p (by omega) svNone (by rw [hi.lvl]; omega) (hi.hd.trans hh) (hi.lp.trans hlp) (hi.lq.trans hlq) ⟨rfl, rfl⟩
  rw [er]
  refine Evs_cons ?_
  refine Ev_comp (fv₀ := []) frees0 (Ev_nameL ⟨_, [], ps.map fun p => some (kp.list.v (pcs p)), iter_lst _, ?_, frees0, rfl, ?_, ?_, ?_⟩)
  · exact hz _ (by rw [hlen]; omega)
  · rw [hlen, hlen]
  · intro Y hi i u σY hu hlu hfv
    obtain ⟨p, hp, rfl⟩ := map_get hu
    have hpl := hple p (List.mem_of_getElem? hp)
    have hsY := hi.sc
    rw [hsc] at hsY
    have hout : (ps.map fun p => some (kp.list.v (pcs p)))[i]? = some (some (kp.list.v (pcs p))) := by rw [List.getElem?_map, hp]; rfl
    refine Fs_nil ⟨rfl, ?_⟩
    rw [if_pos rfl, hout]
    refine Ev_callF 103 (Ev_global ⟨rfl, Evs_cons (Ev_nameL (Evs_nil ?_))⟩)
    exact T_pieces p (by omega) (by rw [hi.lvl]; omega) (hi.hd.trans hh) ⟨rfl, rfl⟩
  rw [er]
  have hrows : (ps.map pcs).length ≤ 28 := by rw [hlen]; exact hpc
  have hrle : ∀ r ∈ ps.map pcs, r.length ≤ 27 := fun r hr => by
    obtain ⟨p, hp, rfl⟩ := List.mem_map.mp hr
    exact Nat.le_trans (pcs_len p) (hple p hp)
  refine Evs_nil ⟨show 2 ≤ sizeLine by decide, _, _, .undef, rfl, ?_, seqK_next ?_⟩
  · repeat (first | exact lk_hit | (apply lk_miss; · decide))
  have et : (ps.map fun p => some (tv (pcs p))).filterMap id = (ps.map pcs).map tv := by
    rw [List.filterMap_map]; simp [Function.comp_def]
  have et2 : ((ps.map pcs).map fun r => some (tv r)).filterMap id = (ps.map pcs).map tv := by
    rw [List.filterMap_map]; simp [Function.comp_def]
  refine Ex_cons (Ex_if (Tr_or ?_))
  refine Tr_cmp (Ev_nameL (Ev_nameC (O_neK kp.list.list (by decide) (ps.map pcs) (ps.map pcs) (B_bool ?_))))
  rw [decide_eq_true rfl]
  refine brK_f (Tr_or (Tr_cmp ?_))
  refine Ev_comp (fv₀ := []) frees0 (Ev_nameL ⟨_, [], ps.map fun p => some (tv (pcs p)), iter_lst _, ?_, frees0, rfl, ?_, ?_, ?_⟩)
  · exact hz _ (by rw [hlen]; omega)
  · rw [hlen, hlen]
  · intro Y hi i u σY hu hlu hfv
    obtain ⟨p, hp, rfl⟩ := map_get hu
    have hpl := hple p (List.mem_of_getElem? hp)
    have hsY := hi.sc
    rw [hsc] at hsY
    have hout : (ps.map fun p => some (tv (pcs p)))[i]? = some (some (tv (pcs p))) := by rw [List.getElem?_map, hp]; rfl
    refine Fs_nil ⟨rfl, ?_⟩
    rw [if_pos rfl, hout]
    refine Ev_callF 65 (Ev_global ⟨rfl, Evs_cons (Ev_nameL (Evs_nil ?_))⟩)
    exact T_trans p (by omega) (by rw [hi.lvl]; omega) (hi.hd.trans hh) (hi.lp.trans hlp) (hi.lq.trans hlq) ⟨rfl, rfl⟩
  rw [et]
  refine Ev_comp (fv₀ := []) frees0 (Ev_nameC ⟨_, [], (ps.map pcs).map fun r => some (tv r), iter_lst _, ?_, frees0, rfl, ?_, ?_, ?_⟩)
  · exact hz _ (by rw [List.length_map]; omega)
  · rw [List.length_map, List.length_map (f := kp.list.v)]
  · intro Y hi i u σY hu hlu hfv
    obtain ⟨r, hr, rfl⟩ := map_get hu
    have hrl := hrle r (List.mem_of_getElem? hr)
    have hsY := hi.sc
    rw [hsc] at hsY
    have hout : ((ps.map pcs).map fun r => some (tv r))[i]? = some (some (tv r)) := by rw [List.getElem?_map, hr]; rfl
    have hne : kp.list.v r ≠ .undef := by nofun
    refine Fs_nil ⟨rfl, ?_⟩
    rw [if_pos rfl, hout]
    refine Ev_callF 108 (Ev_global ⟨rfl, Evs_cons (Ev_nameL (Evs_nil ?_))⟩)
    exact T_text r (by omega) (by rw [hi.lvl]; omega) ⟨rfl, rfl⟩
  rw [et2]
  refine O_neT (ps.map pcs) (B_bool (brK_f (Tr_or0 (brK_f (Ex_nil (seqK_next ?_))))))
  obtain ⟨r₀, rs₀, hr0⟩ : ∃ r rs, ps.map pcs = r :: rs := by rw [hp0]; exact ⟨_, _, rfl⟩
  generalize ps.map pcs = rows at hrows hrle hr0
  have hdl : ∀ {β : Type} [DecidableEq β] (l : List β), (dd [] l).length ≤ l.length := fun l => by have := dd_length [] l; simpa using this
  refine Ex_cons (Ex_for (Ev_nameL ⟨_, iter_lst _, fun i σ' => Jl σ'.loc (.lst (rows.map kp.list.v)), fun av => ⟨?_, ?_, ?_, ?_⟩, .inr ⟨kd hsc (by rfl), hmine, fun i σ h => h.row⟩, ?_, ?_⟩))
  · repeat (first | exact lk_hit | (apply lk_miss; · decide))
  · repeat (first | exact lk_hit | (apply lk_miss; · decide))
  · exact ⟨.undef, by repeat (first | exact lk_hit | (apply lk_miss; · decide))⟩
  · exact ⟨.undef, by repeat (first | exact lk_hit | (apply lk_miss; · decide))⟩
  · rintro i v ⟨loc, own, mu', av⟩ hv j
    obtain ⟨r, hr, rfl⟩ := map_get hv
    have hrl := hrle r (List.mem_of_getElem? hr)
    have hne : kp.list.v r ≠ .undef := by nofun
    dsimp only at j ⊢
    have j1 := j.put (x := Str.ofString "row") (kp.list.v r)
    have hrow : List.lookup (Str.ofString "row") ((Str.ofString "row", kp.list.v r) :: loc) = some (kp.list.v r) := lk_hit
    generalize (Str.ofString "row", kp.list.v r) :: loc = loc₁ at j1 hrow
    refine Ex_cons ?_
    refine Ex_assignComp (fv₀ := [(Str.ofString "row", kp.list.v r)]) (frees1 hrow (.inl (kd hsc (by rfl))) (fun c hcc => ?_) (by decide)) ?_
    · simp [closureFor, cellOf, hcc]
    refine Ev_callT "range" (Ev_builtin ⟨rfl, Evs_cons (Ev_callB "len" (Ev_builtin ⟨rfl, Evs_cons (Ev_nameC (Evs_nil ?_))⟩))⟩)
    refine O_lenL (.lst (r.map kp.v)) ?_ ?_
    · exact hz _ (by rw [List.length_map]; omega)
    rw [List.length_map]
    refine Evs_nil (O_range ?_ ⟨_, [(Str.ofString "row", kp.list.v r)], (List.range r.length).map (fun i => (firstAt r i).map kp.v), iter_rng hh _ ?_, ?_, frees1 hrow (.inl (kd hsc (by rfl))) (fun c hcc => ?_) (by decide), rfl, ?_, ?_, seqK_next ?_⟩)
    · omega
    · omega
    · exact hz _ (by rw [List.length_map, List.length_range]; omega)
    · simp [closureFor, cellOf, hcc]
    · rw [List.length_map, List.length_map]
    · refine turns_firsts kp (by decide) r (by omega) (fun Y hi => ?_) (by decide)
      have hsY := hi.sc
      rw [hsc] at hsY
      exact ⟨kd hsY (by rfl), kd hsY (by rfl)⟩
    rw [filt, firstAt_dd]
    have j2 := j1.put (x := Str.ofString "firsts") (.lst ((dd [] r).map kp.v))
    have hrow2 : List.lookup (Str.ofString "row") ((Str.ofString "firsts", .lst ((dd [] r).map kp.v)) :: loc₁) = some (kp.list.v r) := lk_miss (by decide) hrow
    have hfi : List.lookup (Str.ofString "firsts") ((Str.ofString "firsts", .lst ((dd [] r).map kp.v)) :: loc₁) = some (.lst ((dd [] r).map kp.v)) := lk_hit
    generalize (Str.ofString "firsts", V.lst ((dd [] r).map kp.v)) :: loc₁ = loc₂ at j2 hrow2 hfi
    have hdr : (dd [] r).length ≤ 27 := Nat.le_trans (hdl r) hrl
    refine Ex_cons (Ex_if (Tr_or (Tr_not (Tr_any rfl ?_))))
    refine Ev_callB "isinstance" (Ev_builtin ⟨rfl, Evs_cons ?_⟩)
    refine Ev_callF 39 (Ev_global ⟨rfl, Evs_cons (Ev_nameC (Evs_nil ?_))⟩)
    refine T_keys r (by omega) hh (by omega) ?_
    refine Evs_cons (Ev_builtin (Evs_nil (O_isDict (B_bool ?_))))
    show brK false _ _
    refine brK_f (Tr_or (Tr_cmp ?_))
    refine Ev_callT "list" (Ev_builtin ⟨rfl, Evs_cons ?_⟩)
    refine Ev_callF 39 (Ev_global ⟨rfl, Evs_cons (Ev_nameC (Evs_nil ?_))⟩)
    refine T_keys r (by omega) hh (by omega) (Evs_nil (O_listD hh ?_ ?_))
    · rw [List.length_map]; omega
    rw [List.map_map, show ov ∘ ko = kp.v from funext ov_ko]
    refine Ev_nameL (O_neK kp.list (by decide) (dd [] r) (dd [] r) (B_bool ?_))
    rw [decide_eq_true rfl]
    refine brK_f (Tr_or (Tr_cmp ?_))
    refine Ev_callF 46 (Ev_global ⟨rfl, Evs_cons (Ev_nameC (Evs_nil ?_))⟩)
    refine T_dedup kp (by decide) r (by omega) (by omega) (Ev_nameL (O_neK kp.list (by decide) (dd [] r) (dd [] r) (B_bool ?_)))
    rw [decide_eq_true rfl]
    refine brK_f (Tr_or0 (brK_f (Ex_nil (seqK_next ?_))))
    refine Ex_cons (Ex_for (Ev_nameL (hl := j2.rows) ⟨_, iter_lst _, fun i σ' => Jl σ'.loc (.lst (rows.map kp.list.v)) ∧ σ'.loc.lookup (Str.ofString "row") = some (kp.list.v r), fun av => ⟨j2, hrow2⟩, .inr ⟨kd hsc (by rfl), hmine, fun i σ h => h.1.other⟩, ?_, ?_⟩))
    · rintro i' v ⟨loc, own, mu', av⟩ hv ⟨k1, k2⟩
      obtain ⟨q, hq, rfl⟩ := map_get hv
      have hql := hrle q (List.mem_of_getElem? hq)
      have hneq : kp.list.v q ≠ .undef := by nofun
      dsimp only at k1 k2 ⊢
      have m1 := k1.put (x := Str.ofString "other") (kp.list.v q)
      have hoth : List.lookup (Str.ofString "other") ((Str.ofString "other", kp.list.v q) :: loc) = some (kp.list.v q) := lk_hit
      have hrow3 : List.lookup (Str.ofString "row") ((Str.ofString "other", kp.list.v q) :: loc) = some (kp.list.v r) := lk_miss (by decide) k2
      generalize (Str.ofString "other", kp.list.v q) :: loc = loc₃ at m1 hoth hrow3
      refine Ex_cons (Ex_assign (Ev_cmp (Ev_bin ?_)))
      refine Ev_comp (fv₀ := [(Str.ofString "other", kp.list.v q)]) (frees1 hoth (.inl (kd hsc (by rfl))) (fun c hcc => ?_) (by decide)) ?_
      · simp [closureFor, cellOf, hcc]
      refine Ev_nameC ⟨_, [(Str.ofString "other", kp.list.v q)], r.map fun x => if x ∉ q then some (kp.v x) else none, iter_lst (r.map kp.v), ?_, frees1 hoth (.inl (kd hsc (by rfl))) (fun c hcc => ?_) (by decide), rfl, ?_, ?_, ?_⟩
      · exact hz _ (by rw [List.length_map]; omega)
      · simp [closureFor, cellOf, hcc]
      · rw [List.length_map, List.length_map]
      · refine turns_notin kp (by decide) r q (fun Y hi => ?_) (by decide)
        have hsY := hi.sc
        rw [hsc] at hsY
        exact ⟨kd hsY (by rfl), kd hsY (by rfl)⟩
      rw [filt2]
      refine Ev_comp (fv₀ := [(Str.ofString "row", kp.list.v r)]) (frees1 hrow3 (.inl (kd hsc (by rfl))) (fun c hcc => ?_) (by decide)) ?_
      · simp [closureFor, cellOf, hcc]
      refine Ev_nameC ⟨_, [(Str.ofString "row", kp.list.v r)], q.map fun x => if x ∉ r then some (kp.v x) else none, iter_lst (q.map kp.v), ?_, frees1 hrow3 (.inl (kd hsc (by rfl))) (fun c hcc => ?_) (by decide), rfl, ?_, ?_, ?_⟩
      · exact hz _ (by rw [List.length_map]; omega)
      · simp [closureFor, cellOf, hcc]
      · rw [List.length_map, List.length_map]
      · refine turns_notin kp (by decide) q r (fun Y hi => ?_) (by decide)
        have hsY := hi.sc
        rw [hsc] at hsY
        exact ⟨kd hsY (by rfl), kd hsY (by rfl)⟩
      rw [filt2]
      refine O_addL (.lst _) (.lst _) ?_ ?_
      · have h1 := List.length_filter_le (fun x => decide (x ∉ q)) r
        have h2 := List.length_filter_le (fun x => decide (x ∉ r)) q
        exact hz _ (by rw [List.length_map, List.length_map]; omega)
      rw [← List.map_append]
      refine Ev_listF (Evs_nil ⟨Nat.zero_le _, O_eqK kp.list (by decide) _ [] ?_⟩)
      rw [← alike_same]
      refine seqK_next ?_
      refine Ex_cons (Ex_if (Tr_cmp (Ev_callF 53 (Ev_global ⟨rfl, Evs_cons (Ev_nameC (hl := lk_miss (by decide) hrow3) (Evs_cons (Ev_nameC (hl := lk_miss (by decide) hoth) (Evs_nil ?_))))⟩))))
      refine T_compare kp (by decide) r q (by omega) (by omega) F hh (by omega) (Ev_nameL (O_isNot (.bb _ _) (B_bool ?_)))
      rw [beq_self_eq_true]
      show brK false _ _
      refine brK_f (Ex_nil (seqK_next (Ex_nil (forK_next ⟨m1.put _, lk_miss (by decide) hrow3⟩))))
    · rintro ⟨loc, own, mu', av⟩ av' ⟨k1, k2⟩
      exact seqK_next (Ex_nil (forK_next k1))
  rintro ⟨loc, own, mu', av⟩ av' j
  dsimp only at j ⊢
  refine seqK_next ?_
  refine Ex_cons (Ex_for (Ev_callT "range" (Ev_builtin ⟨rfl, Evs_cons (Ev_callB "len" (Ev_builtin ⟨rfl, Evs_cons (Ev_nameL (hl := j.rows) (Evs_nil ?_))⟩))⟩)))
  refine O_lenL (.lst (rows.map kp.list.v)) ?_ ?_
  · exact hz _ (by rw [List.length_map]; omega)
  rw [List.length_map]
  refine Evs_nil (O_range ?_ ⟨_, iter_rng hh _ ?_, fun i σ' => Jl σ'.loc (.lst (rows.map kp.list.v)), fun av => j, .inl (kd hsc (by rfl)), ?_, ?_⟩)
  · omega
  · omega
  · rintro i v ⟨loc, own, mu', av⟩ hv j
    obtain ⟨n, hn', rfl⟩ := map_get hv
    obtain ⟨hn1, hn2⟩ := List.getElem?_eq_some_iff.mp hn'
    rw [List.length_range] at hn1
    rw [List.getElem_range] at hn2
    subst hn2
    dsimp only at j ⊢
    have j1 := j.put (x := Str.ofString "k") (.int i)
    have hk : List.lookup (Str.ofString "k") ((Str.ofString "k", V.int i) :: loc) = some (V.int i) := lk_hit
    generalize (Str.ofString "k", V.int i) :: loc = loc₁ at j1 hk
    obtain ⟨x, hx⟩ : ∃ x, rows[i]? = some x := ⟨_, List.getElem?_eq_getElem hn1⟩
    have hxv : (rows.map kp.list.v)[((i : Nat) : Int).toNat]? = some (kp.list.v x) := by rw [List.getElem?_map, Int.toNat_natCast, hx]; rfl
    have hwl : (rows.take i ++ rows.drop (i + 1)).length ≤ 1000 := by rw [List.length_append, List.length_take, List.length_drop]; omega
    refine Ex_cons (Ex_if (Tr_cmp (Ev_callF 53 (Ev_global ⟨rfl, Evs_cons (Ev_nameL (hl := j1.rows) (Evs_cons ?_))⟩))))
    refine Ev_without (f := kp.list.v) rows i (by omega) j1.rows hk (kd hsc (by rfl)) (kd hsc (by rfl)) (Evs_nil ?_)
    refine T_compare kp.list (by decide) rows _ (by omega) hwl F hh (by omega) ?_
    refine Ev_cmp (Ev_sub (Ev_nameL (hl := j1.rows) (Ev_nameL (O_itemL (.lst _) ?_ ?_ hxv ?_))))
    · omega
    · omega
    refine Ev_without (f := kp.list.v) rows i (by omega) j1.rows hk (kd hsc (by rfl)) (kd hsc (by rfl)) ?_
    refine O_inK kp.list (by decide) x _ (O_isNot (.bb _ _) (B_bool ?_))
    rw [alike_without rows i x hx, beq_self_eq_true]
    show brK false _ _
    exact brK_f (Ex_nil (seqK_next (Ex_nil (forK_next j1))))
  rintro ⟨loc, own, mu', av⟩ av' j
  dsimp only at j ⊢
  refine seqK_next ?_
  refine Ex_cons ?_
  refine Ex_assignComp (fv₀ := [(Str.ofString "pieces", .lst (rows.map kp.list.v))]) (frees1 j.pieces (.inl (kd hsc (by rfl))) (fun c hcc => ?_) (by decide)) ?_
  · simp [closureFor, cellOf, hcc]
  refine Ev_callT "range" (Ev_builtin ⟨rfl, Evs_cons (Ev_callB "len" (Ev_builtin ⟨rfl, Evs_cons (Ev_nameC (hl := j.pieces) (Evs_nil ?_))⟩))⟩)
  refine O_lenL (.lst (rows.map kp.list.v)) ?_ ?_
  · exact hz _ (by rw [List.length_map]; omega)
  rw [List.length_map]
  refine Evs_nil (O_range ?_ ⟨_, [(Str.ofString "pieces", .lst (rows.map kp.list.v))], (List.range rows.length).map (fun i => (firstAt rows i).map kp.list.v), iter_rng hh _ ?_, ?_, frees1 j.pieces (.inl (kd hsc (by rfl))) (fun c hcc => ?_) (by decide), rfl, ?_, ?_, seqK_next ?_⟩)
  · omega
  · omega
  · exact hz _ (by rw [List.length_map, List.length_range]; omega)
  · simp [closureFor, cellOf, hcc]
  · rw [List.length_map, List.length_map]
  · refine turns_firsts kp.list (by decide) rows (by omega) (fun Y hi => ?_) (by decide)
    have hsY := hi.sc
    rw [hsc] at hsY
    exact ⟨kd hsY (by rfl), kd hsY (by rfl)⟩
  rw [filt, firstAt_dd]
  have j2 := j.put (x := Str.ofString "firsts") (.lst ((dd [] rows).map kp.list.v))
  have hfi : List.lookup (Str.ofString "firsts") ((Str.ofString "firsts", .lst ((dd [] rows).map kp.list.v)) :: loc) = some (.lst ((dd [] rows).map kp.list.v)) := lk_hit
  generalize (Str.ofString "firsts", V.lst ((dd [] rows).map kp.list.v)) :: loc = loc₂ at j2 hfi
  refine Ex_cons (Ex_if (Tr_or (Tr_cmp ?_)))
  refine Ev_callK 39 (Ev_global ⟨rfl, Evs_cons (Ev_nameL (hl := j2.rows) (Evs_nil ?_))⟩) rfl ?_ rfl rfl rfl rfl
  · subst hr0
    refine T_fall kp (by decide) r₀ rs₀ (by omega) F hh (by omega) ?_
    refine Ev_nameL (hl := hfi) (O_neK kp.list.list (by decide) (dd [] (r₀ :: rs₀)) (dd [] (r₀ :: rs₀)) (B_bool ?_))
    rw [decide_eq_true rfl]
    refine brK_f (Tr_or (Tr_not (Tr_any rfl ?_)))
    refine Ev_callF 115 (Ev_global ⟨rfl, Evs_cons (Ev_nameL (hl := j2.rows) (Evs_nil ?_))⟩)
    refine T_refused (ws := r₀.map kp.v) (vs := rs₀.map kp.list.v) F hh (by omega) (B_bool ?_)
    show brK false _ _
    refine brK_f (Tr_or0 (brK_f (Ex_nil (seqK_next ?_))))
    refine Ex_cons (Ex_return (Ev_callF 53 (Ev_global ⟨rfl, Evs_cons (Ev_nameL (hl := j2.rows) (Evs_cons ?_))⟩)))
    refine Ev_revL (Ev_nameC (hl := j2.pieces) (Ev_una (Ev_int (O_neg ⟨rfl, _, .lst _, ?_, Evs_nil ?_⟩))))
    · exact hz _ (by rw [List.length_map]; omega)
    rw [← List.map_reverse]
    refine T_compare kp.list (by decide) (r₀ :: rs₀) _ (by omega) (by rw [List.length_reverse]; omega) F hh (by omega) ?_
    rw [alike_rev]
    exact seqK_ret rfl
  · rfl
end Mine
end
section
open PySem PySem.W PyProof.Rows PySem.Spec PySem.Calls
namespace Mine
theorem ints_vin {h : Heap} {mu : List Addr} : ∀ {vals : List Value} {ns : List Int}, IntsAre vals ns → VAll h mu (ns.map V.int) vals
  | _, _, .nil => .nil
  | _, _, .cons n t r => .cons (.int n t) (ints_vin r)
noncomputable abbrev lawEnv (name : Str) (L : Nat) (fa : Addr) (cd : Value) : Env := envOfC name lawScope L fa cd
theorem law_cells (name : Str) (L : Nat) (fa : Addr) (cd : Value) : (lawEnv name L fa cd).cells = [(Str.ofString "other", L + 1 + 1 + 1), (Str.ofString "row", L + 1 + 1), (Str.ofString "pieces", L + 1)] := by rfl
set_option maxRecDepth 20000 in
theorem law_join {prog : Program} {w : World} {s₁ : Shared} {fa l : Addr} {L : Nat} {cd : Value} {name : Str} {h₁ : Heap} {tk : Nat} {o1 o2 o3 : Obj} {v1 v2 v3 : Option Value} {vals : List Value} {ns : List Int} {p : Program} {loose : List Str} {mean : ExcName → Option Value} {mg mb m : Str → Option Value} {Q : Flow → Shared → Prop} {E : Value → Shared → Prop}
    (hL : s₁.heap.objs.size = L)
    (hX : (heapK w.params).In (ghostOf s₁.heap [(83, 79)])) (hT : Top p loose mean mg mb (ghostOf s₁.heap [(83, 79)])) (hF : Fr (ghostOf s₁.heap [(83, 79)]) L h₁ m) (hm : m (Str.ofString "script") = some (.ref l))
    (hl : (ghostOf s₁.heap [(83, 79)]).IsList l vals.toArray) (hc : CodeHd (ghostOf s₁.heap [(83, 79)]) 83 79)
    (hN : News (ghostOf s₁.heap [(83, 79)]) L h₁ [(L + 1 + 1 + 1, o3), (L + 1 + 1, o2), (L + 1, o1), (79, tabObj #[])]) (h1 : o1.data = .cell v1) (h2 : o2.data = .cell v2) (h3 : o3.data = .cell v3)
    (h0 : 79 < L) (hI : IntsAre vals ns) (hn : ns.length ≤ 63)
    (hQ : ∀ s', (∀ b o, (ghostOf s₁.heap [(83, 79)]).get? b = some o → s'.heap.get? b = some o) → s'.os = s₁.os → s'.gens = s₁.gens → GrownAll [(83, 79)] s'.heap → Q (.ret (.bool true)) s') :
    wpAny (model prog w) (callerA.deeper (lawEnv name L fa cd)) (execs lawBody (lawEnv name L fa cd)) Q E { s₁ with heap := h₁, toks := tk } := by
  have hghost : ∀ b o, b ≠ 79 → s₁.heap.get? b = some o → (ghostOf s₁.heap [(83, 79)]).get? b = some o := fun b o hb e => ghost_ne e (by simpa using hb)
  have hhid : (ghostOf s₁.heap [(83, 79)]).get? 79 = none := (hN _ (.tail _ (.tail _ (.tail _ (.head _))))).2.2
  have g3 : h₁.get? (L + 1 + 1 + 1) = some o3 := (hN _ (.head _)).1
  have g2 : h₁.get? (L + 1 + 1) = some o2 := (hN _ (.tail _ (.head _))).1
  have g1 : h₁.get? (L + 1) = some o1 := (hN _ (.tail _ (.tail _ (.head _)))).1
  have g0 : h₁.get? 79 = some (tabObj #[]) := (hN _ (.tail _ (.tail _ (.tail _ (.head _))))).1
  have hcl := law_cells name L fa cd
  let X : Act := { prog := prog, w := w, A := callerA.deeper (lawEnv name L fa cd), env := lawEnv name L fa cd, s₀ := s₁, mu₀ := [79], hb := ghostOf s₁.heap [(83, 79)], P := 79, lamPos := ⟨87, 39, 87, 76⟩, lamQual := Str.ofString "_translate" ++ ".<locals>." ++ "<lambda>", lvl := 5, fr := [], mine := true }
  have hcl' : X.env.cells = [(Str.ofString "other", L + 1 + 1 + 1), (Str.ofString "row", L + 1 + 1), (Str.ofString "pieces", L + 1)] := hcl
  have hok : ActOk X := by
    refine ⟨hX, ⟨_, _, _, _, _, hT⟩, hc, ?_, ?_, hhid, (fun b hb => nomatch hb), (fun b hb => nomatch hb), (fun b hb => nomatch hb), List.not_mem_nil, (fun b hb => nomatch hb), fun b o e => of_hideAll _ e, List.mem_singleton.mpr rfl, by rw [← hL] at h0; exact h0, rfl, rfl, rfl⟩
    · rw [hcl']
      show (79 : Nat) ∉ ([L + 1 + 1 + 1, L + 1 + 1, L + 1] : List Nat)
      simp only [List.mem_cons, List.not_mem_nil, or_false]
      omega
    · constructor
      · show callerA.depth + 1 + 5 ≤ 500
        decide
      · show callerA.units + 3 + 10 * 5 ≤ 2000
        decide
  have hlv : ∀ b : Nat, b ∈ ([L, L + 1, L + 1 + 1, L + 1 + 1 + 1] : List Nat) → L ≤ b ∧ Alive h₁ b := fun b hb => by
    rcases List.mem_cons.mp hb with rfl | hb
    · obtain ⟨o, _, _, e, _⟩ := hF.ns; exact ⟨Nat.le_refl _, o, e⟩
    · rcases List.mem_cons.mp hb with rfl | hb
      · exact ⟨by omega, _, g1⟩
      · rcases List.mem_cons.mp hb with rfl | hb
        · exact ⟨by omega, _, g2⟩
        · obtain rfl := List.mem_singleton.mp hb
          exact ⟨by omega, _, g3⟩
  have hll : l < L := by
    obtain ⟨o, e, _⟩ := hl
    rw [← hL]; exact Heap.lt_size (of_hideAll _ e)
  have hl79 : l ≠ 79 := fun q => by obtain ⟨o, e, _⟩ := hl; rw [q, hhid] at e; cases e
  have hRep : Rep X ⟨(Str.ofString "script", .lst (ns.map V.int)) :: (Str.ofString "pieces", .undef) :: (Str.ofString "row", .undef) :: (Str.ofString "other", .undef) :: [], [], [L, L + 1, L + 1 + 1, L + 1 + 1 + 1], []⟩ { s₁ with heap := h₁, toks := tk } := by
    refine ⟨hok, ⟨h₁, tk, rfl⟩, fun b o hb e => hF.keep b o (hghost b o (fun q => hb (.inl q)) e), (fun b hb => nomatch hb), ⟨.inl g0, .inl rfl⟩, fun b hb => ?_, List.mem_cons_self, ⟨m, hF.ns⟩, ?_, fun _ x c _ hxc => ?_, (fun a vs hm => nomatch hm), ?_, fun c hc => ?_, fun b hb => ?_, fun b hb => nomatch hb⟩
    · show s₁.heap.objs.size ≤ b ∧ _
      rw [hL]; exact hlv b hb
    · intro x v e
      rw [List.lookup_cons] at e
      cases hx : x == Str.ofString "script" with
      | true =>
        rw [hx] at e; cases e
        obtain rfl : x = Str.ofString "script" := by simpa using hx
        refine ⟨fun _ _ => ⟨m, .ref l, hF.ns, hm, .lst (isList_keep hl fun o e => hF.keep l o e) (fun hm => ?_) (ints_vin hI)⟩, fun q => ?_⟩
        · rcases List.mem_append.mp hm with hm | hm
          · exact Nat.lt_irrefl _ (Nat.lt_of_lt_of_le hll (hlv l hm).1)
          · exact hl79 (List.mem_singleton.mp hm)
        · have : X.env.kindOf (Str.ofString "script") = some .local := by rfl
          rw [this] at q
          rcases q with q | q <;> cases q
      | false =>
        rw [hx] at e
        have hv : v = .undef ∧ (x = Str.ofString "pieces" ∨ x = Str.ofString "row" ∨ x = Str.ofString "other") := by
          dsimp only at e
          rw [List.lookup_cons] at e
          cases hx2 : x == Str.ofString "pieces" with
          | true => rw [hx2] at e; cases e; exact ⟨rfl, .inl (by simpa using hx2)⟩
          | false =>
            rw [hx2] at e; dsimp only at e
            rw [List.lookup_cons] at e
            cases hx3 : x == Str.ofString "row" with
            | true => rw [hx3] at e; cases e; exact ⟨rfl, .inr (.inl (by simpa using hx3))⟩
            | false =>
              rw [hx3] at e; dsimp only at e
              rw [List.lookup_cons] at e
              cases hx4 : x == Str.ofString "other" with
              | true => rw [hx4] at e; cases e; exact ⟨rfl, .inr (.inr (by simpa using hx4))⟩
              | false => rw [hx4] at e; cases e
        obtain ⟨rfl, hx⟩ := hv
        refine ⟨fun _ q => absurd rfl q, fun _ => ?_⟩
        rcases hx with rfl | rfl | rfl
        · exact ⟨L + 1, v1, by rw [hcl']; rfl, ⟨o1, g1, h1⟩, fun q => absurd rfl q⟩
        · exact ⟨L + 1 + 1, v2, by rw [hcl']; rfl, ⟨o2, g2, h2⟩, fun q => absurd rfl q⟩
        · exact ⟨L + 1 + 1 + 1, v3, by rw [hcl']; rfl, ⟨o3, g3, h3⟩, fun q => absurd rfl q⟩
    · have hxm := mem_of_lookup hxc
      rw [hcl'] at hxm
      simp only [List.mem_cons, List.not_mem_nil, or_false, Prod.mk.injEq] at hxm
      rcases hxm with ⟨_, rfl⟩ | ⟨_, rfl⟩ | ⟨_, rfl⟩ <;> simp
    · show (L :: (X.env.cells.map (·.2) ++ [])).Nodup
      rw [hcl']
      show ([L, L + 1 + 1 + 1, L + 1 + 1, L + 1] : List Nat).Nodup
      simp only [List.nodup_cons, List.mem_cons, List.not_mem_nil, or_false, not_or, List.nodup_nil, and_true, not_false_eq_true]
      omega
    · rw [hcl'] at hc
      refine (hlv c ?_).2
      simp only [List.map_cons, List.map_nil, List.mem_cons, List.not_mem_nil, or_false] at hc
      rcases hc with rfl | rfl | rfl <;> simp
    · obtain rfl := List.mem_singleton.mp hb
      show 79 < s₁.heap.objs.size
      rw [hL]; exact h0
  have F : Framed X := ⟨[], rfl, rfl, fun e he => nomatch he⟩
  refine T_law ns hn (X := X) rfl F rfl rfl (Nat.le_refl _) rfl rfl _ Q E hRep fun f fl σ' s' R' L' i' k => ?_
  subst k
  cases i' with
  | ret i =>
    cases i
    obtain ⟨h', tk', e⟩ := R'.sh
    refine hQ s' (fun b o q => R'.base b o q) (by rw [e]) (by rw [e]) ⟨?_, trivial⟩
    rcases R'.tab.tab with q | ⟨c, _, q, _⟩
    · exact ⟨_, q⟩
    · exact ⟨_, q⟩
end Mine
end
open PySem.Spec PySem.Calls Mine
set_option maxRecDepth 100000 in
set_option maxHeartbeats 8000000 in
theorem PySem.Challenge.cw_ij0096_01_holds : PySem.Challenge.rw_ij0096_01.Holds := by
  refine Mine.holdsP ?_
  w_strict
    (k_go0
     all_goals try k_fold
     refine law_join rfl (by assumption) (by assumption) (by assumption) ?hm (by assumption) (by assumption) (by assumption) (by assumption) (by assumption) (by assumption) (by assumption) (by assumption) ?hn ?hQ
     case hm => rfl
     case hn => omega
     case hQ =>
       intro s' hk hos hgens hgr
       exact ⟨⟨.inl ⟨.bool true, .bool true, [], rfl, fun _ => rfl, .bool true, by first | (wrow_post; done) | exact postW_of (by first | wrow_shape | o_shape) (by wtm_val) (by w_fin), unshared_nil⟩, hk, hos, hgens.trans (by assumption)⟩, hgr⟩)
