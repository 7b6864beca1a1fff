import PyProof.Rows.All
import Wide.All
import OpenK.AllK
import Wide.FinOn
import PyProof.AttrMissHeap
import KE.KFromBytes
import KE.KLam
import PySem.Challenge.RW_ij0029_01
open PySem PySem.W PyProof.Rows
set_option Elab.async false
set_option linter.unusedVariables false
set_option linter.unusedSimpArgs false
section
set_option maxRecDepth 100000
namespace Mine
/-! what the heap holds behind the top: the defs' own parts are read out of the row's program -/
noncomputable abbrev stAt (i : Nat) : Stmt := (PySem.Challenge.pw_ij0029_01.main.body[i]?).getD (.Pass ⟨0, 0, 0, 0⟩)
noncomputable abbrev stBody : Stmt → List Stmt
  | .FunctionDef _ _ b _ _ _ _ _ _ _ => b
  | _ => []
noncomputable abbrev stArgs : Stmt → Arguments
  | .FunctionDef _ a _ _ _ _ _ _ _ _ => a
  | _ => ⟨[], [], none, [], [], none, []⟩
noncomputable abbrev stScope : Stmt → Scope
  | .FunctionDef _ _ _ _ _ _ s _ _ _ => s
  | _ => { kind := .function, names := [], isGenerator := false, isCoroutine := false }
noncomputable abbrev fnD (i : Nat) (x m : String) (t : Tok) (cd : Addr) : FuncData :=
  { name := Str.ofString x, qualname := Str.ofString x, params := stArgs (stAt i), body := .stmts (stBody (stAt i)), scope := stScope (stAt i), globals := 3, closure := [], defaults := Value.none, kwdefaults := Value.none, pyModule := Value.str (Str.ofString m) t, code := Value.ref cd }
noncomputable abbrev fnO (i : Nat) (x m : String) (t : Tok) (cd : Addr) : Obj := ⟨.type "function", none, .func (fnD i x m t cd), #[]⟩
noncomputable abbrev ob3 (P : Params) : Obj := { cls := Value.type "dict", data := Data.dict #[{ hash := PyData.keyHash P (Str.ofString "__name__"), key := Value.str (Str.ofString "__name__") 165, val := Value.str (Str.ofString "law_ij0029_01") 531 }, { hash := PyData.keyHash P (Str.ofString "__doc__"), key := Value.str (Str.ofString "__doc__") 166, val := Value.none }, { hash := PyData.keyHash P (Str.ofString "__package__"), key := Value.str (Str.ofString "__package__") 167, val := Value.none }, { hash := PyData.keyHash P (Str.ofString "__loader__"), key := Value.str (Str.ofString "__loader__") 168, val := Value.builtin "__main__.__loader__#opaque" }, { hash := PyData.keyHash P (Str.ofString "__spec__"), key := Value.str (Str.ofString "__spec__") 169, val := Value.none }, { hash := PyData.keyHash P (Str.ofString "__annotations__"), key := Value.str (Str.ofString "__annotations__") 170, val := Value.ref 6 }, { hash := PyData.keyHash P (Str.ofString "__builtins__"), key := Value.str (Str.ofString "__builtins__") 171, val := Value.ref 4 }, { hash := PyData.keyHash P (Str.ofString "__file__"), key := Value.str (Str.ofString "__file__") 173, val := Value.str (Str.ofString "/claim/cut.py") 172 }, { hash := PyData.keyHash P (Str.ofString "__cached__"), key := Value.str (Str.ofString "__cached__") 174, val := Value.none }, { hash := PyData.keyHash P (Str.ofString "_sre"), key := Value.str (Str.ofString "_sre") 275, val := Value.ref 12 }, { hash := PyData.keyHash P (Str.ofString "_build_localename"), key := Value.str (Str.ofString "_build_localename") 292, val := Value.ref 38 }, { hash := PyData.keyHash P (Str.ofString "_twin_re_1"), key := Value.str (Str.ofString "_twin_re_1") 332, val := Value.ref 43 }, { hash := PyData.keyHash P (Str.ofString "translate"), key := Value.str (Str.ofString "translate") 341, val := Value.ref 50 }, { hash := PyData.keyHash P (Str.ofString "_special_chars_map"), key := Value.str (Str.ofString "_special_chars_map") 489, val := Value.ref 52 }, { hash := PyData.keyHash P (Str.ofString "escape"), key := Value.str (Str.ofString "escape") 496, val := Value.ref 62 }, { hash := PyData.keyHash P (Str.ofString "_translate"), key := Value.str (Str.ofString "_translate") 517, val := Value.ref 69 }, { hash := PyData.keyHash P (Str.ofString "_join_translated_parts"), key := Value.str (Str.ofString "_join_translated_parts") 530, val := Value.ref 76 }, { hash := PyData.keyHash P (Str.ofString "_law_table"), key := Value.str (Str.ofString "_law_table") 538, val := Value.ref 83 }, { hash := PyData.keyHash P (Str.ofString "_law_numbers"), key := Value.str (Str.ofString "_law_numbers") 544, val := Value.ref 88 }, { hash := PyData.keyHash P (Str.ofString "_law_items"), key := Value.str (Str.ofString "_law_items") 553, val := Value.ref 95 }, { hash := PyData.keyHash P (Str.ofString "_law_word"), key := Value.str (Str.ofString "_law_word") 562, val := Value.ref 102 }, { hash := PyData.keyHash P (Str.ofString "_law_pattern"), key := Value.str (Str.ofString "_law_pattern") 568, val := Value.ref 107 }, { hash := PyData.keyHash P (Str.ofString "_law_means"), key := Value.str (Str.ofString "_law_means") 574, val := Value.ref 112 }, { hash := PyData.keyHash P (Str.ofString "_law_told"), key := Value.str (Str.ofString "_law_told") 584, val := Value.ref 119 }, { hash := PyData.keyHash P (Str.ofString "_law_item"), key := Value.str (Str.ofString "_law_item") 593, val := Value.ref 126 }, { hash := PyData.keyHash P (Str.ofString "_law_read"), key := Value.str (Str.ofString "_law_read") 606, val := Value.ref 133 }, { hash := PyData.keyHash P (Str.ofString "_law_fits"), key := Value.str (Str.ofString "_law_fits") 616, val := Value.ref 140 }, { hash := PyData.keyHash P (Str.ofString "_law_takes"), key := Value.str (Str.ofString "_law_takes") 627, val := Value.ref 147 }, { hash := PyData.keyHash P (Str.ofString "_law_parts"), key := Value.str (Str.ofString "_law_parts") 638, val := Value.ref 154 }, { hash := PyData.keyHash P (Str.ofString "_law_wish"), key := Value.str (Str.ofString "_law_wish") 652, val := Value.ref 161 }, { hash := PyData.keyHash P (Str.ofString "law"), key := Value.str (Str.ofString "law") 658, val := Value.ref 166 }] 31 }
noncomputable abbrev ob37 (P : Params) : Obj := { cls := Value.type "code", data := Data.fields #[Value.str (Str.ofString "_build_localename") 284, Value.str (Str.ofString "_build_localename") 285, Value.str (Str.ofString "/claim/cut.py") 286, Value.int 3 0, Value.int 1 0, Value.int 0 0, Value.int 0 0, Value.int 3 0, Value.ref 32, Value.bool true, Value.int 276 0, Value.ref 33, Value.none, Value.ref 34, Value.ref 35, Value.ref 36, Value.int 290 0, Value.int 3 0, Value.str (Str.ofString "/claim/cut.py") 291] }
noncomputable abbrev ob42 (P : Params) : Obj := { cls := Value.type "tuple", data := Data.seq #[Value.int 14 0, Value.int 14 0, Value.int 4 0, Value.int 1 0, Value.int 1 0, Value.int 9 0, Value.int 0 0, Value.int 64 0, Value.int 0 0, Value.int 1342177280 0, Value.int 0 0, Value.int 0 0, Value.int 0 0, Value.int 0 0, Value.int 0 0, Value.int 17 0, Value.int 0 0, Value.int 13 0, Value.int 11 0, Value.int 9 0, Value.int 0 0, Value.int 64 0, Value.int 0 0, Value.int 1342177280 0, Value.int 0 0, Value.int 0 0, Value.int 0 0, Value.int 0 0, Value.int 0 0, Value.int 17 0, Value.int 1 0, Value.int 1 0] }
noncomputable abbrev ob43 (P : Params) : Obj := { cls := Value.type "re.Pattern", data := Data.fields #[Value.str (Str.ofString "([&~|])") 296, Value.int 32 331, Value.int 1 0, Value.none, Value.none, Value.ref 42, Value.int 0 0] }
noncomputable abbrev ob49 (P : Params) : Obj := { cls := Value.type "code", data := Data.fields #[Value.str (Str.ofString "translate") 333, Value.str (Str.ofString "translate") 334, Value.str (Str.ofString "/claim/cut.py") 335, Value.int 16 0, Value.int 1 0, Value.int 0 0, Value.int 0 0, Value.int 3 0, Value.ref 44, Value.bool true, Value.int 276 0, Value.ref 45, Value.none, Value.ref 46, Value.ref 47, Value.ref 48, Value.int 339 0, Value.int 16 0, Value.str (Str.ofString "/claim/cut.py") 340] }
noncomputable abbrev ob52 (P : Params) : Obj := { cls := Value.type "dict", data := Data.dict #[{ hash := 40, key := Value.int 40 345, val := Value.str (Str.ofString "\\(") 349 }, { hash := 41, key := Value.int 41 351, val := Value.str (Str.ofString "\\)") 355 }, { hash := 91, key := Value.int 91 357, val := Value.str (Str.ofString "\\[") 361 }, { hash := 93, key := Value.int 93 363, val := Value.str (Str.ofString "\\]") 367 }, { hash := 123, key := Value.int 123 369, val := Value.str (Str.ofString "\\{") 373 }, { hash := 125, key := Value.int 125 375, val := Value.str (Str.ofString "\\}") 379 }, { hash := 63, key := Value.int 63 381, val := Value.str (Str.ofString "\\?") 385 }, { hash := 42, key := Value.int 42 387, val := Value.str (Str.ofString "\\*") 391 }, { hash := 43, key := Value.int 43 393, val := Value.str (Str.ofString "\\+") 397 }, { hash := 45, key := Value.int 45 399, val := Value.str (Str.ofString "\\-") 403 }, { hash := 124, key := Value.int 124 405, val := Value.str (Str.ofString "\\|") 409 }, { hash := 94, key := Value.int 94 411, val := Value.str (Str.ofString "\\^") 415 }, { hash := 36, key := Value.int 36 417, val := Value.str (Str.ofString "\\$") 421 }, { hash := 92, key := Value.int 92 423, val := Value.str (Str.ofString "\\\\") 427 }, { hash := 46, key := Value.int 46 429, val := Value.str (Str.ofString "\\.") 433 }, { hash := 38, key := Value.int 38 435, val := Value.str (Str.ofString "\\&") 439 }, { hash := 126, key := Value.int 126 441, val := Value.str (Str.ofString "\\~") 445 }, { hash := 35, key := Value.int 35 447, val := Value.str (Str.ofString "\\#") 451 }, { hash := 32, key := Value.int 32 453, val := Value.str (Str.ofString "\\ ") 457 }, { hash := 9, key := Value.int 9 459, val := Value.str (Str.ofString "\\\t") 463 }, { hash := 10, key := Value.int 10 465, val := Value.str (Str.ofString "\\\n") 469 }, { hash := 13, key := Value.int 13 471, val := Value.str (Str.ofString "\\\x0d") 475 }, { hash := 11, key := Value.int 11 477, val := Value.str (Str.ofString "\\\x0b") 481 }, { hash := 12, key := Value.int 12 483, val := Value.str (Str.ofString "\\\x0c") 487 }] 24 }
noncomputable abbrev ob61 (P : Params) : Obj := { cls := Value.type "code", data := Data.fields #[Value.str (Str.ofString "escape") 490, Value.str (Str.ofString "escape") 491, Value.str (Str.ofString "/claim/cut.py") 492, Value.int 22 0, Value.int 1 0, Value.int 0 0, Value.int 0 0, Value.int 3 0, Value.ref 56, Value.bool true, Value.int 276 0, Value.ref 57, Value.none, Value.ref 58, Value.ref 59, Value.ref 60, Value.int 494 0, Value.int 22 0, Value.str (Str.ofString "/claim/cut.py") 495] }
noncomputable abbrev ob68 (P : Params) : Obj := { cls := Value.type "code", data := Data.fields #[Value.str (Str.ofString "_translate") 499, Value.str (Str.ofString "_translate") 500, Value.str (Str.ofString "/claim/cut.py") 501, Value.int 29 0, Value.int 3 0, Value.int 0 0, Value.int 0 0, Value.int 3 0, Value.ref 63, Value.bool true, Value.int 276 0, Value.ref 64, Value.none, Value.ref 65, Value.ref 66, Value.ref 67, Value.int 515 0, Value.int 29 0, Value.str (Str.ofString "/claim/cut.py") 516] }
noncomputable abbrev ob75 (P : Params) : Obj := { cls := Value.type "code", data := Data.fields #[Value.str (Str.ofString "_join_translated_parts") 518, Value.str (Str.ofString "_join_translated_parts") 519, Value.str (Str.ofString "/claim/cut.py") 520, Value.int 91 0, Value.int 2 0, Value.int 0 0, Value.int 0 0, Value.int 3 0, Value.ref 70, Value.bool true, Value.int 276 0, Value.ref 71, Value.none, Value.ref 72, Value.ref 73, Value.ref 74, Value.int 528 0, Value.int 91 0, Value.str (Str.ofString "/claim/cut.py") 529] }
noncomputable abbrev ob82 (P : Params) : Obj := { cls := Value.type "code", data := Data.fields #[Value.str (Str.ofString "_law_table") 533, Value.str (Str.ofString "_law_table") 534, Value.str (Str.ofString "/claim/cut.py") 535, Value.int 119 0, Value.int 0 0, Value.int 0 0, Value.int 0 0, Value.int 3 0, Value.ref 77, Value.bool true, Value.int 276 0, Value.ref 78, Value.none, Value.ref 79, Value.ref 80, Value.ref 81, Value.int 536 0, Value.int 119 0, Value.str (Str.ofString "/claim/cut.py") 537] }
noncomputable abbrev ob87 (P : Params) : Obj := { cls := Value.type "code", data := Data.fields #[Value.str (Str.ofString "_law_numbers") 539, Value.str (Str.ofString "_law_numbers") 540, Value.str (Str.ofString "/claim/cut.py") 541, Value.int 121 0, Value.int 1 0, Value.int 0 0, Value.int 0 0, Value.int 3 0, Value.ref 84, Value.bool true, Value.int 276 0, Value.ref 85, Value.none, Value.none, Value.none, Value.ref 86, Value.int 542 0, Value.int 121 0, Value.str (Str.ofString "/claim/cut.py") 543] }
noncomputable abbrev ob94 (P : Params) : Obj := { cls := Value.type "code", data := Data.fields #[Value.str (Str.ofString "_law_items") 545, Value.str (Str.ofString "_law_items") 546, Value.str (Str.ofString "/claim/cut.py") 547, Value.int 125 0, Value.int 1 0, Value.int 0 0, Value.int 0 0, Value.int 3 0, Value.ref 89, Value.bool true, Value.int 276 0, Value.ref 90, Value.none, Value.ref 91, Value.ref 92, Value.ref 93, Value.int 551 0, Value.int 125 0, Value.str (Str.ofString "/claim/cut.py") 552] }
noncomputable abbrev ob101 (P : Params) : Obj := { cls := Value.type "code", data := Data.fields #[Value.str (Str.ofString "_law_word") 554, Value.str (Str.ofString "_law_word") 555, Value.str (Str.ofString "/claim/cut.py") 556, Value.int 131 0, Value.int 1 0, Value.int 0 0, Value.int 0 0, Value.int 3 0, Value.ref 96, Value.bool true, Value.int 276 0, Value.ref 97, Value.none, Value.ref 98, Value.ref 99, Value.ref 100, Value.int 560 0, Value.int 131 0, Value.str (Str.ofString "/claim/cut.py") 561] }
noncomputable abbrev ob106 (P : Params) : Obj := { cls := Value.type "code", data := Data.fields #[Value.str (Str.ofString "_law_pattern") 563, Value.str (Str.ofString "_law_pattern") 564, Value.str (Str.ofString "/claim/cut.py") 565, Value.int 137 0, Value.int 1 0, Value.int 0 0, Value.int 0 0, Value.int 3 0, Value.ref 103, Value.bool true, Value.int 276 0, Value.ref 104, Value.none, Value.none, Value.none, Value.ref 105, Value.int 566 0, Value.int 137 0, Value.str (Str.ofString "/claim/cut.py") 567] }
noncomputable abbrev ob111 (P : Params) : Obj := { cls := Value.type "code", data := Data.fields #[Value.str (Str.ofString "_law_means") 569, Value.str (Str.ofString "_law_means") 570, Value.str (Str.ofString "/claim/cut.py") 571, Value.int 141 0, Value.int 2 0, Value.int 0 0, Value.int 0 0, Value.int 3 0, Value.ref 108, Value.bool true, Value.int 276 0, Value.ref 109, Value.none, Value.none, Value.none, Value.ref 110, Value.int 572 0, Value.int 141 0, Value.str (Str.ofString "/claim/cut.py") 573] }
noncomputable abbrev ob118 (P : Params) : Obj := { cls := Value.type "code", data := Data.fields #[Value.str (Str.ofString "_law_told") 575, Value.str (Str.ofString "_law_told") 576, Value.str (Str.ofString "/claim/cut.py") 577, Value.int 151 0, Value.int 2 0, Value.int 0 0, Value.int 0 0, Value.int 3 0, Value.ref 113, Value.bool true, Value.int 276 0, Value.ref 114, Value.none, Value.ref 115, Value.ref 116, Value.ref 117, Value.int 582 0, Value.int 151 0, Value.str (Str.ofString "/claim/cut.py") 583] }
noncomputable abbrev ob125 (P : Params) : Obj := { cls := Value.type "code", data := Data.fields #[Value.str (Str.ofString "_law_item") 585, Value.str (Str.ofString "_law_item") 586, Value.str (Str.ofString "/claim/cut.py") 587, Value.int 160 0, Value.int 2 0, Value.int 0 0, Value.int 0 0, Value.int 3 0, Value.ref 120, Value.bool true, Value.int 276 0, Value.ref 121, Value.none, Value.ref 122, Value.ref 123, Value.ref 124, Value.int 591 0, Value.int 160 0, Value.str (Str.ofString "/claim/cut.py") 592] }
noncomputable abbrev ob132 (P : Params) : Obj := { cls := Value.type "code", data := Data.fields #[Value.str (Str.ofString "_law_read") 594, Value.str (Str.ofString "_law_read") 595, Value.str (Str.ofString "/claim/cut.py") 596, Value.int 176 0, Value.int 1 0, Value.int 0 0, Value.int 0 0, Value.int 3 0, Value.ref 127, Value.bool true, Value.int 276 0, Value.ref 128, Value.none, Value.ref 129, Value.ref 130, Value.ref 131, Value.int 604 0, Value.int 176 0, Value.str (Str.ofString "/claim/cut.py") 605] }
noncomputable abbrev ob139 (P : Params) : Obj := { cls := Value.type "code", data := Data.fields #[Value.str (Str.ofString "_law_fits") 607, Value.str (Str.ofString "_law_fits") 608, Value.str (Str.ofString "/claim/cut.py") 609, Value.int 198 0, Value.int 3 0, Value.int 0 0, Value.int 0 0, Value.int 3 0, Value.ref 134, Value.bool true, Value.int 276 0, Value.ref 135, Value.none, Value.ref 136, Value.ref 137, Value.ref 138, Value.int 614 0, Value.int 198 0, Value.str (Str.ofString "/claim/cut.py") 615] }
noncomputable abbrev ob146 (P : Params) : Obj := { cls := Value.type "code", data := Data.fields #[Value.str (Str.ofString "_law_takes") 617, Value.str (Str.ofString "_law_takes") 618, Value.str (Str.ofString "/claim/cut.py") 619, Value.int 205 0, Value.int 2 0, Value.int 0 0, Value.int 0 0, Value.int 3 0, Value.ref 141, Value.bool true, Value.int 276 0, Value.ref 142, Value.none, Value.ref 143, Value.ref 144, Value.ref 145, Value.int 625 0, Value.int 205 0, Value.str (Str.ofString "/claim/cut.py") 626] }
noncomputable abbrev ob153 (P : Params) : Obj := { cls := Value.type "code", data := Data.fields #[Value.str (Str.ofString "_law_parts") 628, Value.str (Str.ofString "_law_parts") 629, Value.str (Str.ofString "/claim/cut.py") 630, Value.int 219 0, Value.int 2 0, Value.int 0 0, Value.int 0 0, Value.int 3 0, Value.ref 148, Value.bool true, Value.int 276 0, Value.ref 149, Value.none, Value.ref 150, Value.ref 151, Value.ref 152, Value.int 636 0, Value.int 219 0, Value.str (Str.ofString "/claim/cut.py") 637] }
noncomputable abbrev ob160 (P : Params) : Obj := { cls := Value.type "code", data := Data.fields #[Value.str (Str.ofString "_law_wish") 639, Value.str (Str.ofString "_law_wish") 640, Value.str (Str.ofString "/claim/cut.py") 641, Value.int 227 0, Value.int 3 0, Value.int 0 0, Value.int 0 0, Value.int 3 0, Value.ref 155, Value.bool true, Value.int 276 0, Value.ref 156, Value.none, Value.ref 157, Value.ref 158, Value.ref 159, Value.int 650 0, Value.int 227 0, Value.str (Str.ofString "/claim/cut.py") 651] }
noncomputable abbrev ob165 (P : Params) : Obj := { cls := Value.type "code", data := Data.fields #[Value.str (Str.ofString "law") 653, Value.str (Str.ofString "law") 654, Value.str (Str.ofString "/claim/cut.py") 655, Value.int 239 0, Value.int 1 0, Value.int 0 0, Value.int 0 0, Value.int 3 0, Value.ref 162, Value.bool true, Value.int 276 0, Value.ref 163, Value.none, Value.none, Value.none, Value.ref 164, Value.int 656 0, Value.int 239 0, Value.str (Str.ofString "/claim/cut.py") 657] }
noncomputable def hK (P : Params) : Frag := [(3, ob3 P), (37, ob37 P), (38, fnO 2 "_build_localename" "cpy313.locale" 282 37), (42, ob42 P), (43, ob43 P), (49, ob49 P), (50, fnO 5 "translate" "cpy313.fnmatch" 293 49), (52, ob52 P), (61, ob61 P), (62, fnO 8 "escape" "re" 342 61), (68, ob68 P), (69, fnO 10 "_translate" "cpy313.fnmatch" 497 68), (75, ob75 P), (76, fnO 11 "_join_translated_parts" "cpy313.fnmatch" 497 75), (82, ob82 P), (83, fnO 13 "_law_table" "law_ij0029_01" 531 82), (87, ob87 P), (88, fnO 14 "_law_numbers" "law_ij0029_01" 531 87), (94, ob94 P), (95, fnO 15 "_law_items" "law_ij0029_01" 531 94), (101, ob101 P), (102, fnO 16 "_law_word" "law_ij0029_01" 531 101), (106, ob106 P), (107, fnO 17 "_law_pattern" "law_ij0029_01" 531 106), (111, ob111 P), (112, fnO 18 "_law_means" "law_ij0029_01" 531 111), (118, ob118 P), (119, fnO 19 "_law_told" "law_ij0029_01" 531 118), (125, ob125 P), (126, fnO 20 "_law_item" "law_ij0029_01" 531 125), (132, ob132 P), (133, fnO 21 "_law_read" "law_ij0029_01" 531 132), (139, ob139 P), (140, fnO 22 "_law_fits" "law_ij0029_01" 531 139), (146, ob146 P), (147, fnO 23 "_law_takes" "law_ij0029_01" 531 146), (153, ob153 P), (154, fnO 24 "_law_parts" "law_ij0029_01" 531 153), (160, ob160 P), (161, fnO 25 "_law_wish" "law_ij0029_01" 531 160), (165, ob165 P), (166, fnO 26 "law" "law_ij0029_01" 531 165)]
noncomputable abbrev aK : List Addr := [3, 37, 38, 42, 43, 49, 50, 52, 61, 62, 68, 69, 75, 76, 82, 83, 87, 88, 94, 95, 101, 102, 106, 107, 111, 112, 118, 119, 125, 126, 132, 133, 139, 140, 146, 147, 153, 154, 160, 161, 165, 166]
theorem hK_3 (P : Params) : (hK P).lookup 3 = some (ob3 P) := by kernel_rfl
theorem hK_37 (P : Params) : (hK P).lookup 37 = some (ob37 P) := by kernel_rfl
theorem hK_38 (P : Params) : (hK P).lookup 38 = some (fnO 2 "_build_localename" "cpy313.locale" 282 37) := by kernel_rfl
theorem hK_42 (P : Params) : (hK P).lookup 42 = some (ob42 P) := by kernel_rfl
theorem hK_43 (P : Params) : (hK P).lookup 43 = some (ob43 P) := by kernel_rfl
theorem hK_49 (P : Params) : (hK P).lookup 49 = some (ob49 P) := by kernel_rfl
theorem hK_50 (P : Params) : (hK P).lookup 50 = some (fnO 5 "translate" "cpy313.fnmatch" 293 49) := by kernel_rfl
theorem hK_52 (P : Params) : (hK P).lookup 52 = some (ob52 P) := by kernel_rfl
theorem hK_61 (P : Params) : (hK P).lookup 61 = some (ob61 P) := by kernel_rfl
theorem hK_62 (P : Params) : (hK P).lookup 62 = some (fnO 8 "escape" "re" 342 61) := by kernel_rfl
theorem hK_68 (P : Params) : (hK P).lookup 68 = some (ob68 P) := by kernel_rfl
theorem hK_69 (P : Params) : (hK P).lookup 69 = some (fnO 10 "_translate" "cpy313.fnmatch" 497 68) := by kernel_rfl
theorem hK_75 (P : Params) : (hK P).lookup 75 = some (ob75 P) := by kernel_rfl
theorem hK_76 (P : Params) : (hK P).lookup 76 = some (fnO 11 "_join_translated_parts" "cpy313.fnmatch" 497 75) := by kernel_rfl
theorem hK_82 (P : Params) : (hK P).lookup 82 = some (ob82 P) := by kernel_rfl
theorem hK_83 (P : Params) : (hK P).lookup 83 = some (fnO 13 "_law_table" "law_ij0029_01" 531 82) := by kernel_rfl
theorem hK_87 (P : Params) : (hK P).lookup 87 = some (ob87 P) := by kernel_rfl
theorem hK_88 (P : Params) : (hK P).lookup 88 = some (fnO 14 "_law_numbers" "law_ij0029_01" 531 87) := by kernel_rfl
theorem hK_94 (P : Params) : (hK P).lookup 94 = some (ob94 P) := by kernel_rfl
theorem hK_95 (P : Params) : (hK P).lookup 95 = some (fnO 15 "_law_items" "law_ij0029_01" 531 94) := by kernel_rfl
theorem hK_101 (P : Params) : (hK P).lookup 101 = some (ob101 P) := by kernel_rfl
theorem hK_102 (P : Params) : (hK P).lookup 102 = some (fnO 16 "_law_word" "law_ij0029_01" 531 101) := by kernel_rfl
theorem hK_106 (P : Params) : (hK P).lookup 106 = some (ob106 P) := by kernel_rfl
theorem hK_107 (P : Params) : (hK P).lookup 107 = some (fnO 17 "_law_pattern" "law_ij0029_01" 531 106) := by kernel_rfl
theorem hK_111 (P : Params) : (hK P).lookup 111 = some (ob111 P) := by kernel_rfl
theorem hK_112 (P : Params) : (hK P).lookup 112 = some (fnO 18 "_law_means" "law_ij0029_01" 531 111) := by kernel_rfl
theorem hK_118 (P : Params) : (hK P).lookup 118 = some (ob118 P) := by kernel_rfl
theorem hK_119 (P : Params) : (hK P).lookup 119 = some (fnO 19 "_law_told" "law_ij0029_01" 531 118) := by kernel_rfl
theorem hK_125 (P : Params) : (hK P).lookup 125 = some (ob125 P) := by kernel_rfl
theorem hK_126 (P : Params) : (hK P).lookup 126 = some (fnO 20 "_law_item" "law_ij0029_01" 531 125) := by kernel_rfl
theorem hK_132 (P : Params) : (hK P).lookup 132 = some (ob132 P) := by kernel_rfl
theorem hK_133 (P : Params) : (hK P).lookup 133 = some (fnO 21 "_law_read" "law_ij0029_01" 531 132) := by kernel_rfl
theorem hK_139 (P : Params) : (hK P).lookup 139 = some (ob139 P) := by kernel_rfl
theorem hK_140 (P : Params) : (hK P).lookup 140 = some (fnO 22 "_law_fits" "law_ij0029_01" 531 139) := by kernel_rfl
theorem hK_146 (P : Params) : (hK P).lookup 146 = some (ob146 P) := by kernel_rfl
theorem hK_147 (P : Params) : (hK P).lookup 147 = some (fnO 23 "_law_takes" "law_ij0029_01" 531 146) := by kernel_rfl
theorem hK_153 (P : Params) : (hK P).lookup 153 = some (ob153 P) := by kernel_rfl
theorem hK_154 (P : Params) : (hK P).lookup 154 = some (fnO 24 "_law_parts" "law_ij0029_01" 531 153) := by kernel_rfl
theorem hK_160 (P : Params) : (hK P).lookup 160 = some (ob160 P) := by kernel_rfl
theorem hK_161 (P : Params) : (hK P).lookup 161 = some (fnO 25 "_law_wish" "law_ij0029_01" 531 160) := by kernel_rfl
theorem hK_165 (P : Params) : (hK P).lookup 165 = some (ob165 P) := by kernel_rfl
theorem hK_166 (P : Params) : (hK P).lookup 166 = some (fnO 26 "law" "law_ij0029_01" 531 165) := by kernel_rfl
end Mine
end
section
set_option maxRecDepth 100000
namespace Mine
theorem aK_eq : ∀ P, aK = (hK P).map (·.1) := fun _ => by kernel_rfl
noncomputable abbrev hH : Hook := kmHook hK aK aK_eq [64]
noncomputable abbrev rW : RowW := OpenRow.toRowW (OpenLaw.row Challenge.rw_ij0029_01)
noncomputable abbrev lsK : List Str := [Str.ofString "_twin_re_1", Str.ofString "_special_chars_map"]
noncomputable def vq : Program := { rW.prog with main := { rW.prog.main with body := [0, 2, 4, 5, 7, 8, 10, 11, 13, 14, 15, 16, 17, 18, 19, 20, 21, 22, 23, 24, 25, 26].filterMap fun i => rW.prog.main.body[i]? } }
end Mine
end
section
set_option maxRecDepth 100000
namespace Mine
noncomputable abbrev xtK : Shared → Bool := fun s => xlAt vq [] s && recOk (RowW.records rW) s
noncomputable abbrev ranK (w : World) : Prop := (openEnds treeTable rW.prog w 4068).map (fun s => (openSeen vq lsK (importedModules rW.prog.main.body) xtK true s, hH.obs s)) = some (openGood vq lsK, hH.val w)
set_option maxHeartbeats 0
theorem said_ok : (Challenge.rw_ij0029_01).wellSaid = true := by kernel_rfl
noncomputable abbrev lawD : DefRec := ⟨Str.ofString "law", stArgs (stAt 26), stBody (stAt 26), stScope (stAt 26), ⟨239, 0, 246, 15⟩⟩
theorem def_ok : defOf vq (OpenLaw.row Challenge.rw_ij0029_01).name = some (lawD, []) := by kernel_rfl
theorem the_ok : (OpenLaw.row Challenge.rw_ij0029_01).prog.theDef (OpenLaw.row Challenge.rw_ij0029_01).name = some (lawD.params, lawD.body, lawD.scope) := by kernel_rfl
theorem kw_ok : kwWritten? lawD.params.kwonlyargs lawD.params.kw_defaults = some [] := by kernel_rfl
theorem open_ok : (chainsOk vq && opensWell (OpenLaw.row Challenge.rw_ij0029_01).prog && (frees (OpenRow.toRowW (OpenLaw.row Challenge.rw_ij0029_01)) && (OpenLaw.row Challenge.rw_ij0029_01).within.isEmpty)) = true := by decide +kernel
theorem bare_ok : (OpenLaw.row Challenge.rw_ij0029_01).prog.bare := ⟨rfl, rfl, rfl, rfl, rfl, by decide +kernel⟩
theorem lo_ff (w : World) : ranK ((w.withFollow "comprehension-iter-twice" false).withFollow "special-get-raises" false) := by kernel_rfl
theorem lo_ft (w : World) : ranK ((w.withFollow "comprehension-iter-twice" false).withFollow "special-get-raises" true) := by kernel_rfl
theorem lo_tf (w : World) : ranK ((w.withFollow "comprehension-iter-twice" true).withFollow "special-get-raises" false) := by kernel_rfl
theorem lo_tt (w : World) : ranK ((w.withFollow "comprehension-iter-twice" true).withFollow "special-get-raises" true) := by kernel_rfl
theorem lo_all : LeftO rW.prog vq lsK xtK hH.obs hH.val 4068 := fun w =>
  byRow2 "special-get-raises" (P := ranK) (fun w => byRow2 "comprehension-iter-twice" (P := fun w => ranK (w.withFollow "special-get-raises" false)) lo_ff lo_tf w)
    (fun w => byRow2 "comprehension-iter-twice" (P := fun w => ranK (w.withFollow "special-get-raises" true)) lo_ft lo_tt w) w
end Mine
end
section
namespace Mine
/-- abstract values -/
inductive AV where
  | none
  | bool (b : Bool)
  | int (i : Int)
  | str (s : List Nat)
  | tup (l : List AV)
  | lst (l : List AV)
  | rng (a b c : Int)
  | val (v : Value)
  | app (a : Addr)
  | fnc
noncomputable abbrev chars (s : String) : List Nat := s.toList.map Char.toNat
noncomputable abbrev AV.lit (s : String) : AV := .str (chars s)
noncomputable abbrev tupObj (items : Array Value) (n : Nat) : Obj := { cls := .type "tuple", dict := none, data := .seq items n, slots := #[] }
mutual
noncomputable def Cv (h : Heap) (F : Addr → Prop) : AV → Value → Prop
  | .none, v => v = .none
  | .bool b, v => v = .bool b
  | .int i, v => ∃ t, v = .int i t
  | .str s, v => ∃ t, v = .str ⟨s.toArray⟩ t
  | .tup l, v => ∃ a items n, v = .ref a ∧ F a ∧ h.get? a = some (tupObj items n) ∧ CvL h F l items.toList
  | .lst l, v => ∃ a items, v = .ref a ∧ F a ∧ h.IsList a items ∧ CvL h F l items.toList
  | .rng a b c, v => ∃ r t u x, v = .ref r ∧ F r ∧ IsRange h r a b c t u x
  | .val w, v => v = w
  | .app a, v => ∃ q, v = .ref q ∧ F q ∧ h.get? q = some { cls := .type "builtin_function_or_method", data := .fields #[.builtin "list.append", .ref a] }
  | .fnc, v => ∃ q o, v = .ref q ∧ F q ∧ h.get? q = some o ∧ o.cls = .type "function"
noncomputable def CvL (h : Heap) (F : Addr → Prop) : List AV → List Value → Prop
  | [], vs => vs = []
  | x :: xs, vs => ∃ v r, vs = v :: r ∧ Cv h F x v ∧ CvL h F xs r
end
section
variable {h h' : Heap} {F F' : Addr → Prop}
theorem CvL.length : ∀ {l : List AV} {vs : List Value}, CvL h F l vs → l.length = vs.length
  | [], _, e => by rw [CvL] at e; subst e; rfl
  | _ :: _, _, e => by
    rw [CvL] at e
    obtain ⟨v, r, rfl, _, e⟩ := e
    simp [CvL.length e]
theorem IsList.at2 {a : Addr} {its : Array Value} (x : h.IsList a its) (e : ∀ o, h.get? a = some o → h'.get? a = some o) : h'.IsList a its :=
  let ⟨o, ho, r⟩ := x; ⟨o, e _ ho, r⟩
mutual
theorem Cv.mono (hF : ∀ b, F b → F' b) (hk : ∀ b o, F b → h.get? b = some o → h'.get? b = some o) : ∀ {x : AV} {v : Value}, Cv h F x v → Cv h' F' x v
  | .none, _, e => by rw [Cv] at e ⊢; exact e
  | .bool _, _, e => by rw [Cv] at e ⊢; exact e
  | .int _, _, e => by rw [Cv] at e ⊢; exact e
  | .str _, _, e => by rw [Cv] at e ⊢; exact e
  | .val _, _, e => by rw [Cv] at e ⊢; exact e
  | .tup l, _, e => by
    rw [Cv] at e ⊢
    obtain ⟨a, its, n, e1, e2, e3, e4⟩ := e
    exact ⟨a, its, n, e1, hF _ e2, hk _ _ e2 e3, CvL.mono hF hk e4⟩
  | .lst l, _, e => by
    rw [Cv] at e ⊢
    obtain ⟨a, its, e1, e2, e3, e4⟩ := e
    exact ⟨a, its, e1, hF _ e2, IsList.at2 e3 fun o => hk a o e2, CvL.mono hF hk e4⟩
  | .rng _ _ _, _, e => by
    rw [Cv] at e ⊢
    obtain ⟨r, t, u, x, e1, e2, e3⟩ := e
    exact ⟨r, t, u, x, e1, hF _ e2, hk _ _ e2 e3⟩
  | .app _, _, e => by
    rw [Cv] at e ⊢
    obtain ⟨q, e1, e2, e3⟩ := e
    exact ⟨q, e1, hF _ e2, hk _ _ e2 e3⟩
  | .fnc, _, e => by
    rw [Cv] at e ⊢
    obtain ⟨q, o, e1, e2, e3, e4⟩ := e
    exact ⟨q, o, e1, hF _ e2, hk _ _ e2 e3, e4⟩
theorem CvL.mono (hF : ∀ b, F b → F' b) (hk : ∀ b o, F b → h.get? b = some o → h'.get? b = some o) : ∀ {l : List AV} {vs : List Value}, CvL h F l vs → CvL h' F' l vs
  | [], _, e => by rw [CvL] at e ⊢; exact e
  | _ :: _, _, e => by
    rw [CvL] at e ⊢
    obtain ⟨v, r, e1, e2, e3⟩ := e
    exact ⟨v, r, e1, Cv.mono hF hk e2, CvL.mono hF hk e3⟩
end
theorem CvL.nil : CvL h F [] [] := by rw [CvL]
theorem CvL.cons {x : AV} {v : Value} {l : List AV} {vs : List Value} (a : Cv h F x v) (b : CvL h F l vs) : CvL h F (x :: l) (v :: vs) := by
  rw [CvL]; exact ⟨v, vs, rfl, a, b⟩
theorem CvL.append : ∀ {l l' : List AV} {vs vs' : List Value}, CvL h F l vs → CvL h F l' vs' → CvL h F (l ++ l') (vs ++ vs')
  | [], _, _, _, a, b => by rw [CvL] at a; subst a; exact b
  | _ :: _, _, _, _, a, b => by
    rw [CvL] at a
    obtain ⟨v, r, rfl, e2, e3⟩ := a
    exact CvL.cons e2 (CvL.append e3 b)
theorem CvL.get : ∀ {l : List AV} {vs : List Value}, CvL h F l vs → ∀ {i : Nat} {x : AV}, l[i]? = some x → ∃ v, vs[i]? = some v ∧ Cv h F x v
  | [], _, _, i, x, e => by simp at e
  | y :: ys, _, a, i, x, e => by
    rw [CvL] at a
    obtain ⟨v, r, rfl, e2, e3⟩ := a
    cases i with
    | zero => simp at e; subst e; exact ⟨v, rfl, e2⟩
    | succ i =>
      simp at e
      obtain ⟨w, hw, cw⟩ := CvL.get e3 e
      exact ⟨w, by simpa using hw, cw⟩
theorem CvL.drop : ∀ {l : List AV} {vs : List Value} (n : Nat), CvL h F l vs → CvL h F (l.drop n) (vs.drop n)
  | _, _, 0, a => by simpa using a
  | [], _, n + 1, a => by rw [CvL] at a; subst a; simp [CvL.nil]
  | _ :: _, _, n + 1, a => by
    rw [CvL] at a
    obtain ⟨v, r, rfl, e2, e3⟩ := a
    simpa using CvL.drop n e3
theorem CvL.take : ∀ {l : List AV} {vs : List Value} (n : Nat), CvL h F l vs → CvL h F (l.take n) (vs.take n)
  | _, _, 0, a => by simp [CvL.nil]
  | [], _, n + 1, a => by rw [CvL] at a; subst a; simp [CvL.nil]
  | _ :: _, _, n + 1, a => by
    rw [CvL] at a
    obtain ⟨v, r, rfl, e2, e3⟩ := a
    simpa using CvL.cons e2 (CvL.take n e3)
theorem CvL.set : ∀ {l : List AV} {vs : List Value} (n : Nat) {x : AV} {v : Value}, CvL h F l vs → Cv h F x v → CvL h F (l.set n x) (vs.set n v)
  | [], _, n, _, _, a, _ => by rw [CvL] at a; subst a; simp [CvL.nil]
  | _ :: _, _, 0, _, _, a, b => by
    rw [CvL] at a
    obtain ⟨v, r, rfl, e2, e3⟩ := a
    exact CvL.cons b e3
  | _ :: _, _, n + 1, _, _, a, b => by
    rw [CvL] at a
    obtain ⟨v, r, rfl, e2, e3⟩ := a
    simpa using CvL.cons e2 (CvL.set n e3 b)
theorem CvL.eraseIdx : ∀ {l : List AV} {vs : List Value} (n : Nat), CvL h F l vs → CvL h F (l.eraseIdx n) (vs.eraseIdx n)
  | [], _, n, a => by rw [CvL] at a; subst a; simp [CvL.nil]
  | _ :: _, _, 0, a => by
    rw [CvL] at a
    obtain ⟨v, r, rfl, e2, e3⟩ := a
    simpa using e3
  | _ :: _, _, n + 1, a => by
    rw [CvL] at a
    obtain ⟨v, r, rfl, e2, e3⟩ := a
    simpa using CvL.cons e2 (CvL.eraseIdx n e3)
end
/-- the world of a run: what stood when the call began, without the one code table that may grow -/
structure Wd where
  prog : Program
  w : World
  h0 : Heap
  P : Addr
  /-- what is known of the table -/
  tabOk : Heap → (Addr → Prop) → Array Value → Prop
  tabKeep : ∀ {h h' : Heap} {F F' : Addr → Prop} {ps : Array Value}, tabOk h F ps → (∀ b, F b → F' b) → (∀ b o, F b → h.get? b = some o → h'.get? b = some o) → tabOk h' F' ps
  nolimit : h0.NoLimit
  mg : Str → Option Value
  g : h0.Ns mainGlobals mg
  mb : Str → Option Value
  b : h0.Ns builtinsNs mb
noncomputable abbrev Wd.M (W : Wd) : Model := model W.prog W.w
structure St (W : Wd) (s : Shared) (F : Addr → Prop) : Prop where
  old : ∀ b o, W.h0.get? b = some o → F b ∧ s.heap.get? b = some o
  ex : ∀ b, F b → ∃ o, s.heap.get? b = some o
  notP : ¬ F W.P
  tab : ∃ ps, s.heap.get? W.P = some (tabObj ps) ∧ W.tabOk s.heap F ps
  bare : AllBare s.gens
structure Step (W : Wd) (q : Bool) (s : Shared) (F : Addr → Prop) (s' : Shared) (F' : Addr → Prop) : Prop where
  keep : ∀ b o, (q = true ∨ b ≠ W.P) → s.heap.get? b = some o → s'.heap.get? b = some o
  sub : ∀ b, F b → F' b
  new : ∀ b, F' b → F b ∨ s.heap.get? b = none
  os : s'.os = s.os
  drawn : s'.drawn = s.drawn
  gens : q = true → s'.gens = s.gens
theorem Step.refl {W : Wd} {q : Bool} {s : Shared} {F : Addr → Prop} : Step W q s F s F :=
  ⟨fun _ _ _ e => e, fun _ e => e, fun _ e => .inl e, rfl, rfl, fun _ => rfl⟩
theorem Step.trans {W : Wd} {q : Bool} {s s' s'' : Shared} {F F' F'' : Addr → Prop} (hP' : ¬ F'' W.P) (a : Step W q s F s' F') (b : Step W q s' F' s'' F'') : Step W q s F s'' F'' where
  keep := fun x o hx e => b.keep x o hx (a.keep x o hx e)
  sub := fun x e => b.sub x (a.sub x e)
  new := fun x e => by
    rcases b.new x e with e1 | e1
    · exact a.new x e1
    · refine .inr ?_
      cases hx : s.heap.get? x with
      | none => rfl
      | some o =>
        by_cases hP2 : x = W.P
        · exact absurd (hP2 ▸ e) hP'
        · rw [a.keep x o (.inr hP2) hx] at e1; cases e1
  os := b.os.trans a.os
  drawn := b.drawn.trans a.drawn
  gens := fun hq => (b.gens hq).trans (a.gens hq)
theorem Step.weaken {W : Wd} {q : Bool} {s s' : Shared} {F F' : Addr → Prop} (a : Step W true s F s' F') : Step W q s F s' F' :=
  ⟨fun b o _ e => a.keep b o (.inl rfl) e, a.sub, a.new, a.os, a.drawn, fun _ => a.gens rfl⟩
theorem Step.weaken' {W : Wd} {q q' : Bool} {s s' : Shared} {F F' : Addr → Prop} (h : q' = true → q = true) (a : Step W q s F s' F') : Step W q' s F s' F' :=
  ⟨fun b o e => a.keep b o (e.imp h id), a.sub, a.new, a.os, a.drawn, fun e => a.gens (h e)⟩
theorem St.step {W : Wd} {s s' : Shared} {F F' : Addr → Prop} (S : St W s F) (a : Step W true s F s' F') (hnew : ∀ b, F' b → ∃ o, s'.heap.get? b = some o) : St W s' F' where
  old := fun b o e => ⟨a.sub b (S.old b o e).1, a.keep b o (.inl rfl) (S.old b o e).2⟩
  ex := hnew
  notP := fun e => by
    rcases a.new _ e with e1 | e1
    · exact S.notP e1
    · obtain ⟨ps, e2, _⟩ := S.tab; rw [e1] at e2; cases e2
  tab := let ⟨ps, e, ok⟩ := S.tab; ⟨ps, a.keep _ _ (.inl rfl) e, W.tabKeep ok a.sub fun b o _ e => a.keep b o (.inl rfl) e⟩
  bare := by rw [a.gens rfl]; exact S.bare
theorem Step.keeps {W : Wd} {s s' : Shared} {F : Addr → Prop} (k : Keeps s s') : Step W true s F s' F := by
  obtain ⟨h', tk, rfl, k⟩ := k
  exact ⟨fun b o _ e => k b o e, fun _ e => e, fun _ e => .inl e, rfl, rfl, fun _ => rfl⟩
theorem St.keeps {W : Wd} {s s' : Shared} {F : Addr → Prop} (S : St W s F) (k : Keeps s s') : St W s' F := by
  refine S.step (Step.keeps k) fun b e => ?_
  obtain ⟨o, ho⟩ := S.ex b e
  obtain ⟨h', tk, rfl, k⟩ := k
  exact ⟨o, k b o ho⟩
structure Tmp where
  vals : List (Value × AV)
  prot : List (Addr × Obj)
  kept : List (Addr × Obj)
structure Cx where
  W : Wd
  A : Around
  env : Env
  names : List Str
  gl : List Str
  cells : List (Str × Addr)
  s₀ : Shared
  F₀ : Addr → Prop
  st₀ : St W s₀ F₀
  q : Bool
  lvl : Nat
  handled : A.handled = none
  room : A.depth + lvl < recursionLimit
  kind : env.scope.kind = .function
  globals : env.globals = mainGlobals
  builtins : env.builtins = builtinsNs
  nodup : names.Nodup
  nk : ∀ x ∈ names, env.kindOf x = some .local ∧ (x == ("__debug__" : Str)) = false
  gk : ∀ x ∈ gl, env.kindOf x = some .globalImplicit ∧ (x == ("__debug__" : Str)) = false
  ck : ∀ x ∈ cells, env.kindOf x.1 = some .cell ∧ env.cells.lookup x.1 = some x.2 ∧ (x.1 == ("__debug__" : Str)) = false
structure AS where
  loc : List (Option AV)
  cel : List (Option AV)
  mem : List (Addr × List AV)
noncomputable abbrev owned (c : Cx) (a : AS) (t : Tmp) : List Addr := a.mem.map (·.1) ++ (t.prot.map (·.1) ++ (c.env.locals :: c.cells.map (·.2)))
noncomputable def LocOK (h : Heap) (F : Addr → Prop) (names : List Str) (loc : List (Option AV)) (m : Str → Option Value) : Prop :=
  ∀ (i : Nat) (x : Str) (av : AV), names[i]? = some x → loc[i]? = some (some av) → ∃ v, m x = some v ∧ Cv h F av v
noncomputable def CelOK (h : Heap) (F : Addr → Prop) (cells : List (Str × Addr)) (cel : List (Option AV)) : Prop :=
  ∀ (i : Nat) (x : Str × Addr), cells[i]? = some x → ∃ ov, h.IsCell x.2 ov ∧ ∀ av, cel[i]? = some (some av) → ∃ v, ov = some v ∧ Cv h F av v
noncomputable abbrev lstObj (items : Array Value) (n : Nat) : Obj := { cls := .type "list", dict := none, data := .seq items n, slots := #[] }
noncomputable def MemOK (h : Heap) (F : Addr → Prop) (x : Addr × List AV) : Prop := ∃ items n, h.get? x.1 = some (lstObj items n) ∧ CvL h F x.2 items.toList
structure AtF (c : Cx) (a : AS) (t : Tmp) (s : Shared) (F : Addr → Prop) : Prop where
  st : St c.W s F
  step : Step c.W c.q c.s₀ c.F₀ s F
  nod : (owned c a t).Nodup
  own : ∀ b ∈ owned c a t, ¬ F b ∧ c.s₀.heap.get? b = none ∧ b ≠ c.W.P
  ns : ∃ m, s.heap.Ns c.env.locals m ∧ LocOK s.heap F c.names a.loc m
  cel : CelOK s.heap F c.cells a.cel
  mem : ∀ x ∈ a.mem, MemOK s.heap F x
  prot : ∀ x ∈ t.prot, s.heap.get? x.1 = some x.2
  vals : ∀ x ∈ t.vals, Cv s.heap F x.2 x.1
  kept : ∀ x ∈ t.kept, F x.1 ∧ s.heap.get? x.1 = some x.2
section
variable {c : Cx} {a : AS} {t : Tmp} {s s' : Shared} {F F' : Addr → Prop}
theorem AtF.exists_owned (H : AtF c a t s F) : ∀ b ∈ owned c a t, ∃ o, s.heap.get? b = some o := by
  intro b hb
  rcases List.mem_append.mp hb with h | h
  · obtain ⟨x, hx, rfl⟩ := List.mem_map.mp h
    obtain ⟨its, n, ho, _⟩ := H.mem x hx
    exact ⟨_, ho⟩
  rcases List.mem_append.mp h with h | h
  · obtain ⟨x, hx, rfl⟩ := List.mem_map.mp h
    exact ⟨_, H.prot x hx⟩
  rcases List.mem_cons.mp h with rfl | h
  · obtain ⟨m, ⟨o, es, ep, ho, _⟩, _⟩ := H.ns; exact ⟨o, ho⟩
  · obtain ⟨x, hx, rfl⟩ := List.mem_map.mp h
    obtain ⟨i, hi, rfl⟩ := List.getElem_of_mem hx
    obtain ⟨ov, ⟨o, ho, _⟩, _⟩ := H.cel i _ (List.getElem?_eq_getElem hi)
    exact ⟨o, ho⟩
/-- a step of the world under which all that is owned stays -/
theorem AtF.next (H : AtF c a t s F) (S' : St c.W s' F') (hs : Step c.W c.q s F s' F') : AtF c a t s' F' := by
  have kown : ∀ b ∈ owned c a t, ∀ o, s.heap.get? b = some o → s'.heap.get? b = some o := fun b hb o e => hs.keep b o (.inr (H.own b hb).2.2) e
  have kF : ∀ b o, F b → s.heap.get? b = some o → s'.heap.get? b = some o := fun b o hb e => hs.keep b o (.inr fun q => H.st.notP (q ▸ hb)) e
  have up : ∀ {x v}, Cv s.heap F x v → Cv s'.heap F' x v := fun e => Cv.mono hs.sub kF e
  have upL : ∀ {x v}, CvL s.heap F x v → CvL s'.heap F' x v := fun e => CvL.mono hs.sub kF e
  refine ⟨S', Step.trans S'.notP H.step hs, H.nod, fun b hb => ⟨fun e => ?_, (H.own b hb).2⟩, ?_, ?_, ?_, ?_, ?_, ?_⟩
  · rcases hs.new b e with e1 | e1
    · exact (H.own b hb).1 e1
    · obtain ⟨o, ho⟩ := H.exists_owned b hb
      rw [ho] at e1; cases e1
  · obtain ⟨m, hn, hl⟩ := H.ns
    refine ⟨m, hn.at' fun o e => kown _ (by simp [owned]) o e, fun i x av e1 e2 => ?_⟩
    obtain ⟨v, e3, e4⟩ := hl i x av e1 e2
    exact ⟨v, e3, up e4⟩
  · intro i x e
    obtain ⟨ov, ⟨o, ho, hd⟩, hc⟩ := H.cel i x e
    have hm : x.2 ∈ owned c a t := by
      have := List.mem_of_getElem? e
      simp only [owned, List.mem_append, List.mem_cons, List.mem_map]
      exact .inr (.inr (.inr ⟨x, this, rfl⟩))
    refine ⟨ov, ⟨o, kown _ hm o ho, hd⟩, fun av e2 => ?_⟩
    obtain ⟨v, e3, e4⟩ := hc av e2
    exact ⟨v, e3, up e4⟩
  · intro x hx
    obtain ⟨its, n, ho, hc⟩ := H.mem x hx
    have hm : x.1 ∈ owned c a t := by simp only [owned, List.mem_append, List.mem_map]; exact .inl ⟨x, hx, rfl⟩
    exact ⟨its, n, kown _ hm _ ho, upL hc⟩
  · intro x hx
    exact kown _ (by simp only [owned, List.mem_append, List.mem_map]; exact .inr (.inl ⟨x, hx, rfl⟩)) _ (H.prot x hx)
  · intro x hx
    exact up (H.vals x hx)
  · intro x hx
    have q := H.kept x hx
    exact ⟨hs.sub _ q.1, kF _ _ q.1 q.2⟩
end
section
variable {c : Cx} {a : AS} {t : Tmp} {s s' : Shared} {F F' : Addr → Prop}
theorem AtF.keeps (H : AtF c a t s F) (k : Keeps s s') : AtF c a t s' F :=
  H.next (H.st.keeps k) (Step.weaken (Step.keeps k))
/-- one more address is frozen: an object that is nobody's -/
theorem Step.freeze {W : Wd} {F : Addr → Prop} {n : Addr} {h' : Heap} {tk : Nat} (hn : s.heap.get? n = none) (hk : ∀ b o, s.heap.get? b = some o → h'.get? b = some o) :
    Step W true s F { s with heap := h', toks := tk } (fun b => F b ∨ b = n) :=
  ⟨fun b o _ e => hk b o e, fun _ e => .inl e, fun b e => e.elim .inl (fun (q : b = n) => .inr (by rw [q]; exact hn)), rfl, rfl, fun _ => rfl⟩
theorem AtF.freeze (H : AtF c a t s F) {n : Addr} {o : Obj} {h' : Heap} {tk : Nat} (hn : s.heap.get? n = none) (hk : ∀ b o, s.heap.get? b = some o → h'.get? b = some o) (ho : h'.get? n = some o) :
    AtF c a t { s with heap := h', toks := tk } (fun b => F b ∨ b = n) := by
  have st := Step.freeze (W := c.W) (F := F) (tk := tk) hn hk
  refine H.next (H.st.step st fun b e => ?_) (Step.weaken st)
  rcases e with e | rfl
  · obtain ⟨o', ho'⟩ := H.st.ex b e; exact ⟨o', hk b o' ho'⟩
  · exact ⟨o, ho⟩
theorem AtF.cv_next {x : AV} {v : Value} (H : AtF c a t s F) (hs : Step c.W c.q s F s' F') (e : Cv s.heap F x v) : Cv s'.heap F' x v :=
  Cv.mono hs.sub (fun b o hb e => hs.keep b o (.inr fun q => H.st.notP (q ▸ hb)) e) e
/-- a change at one owned address -/
theorem AtF.same' (H : AtF c a t s F) {p : Addr} {h' : Heap} {tk : Nat} (hp : p ∈ owned c a t) (hs : Heap.ExtBut p s.heap h') {a' : AS} {t' : Tmp}
    (ho : (owned c a' t').Nodup ∧ ∀ b ∈ owned c a' t', b ∈ owned c a t) (hns : ∃ m, h'.Ns c.env.locals m ∧ LocOK h' F c.names a'.loc m) (hcel : CelOK h' F c.cells a'.cel) (hmem : ∀ x ∈ a'.mem, MemOK h' F x) (hprot : ∀ x ∈ t'.prot, h'.get? x.1 = some x.2)
    (hvals : t'.vals = t.vals) (hkept : t'.kept = t.kept) : AtF c a' t' { s with heap := h', toks := tk } F := by
  have np := H.own p hp
  have keepF : ∀ b o, F b → s.heap.get? b = some o → h'.get? b = some o := fun b o hb e => hs b o (fun q => np.1 (q ▸ hb)) e
  refine ⟨⟨fun b o e => ?_, fun b e => ?_, H.st.notP, ?_, H.st.bare⟩, ⟨fun b o hx e => ?_, H.step.sub, H.step.new, H.step.os, H.step.drawn, H.step.gens⟩, ho.1, fun b hb => H.own b (ho.2 b hb), hns, hcel, hmem, hprot, fun x hx => ?_, fun x hx => ?_⟩
  · have q := H.st.old b o e; exact ⟨q.1, keepF b o q.1 q.2⟩
  · obtain ⟨o, q⟩ := H.st.ex b e; exact ⟨o, keepF b o e q⟩
  · obtain ⟨ps, e, ok⟩ := H.st.tab
    refine ⟨ps, hs _ _ (Ne.symm np.2.2) e, ?_⟩
    exact c.W.tabKeep ok (fun _ e => e) keepF
  · have q := H.step.keep b o hx e
    exact hs b o (fun q' => by rw [q', np.2.1] at e; cases e) q
  · rw [hvals] at hx
    exact Cv.mono (fun _ e => e) keepF (H.vals x hx)
  · rw [hkept] at hx
    have q := H.kept x hx
    exact ⟨q.1, keepF _ _ q.1 q.2⟩
theorem AtF.same (H : AtF c a t s F) {p : Addr} {h' : Heap} {tk : Nat} (hp : p ∈ owned c a t) (hs : Heap.ExtBut p s.heap h') {a' : AS} {t' : Tmp}
    (ho : owned c a' t' = owned c a t) (hns : ∃ m, h'.Ns c.env.locals m ∧ LocOK h' F c.names a'.loc m) (hcel : CelOK h' F c.cells a'.cel) (hmem : ∀ x ∈ a'.mem, MemOK h' F x) (hprot : ∀ x ∈ t'.prot, h'.get? x.1 = some x.2)
    (hvals : t'.vals = t.vals) (hkept : t'.kept = t.kept) : AtF c a' t' { s with heap := h', toks := tk } F :=
  H.same' hp hs ⟨ho ▸ H.nod, fun b hb => ho ▸ hb⟩ hns hcel hmem hprot hvals hkept
end
end Mine
end
section
namespace Mine
noncomputable abbrev FE : Value → Shared → Prop := fun _ _ => False
/-- what a value leaves behind -/
noncomputable abbrev Post (c : Cx) (t : Tmp) (K : AV → AS → Prop) : Value → Shared → Prop :=
  fun v s' => ∃ x a' F', AtF c a' t s' F' ∧ Cv s'.heap F' x v ∧ K x a'
noncomputable def TE (c : Cx) (a : AS) (e : Expr) (K : AV → AS → Prop) : Prop :=
  ∀ t s F, AtF c a t s F → wpAny c.W.M c.A (eval e c.env) (Post c t K) FE s
noncomputable def TB (c : Cx) (a : AS) (e : Expr) (K : Bool → AS → Prop) : Prop :=
  ∀ t s F, AtF c a t s F → wpAny c.W.M c.A (isTrue e c.env (eval e c.env)) (fun b s' => ∃ a' F', AtF c a' t s' F' ∧ K b a') FE s
noncomputable def T1 (c : Cx) (a : AS) (x : AV) (f : Value → Sem Value) (K : AV → AS → Prop) : Prop :=
  ∀ t s F v, AtF c a t s F → Cv s.heap F x v → wpAny c.W.M c.A (f v) (Post c t K) FE s
noncomputable def T2 (c : Cx) (a : AS) (x y : AV) (f : Value → Value → Sem Value) (K : AV → AS → Prop) : Prop :=
  ∀ t s F u v, AtF c a t s F → Cv s.heap F x u → Cv s.heap F y v → wpAny c.W.M c.A (f u v) (Post c t K) FE s
noncomputable def TU (c : Cx) (a : AS) (x : AV) (f : Value → Sem Unit) (K : AS → Prop) : Prop :=
  ∀ t s F v, AtF c a t s F → Cv s.heap F x v → wpAny c.W.M c.A (f v) (fun _ s' => ∃ a' F', AtF c a' t s' F' ∧ K a') FE s
inductive AFl where
  | next | brk | cont
  | ret (x : AV)
noncomputable def CvF (h : Heap) (F : Addr → Prop) : AFl → Flow → Prop
  | .next, f => f = .next
  | .brk, f => f = .brk
  | .cont, f => f = .cont
  | .ret x, f => ∃ v, f = .ret v ∧ Cv h F x v
noncomputable abbrev PostF (c : Cx) (t : Tmp) (K : AFl → AS → Prop) : Flow → Shared → Prop :=
  fun f s' => ∃ x a' F', AtF c a' t s' F' ∧ CvF s'.heap F' x f ∧ K x a'
noncomputable def TS (c : Cx) (a : AS) (st : Stmt) (K : AFl → AS → Prop) : Prop :=
  ∀ t s F, AtF c a t s F → wpAny c.W.M c.A (exec st c.env) (PostF c t K) FE s
noncomputable def TSs (c : Cx) (a : AS) (sts : List Stmt) (K : AFl → AS → Prop) : Prop :=
  ∀ t s F, AtF c a t s F → wpAny c.W.M c.A (execs sts c.env) (PostF c t K) FE s
section
variable {c : Cx} {a : AS} {K : AV → AS → Prop} {s : Shared} {t : Tmp} {F : Addr → Prop}
theorem fe_elim {α : Type} {Q : α → Prop} {e : Value} {s : Shared} : FE e s → (∀ x, Q x) := fun h => h.elim
theorem wp_mono {α : Type} {M : Model} {A : Around} {tr : Sem α} {Q Q' : α → Shared → Prop} {s : Shared} (h : wpAny M A tr Q FE s) (k : ∀ x s', Q x s' → Q' x s') {E : Value → Shared → Prop} : wpAny M A tr Q' E s :=
  wpAny_mono h k fun _ _ e => e.elim
theorem wp_post {M : Model} {A : Around} {tr : Sem Value} {Q' : Value → Shared → Prop} {c : Cx} {t : Tmp} {K : AV → AS → Prop} {s : Shared} (h : wpAny M A tr (Post c t K) FE s) (k : ∀ v s' x a' F', AtF c a' t s' F' → Cv s'.heap F' x v → K x a' → Q' v s') {E : Value → Shared → Prop} : wpAny M A tr Q' E s :=
  wp_mono h fun v s' ⟨x, a', F', h1, h2, h3⟩ => k v s' x a' F' h1 h2 h3
theorem wp_postF {M : Model} {A : Around} {tr : Sem Flow} {Q' : Flow → Shared → Prop} {c : Cx} {t : Tmp} {K : AFl → AS → Prop} {s : Shared} (h : wpAny M A tr (PostF c t K) FE s) (k : ∀ v s' x a' F', AtF c a' t s' F' → CvF s'.heap F' x v → K x a' → Q' v s') {E : Value → Shared → Prop} : wpAny M A tr Q' E s :=
  wp_mono h fun v s' ⟨x, a', F', h1, h2, h3⟩ => k v s' x a' F' h1 h2 h3
theorem wp_pb {α : Type} {M : Model} {A : Around} {tr : Sem α} {Q' : α → Shared → Prop} {c : Cx} {t : Tmp} {K : α → AS → Prop} {s : Shared} (h : wpAny M A tr (fun b s' => ∃ a' F', AtF c a' t s' F' ∧ K b a') FE s) (k : ∀ b s' a' F', AtF c a' t s' F' → K b a' → Q' b s') {E : Value → Shared → Prop} : wpAny M A tr Q' E s :=
  wp_mono h fun b s' ⟨a', F', h1, h2⟩ => k b s' a' F' h1 h2
theorem AtF.toks (H : AtF c a t s F) (k : Nat) : AtF c a t { s with toks := k } F := H.keeps ⟨s.heap, k, rfl, fun _ _ e => e⟩
theorem AtF.push (H : AtF c a t s F) (o : Obj) (k : Nat) : AtF c a t { s with heap := s.heap.push o, toks := k } F := H.keeps ⟨_, k, rfl, fun _ _ e => Heap.get?_push_of_some _ e⟩
theorem AtF.pushVal (H : AtF c a t s F) {x : AV} {v : Value} (e : Cv s.heap F x v) : AtF c a ⟨(v, x) :: t.vals, t.prot, t.kept⟩ s F :=
  { H with vals := fun y hy => by rcases List.mem_cons.mp hy with rfl | hy; exact e; exact H.vals y hy }
theorem AtF.popVal {x : AV} {v : Value} (H : AtF c a ⟨(v, x) :: t.vals, t.prot, t.kept⟩ s F) : AtF c a t s F ∧ Cv s.heap F x v :=
  ⟨{ H with vals := fun y hy => H.vals y (List.mem_cons_of_mem _ hy) }, H.vals _ (List.mem_cons_self ..)⟩
theorem TE.mono {e : Expr} {K' : AV → AS → Prop} (h : TE c a e K) (k : ∀ x a', K x a' → K' x a') : TE c a e K' := fun t s F H =>
  wp_mono (h t s F H) fun _ _ ⟨x, a', F', h1, h2, h3⟩ => ⟨x, a', F', h1, h2, k _ _ h3⟩
/-! constants -/
theorem te_none {k pos} (h : K .none a) : TE c a (.Constant .none k pos) K := fun t s F H =>
  wpAny_Constant_none ⟨.none, a, F, H, by rw [Cv], h⟩
theorem te_bool {b k pos} (h : K (.bool b) a) : TE c a (.Constant (.bool b) k pos) K := fun t s F H =>
  wpAny_Constant_bool ⟨.bool b, a, F, H, by rw [Cv], h⟩
theorem te_int {i k pos} (h : K (.int i) a) : TE c a (.Constant (.int i) k pos) K := fun t s F H =>
  wpAny_Constant_int ⟨.int i, a, F, H.toks _, by rw [Cv]; exact ⟨_, rfl⟩, h⟩
theorem te_str {x : String} {k pos} (h : K (AV.lit x) a) : TE c a (.Constant (.str (Str.ofString x)) k pos) K := fun t s F H =>
  wpAny_Constant_str ⟨AV.lit x, a, F, H.toks _, by rw [Cv]; exact ⟨_, by rw [Str.ofString_eq_toList]⟩, h⟩
/-! names -/
theorem te_loc {x : Str} {pos : Pos} (i : Nat) {av : AV} (hx : c.names[i]? = some x) (hv : a.loc[i]? = some (some av)) (h : K av a) : TE c a (.Name x pos) K := fun t s F H => by
  obtain ⟨m, hn, hl⟩ := H.ns
  obtain ⟨v, e1, e2⟩ := hl i x av hx hv
  have q := c.nk x (List.mem_of_getElem? hx)
  exact wpAny_Name (wpAny_loadName_local c.kind q.1 hn e1 ⟨av, a, F, H, e2, h⟩) q.2
theorem te_cel {x : Str} {pos : Pos} (i : Nat) {ca : Addr} {av : AV} (hx : c.cells[i]? = some (x, ca)) (hv : a.cel[i]? = some (some av)) (h : K av a) : TE c a (.Name x pos) K := fun t s F H => by
  obtain ⟨ov, hc, hl⟩ := H.cel i _ hx
  obtain ⟨v, rfl, e2⟩ := hl av hv
  have q := c.ck _ (List.mem_of_getElem? hx)
  exact wpAny_Name (wpAny_loadName_cell c.kind q.1 q.2.1 hc ⟨av, a, F, H, e2, h⟩) q.2.2
/-- a global name's value -/
noncomputable def Gv (W : Wd) (x : Str) (v : Value) : Prop := W.mg x = some v ∨ (W.mg x = none ∧ W.mb x = some v)
theorem te_glob {x : Str} {pos : Pos} {v : Value} (hx : x ∈ c.gl) (hv : Gv c.W x v) (h : K (.val v) a) : TE c a (.Name x pos) K := fun t s F H => by
  have q := c.gk x hx
  have hg : s.heap.Ns c.env.globals c.W.mg := by rw [c.globals]; exact c.W.g.keeps fun b o e => (H.st.old b o e).2
  have hb : s.heap.Ns c.env.builtins c.W.mb := by rw [c.builtins]; exact c.W.b.keeps fun b o e => (H.st.old b o e).2
  refine Calls.Name_function_global c.kind q.1 ?_ q.2
  rcases hv with e | ⟨e1, e2⟩
  · exact Calls.loadGlobal_global hg e ⟨.val v, a, F, H, by rw [Cv], h⟩
  · exact Calls.loadGlobal_builtin hg e1 hb e2 ⟨.val v, a, F, H, by rw [Cv], h⟩
/-- a name of the block around, read in a block of its own -/
structure FreeOK (c : Cx) (x : Str) (av : AV) : Prop where
  kind : c.env.kindOf x = some .cell
  dbg : (x == ("__debug__" : Str)) = false
  at' : ∃ ca v, c.env.cells.lookup x = some ca ∧ c.s₀.heap.IsCell ca (some v) ∧ Cv c.s₀.heap c.F₀ av v ∧ ca ≠ c.W.P
theorem te_free {x : Str} {pos : Pos} {av : AV} (hx : FreeOK c x av) (h : K av a) : TE c a (.Name x pos) K := fun t s F H => by
  obtain ⟨ca, v, e1, ⟨o, ho, hd⟩, e3, e4⟩ := hx.at'
  refine wpAny_Name (wpAny_loadName_cell c.kind hx.kind e1 ⟨o, H.step.keep _ _ (.inr e4) ho, hd⟩ ⟨av, a, F, H, ?_, h⟩) hx.dbg
  exact Cv.mono H.step.sub (fun b o hb e => H.step.keep b o (.inr fun q => c.st₀.notP (q ▸ hb)) e) e3
/-! operators -/
theorem te_bin {l op r pos} (h : TE c a l (fun x a1 => TE c a1 r (fun y a2 => T2 c a2 x y (binaryOp op) K))) : TE c a (.BinOp l op r pos) K := fun t s F H =>
  wpAny_BinOp (wp_post (h t s F H) fun u s1 x a1 F1 H1 cx k1 => wp_post (k1 _ s1 F1 (H1.pushVal cx)) fun v s2 y a2 F2 H2 cy k2 =>
    wp_mono (k2 t s2 F2 u v H2.popVal.1 H2.popVal.2 cy) fun _ _ p => p)
theorem te_cmp {l op r pos} (h : TE c a l (fun x a1 => TE c a1 r (fun y a2 => T2 c a2 x y (compareOp op) K))) (hm : behindInMarks op r = false := by with_unfolding_all rfl) : TE c a (.Compare l [op] [r] pos) K := fun t s F H =>
  wpAny_Compare1 (wp_post (h t s F H) fun u s1 x a1 F1 H1 cx k1 => wp_post (k1 _ s1 F1 (H1.pushVal cx)) fun v s2 y a2 F2 H2 cy k2 =>
    wp_mono (k2 t s2 F2 u v H2.popVal.1 H2.popVal.2 cy) fun _ _ p => p) hm
noncomputable def Tt (c : Cx) (a : AS) (x : AV) (K : Bool → AS → Prop) : Prop :=
  ∀ t s F v, AtF c a t s F → Cv s.heap F x v → wpAny c.W.M c.A (truthy v) (fun b s' => ∃ a' F', AtF c a' t s' F' ∧ K b a') FE s
theorem tt_bool {b : Bool} {K : Bool → AS → Prop} (h : K b a) : Tt c a (.bool b) K := fun t s F v H e => by
  rw [Cv] at e; subst e
  exact wpAny_truthy_bool ⟨a, F, H, h⟩
theorem tb_cmp {l op r pos} {K : Bool → AS → Prop} (h : TE c a l (fun x a1 => TE c a1 r (fun y a2 => T2 c a2 x y (compareOp op) (fun z a3 => Tt c a3 z K)))) (hm : behindInMarks op r = false := by with_unfolding_all rfl) : TB c a (.Compare l [op] [r] pos) K := fun t s F H =>
  wpAny_isTrue_Compare1 (wp_post (h t s F H) fun u s1 x a1 F1 H1 cx k1 => wp_post (k1 _ s1 F1 (H1.pushVal cx)) fun v s2 y a2 F2 H2 cy k2 =>
    wp_post (k2 t s2 F2 u v H2.popVal.1 H2.popVal.2 cy) fun _ _ z a3 F3 H3 cz k3 => k3 t _ F3 _ H3 cz) hm
end
end Mine
end
section
namespace Mine
section
variable {c : Cx} {a : AS} {K : AV → AS → Prop}
theorem t2_int {f : Value → Value → Sem Value} {i j r : Int} (h : K (.int r) a)
    (op : ∀ (s : Shared) (t1 t2 : Tok) (Q : Value → Shared → Prop), Q (.int r s.toks) { s with toks := s.toks + 1 } → wpAny c.W.M c.A (f (.int i t1) (.int j t2)) Q FE s) : T2 c a (.int i) (.int j) f K := by
  intro t s F u v H cx cy
  rw [Cv] at cx cy
  obtain ⟨t1, rfl⟩ := cx; obtain ⟨t2, rfl⟩ := cy
  exact op s t1 t2 _ ⟨.int r, a, F, H.toks _, by rw [Cv]; exact ⟨_, rfl⟩, h⟩
theorem t2_intb {f : Value → Value → Sem Value} {i j : Int} {r : Bool} (h : K (.bool r) a)
    (op : ∀ (s : Shared) (t1 t2 : Tok) (Q : Value → Shared → Prop), Q (.bool r) s → wpAny c.W.M c.A (f (.int i t1) (.int j t2)) Q FE s) : T2 c a (.int i) (.int j) f K := by
  intro t s F u v H cx cy
  rw [Cv] at cx cy
  obtain ⟨t1, rfl⟩ := cx; obtain ⟨t2, rfl⟩ := cy
  exact op s t1 t2 _ ⟨.bool r, a, F, H, by rw [Cv], h⟩
theorem op_add {i j : Int} (h : K (.int (i + j)) a) : T2 c a (.int i) (.int j) (binaryOp .Add) K := t2_int h fun s t1 t2 Q q => PyProof.Rows.add_int q
theorem op_sub {i j : Int} (h : K (.int (i - j)) a) : T2 c a (.int i) (.int j) (binaryOp .Sub) K := t2_int h fun s t1 t2 Q q => PyProof.Rows.sub_int q
theorem op_mod {i j : Int} (hj : j ≠ 0) (h : K (.int (i.fmod j)) a) : T2 c a (.int i) (.int j) (binaryOp .Mod) K := t2_int h fun s t1 t2 Q q => PyProof.Rows.mod_int hj q
theorem op_div {i j : Int} (hj : j ≠ 0) (hs : j.natAbs < 1073741824) (h : K (.int (i.fdiv j)) a) : T2 c a (.int i) (.int j) (binaryOp .FloorDiv) K := t2_int h fun s t1 t2 Q q => PyProof.Rows.floordiv_int hj q (.inl (PyProof.noPylong_small hs))
theorem op_pow {i j : Int} (h0 : 0 ≤ j) (h1 : j ≤ 1000000) (h2 : i.natAbs < 2 ^ 64) (h : K (.int (i ^ j.toNat)) a) : T2 c a (.int i) (.int j) (binaryOp .Pow) K := t2_int h fun s t1 t2 Q q => PyProof.Rows.pow_int_small h0 h1 h2 q
theorem op_iadd {i j : Int} (h : K (.int (i + j)) a) : T2 c a (.int i) (.int j) (inplaceOp .Add) K := t2_int h fun s t1 t2 Q q => PyProof.Rows.iadd_int q
theorem op_lt {i j : Int} (h : K (.bool (decide (i < j))) a) : T2 c a (.int i) (.int j) (compareOp .Lt) K := t2_intb h fun s t1 t2 Q q => PyProof.Rows.lt_int q
theorem op_le {i j : Int} (h : K (.bool (decide (i ≤ j))) a) : T2 c a (.int i) (.int j) (compareOp .LtE) K := t2_intb h fun s t1 t2 Q q => PyProof.Rows.le_int q
theorem op_gt {i j : Int} (h : K (.bool (decide (j < i))) a) : T2 c a (.int i) (.int j) (compareOp .Gt) K := t2_intb h fun s t1 t2 Q q => PyProof.Rows.gt_int q
theorem op_ge {i j : Int} (h : K (.bool (decide (j ≤ i))) a) : T2 c a (.int i) (.int j) (compareOp .GtE) K := t2_intb h fun s t1 t2 Q q => PyProof.Rows.ge_int q
theorem op_eq {i j : Int} (h : K (.bool (decide (i = j))) a) : T2 c a (.int i) (.int j) (compareOp .Eq) K := t2_intb h fun s t1 t2 Q q => PyProof.Rows.eq_int (by rw [show (i == j) = decide (i = j) from rfl]; exact q)
theorem op_ne {i j : Int} (h : K (.bool (decide (i ≠ j))) a) : T2 c a (.int i) (.int j) (compareOp .NotEq) K := t2_intb h fun s t1 t2 Q q => PyProof.Rows.ne_int (by
  have e : (i != j) = decide (i ≠ j) := by by_cases h : i = j <;> simp [h]
  rw [e]; exact q)
/-! bools -/
theorem t2_bool {f : Value → Value → Sem Value} {i j r : Bool} (h : K (.bool r) a)
    (op : ∀ (s : Shared) (Q : Value → Shared → Prop), Q (.bool r) s → wpAny c.W.M c.A (f (.bool i) (.bool j)) Q FE s) : T2 c a (.bool i) (.bool j) f K := by
  intro t s F u v H cx cy
  rw [Cv] at cx cy; subst cx; subst cy
  exact op s _ ⟨.bool r, a, F, H, by rw [Cv], h⟩
theorem op_eqb {i j : Bool} (h : K (.bool (i == j)) a) : T2 c a (.bool i) (.bool j) (compareOp .Eq) K := t2_bool h fun s Q q => PyProof.Rows.eq_bool q
theorem op_neb {i j : Bool} (h : K (.bool (i != j)) a) : T2 c a (.bool i) (.bool j) (compareOp .NotEq) K := t2_bool h fun s Q q => PyProof.Rows.ne_bool q
/-! strs -/
theorem t2_strb {f : Value → Value → Sem Value} {x y : List Nat} {r : Bool} (h : K (.bool r) a)
    (op : ∀ (s : Shared) (t1 t2 : Tok) (Q : Value → Shared → Prop), Q (.bool r) s → wpAny c.W.M c.A (f (.str ⟨x.toArray⟩ t1) (.str ⟨y.toArray⟩ t2)) Q FE s) : T2 c a (.str x) (.str y) f K := by
  intro t s F u v H cx cy
  rw [Cv] at cx cy
  obtain ⟨t1, rfl⟩ := cx; obtain ⟨t2, rfl⟩ := cy
  exact op s t1 t2 _ ⟨.bool r, a, F, H, by rw [Cv], h⟩
theorem op_eqs {x y : List Nat} (h : K (.bool (x == y)) a) : T2 c a (.str x) (.str y) (compareOp .Eq) K := t2_strb h fun s t1 t2 Q q => PySem.P.eq_str q
theorem op_nes {x y : List Nat} (h : K (.bool (x != y)) a) : T2 c a (.str x) (.str y) (compareOp .NotEq) K := t2_strb h fun s t1 t2 Q q => PySem.P.ne_str q
theorem op_gts {x y : List Nat} (h : K (.bool (decide (y < x))) a) : T2 c a (.str x) (.str y) (compareOp .Gt) K := t2_strb h fun s t1 t2 Q q => PySem.P.gt_str q
theorem op_in1 {y : Nat} {x : List Nat} (h : K (.bool (decide (y ∈ x))) a) : T2 c a (.str [y]) (.str x) (compareOp .In) K := t2_strb h fun s t1 t2 Q q => PySem.P.in_str (by
  have e := PySem.StrLaws.found_one ⟨x.toArray⟩ y
  rw [show ([y] : List Nat).toArray = #[y] from rfl, e]; exact q)
theorem op_notin1 {y : Nat} {x : List Nat} (h : K (.bool (!decide (y ∈ x))) a) : T2 c a (.str [y]) (.str x) (compareOp .NotIn) K := t2_strb h fun s t1 t2 Q q => PySem.P.notIn_str (by
  have e := PySem.StrLaws.found_one ⟨x.toArray⟩ y
  rw [show ([y] : List Nat).toArray = #[y] from rfl, e]; exact q)
theorem op_adds {x y : List Nat} (hsz : x.length + y.length ≤ 1000000) (h : K (.str (x ++ y)) a) : T2 c a (.str x) (.str y) (binaryOp .Add) K := by
  intro t s F u v H cx cy
  rw [Cv] at cx cy
  obtain ⟨t1, rfl⟩ := cx; obtain ⟨t2, rfl⟩ := cy
  refine PyProof.Rows.add_str (fun t' tk => ⟨.str (x ++ y), a, F, H.toks _, by rw [Cv]; exact ⟨t', by show (Value.str ⟨x.toArray ++ y.toArray⟩ t') = _; rw [List.append_toArray]⟩, h⟩) ?_
  show x.toArray.size + y.toArray.size ≤ sizeLine
  rw [sizeLine_eq]; simp; omega
/-! is -/
theorem op_is_none {x : AV} {r : Bool} (hr : ∀ h F v, Cv h F x v → (v == Value.none) = r) (h : K (.bool r) a) : T2 c a x .none (compareOp .Is) K := by
  intro t s F u v H cx cy
  have e := hr _ _ _ cx
  rw [Cv] at cy; subst cy
  exact is_none (by rw [e]; exact ⟨.bool r, a, F, H, by rw [Cv], h⟩)
theorem op_isnot_none {x : AV} {r : Bool} (hr : ∀ h F v, Cv h F x v → (v == Value.none) = r) (h : K (.bool (!r)) a) : T2 c a x .none (compareOp .IsNot) K := by
  intro t s F u v H cx cy
  have e := hr _ _ _ cx
  rw [Cv] at cy; subst cy
  exact isNot_none (by rw [e]; exact ⟨.bool (!r), a, F, H, by rw [Cv], h⟩)
noncomputable def AV.isNone : AV → Bool
  | .none => true
  | .val v => v == .none
  | _ => false
theorem cv_none {h : Heap} {F : Addr → Prop} : ∀ {x : AV} {v : Value}, Cv h F x v → (v == Value.none) = x.isNone
  | .none, _, e => by unfold Cv at e; subst e; rfl
  | .bool _, _, e => by rw [Cv] at e; subst e; rfl
  | .int _, _, e => by rw [Cv] at e; obtain ⟨t, rfl⟩ := e; rfl
  | .str _, _, e => by rw [Cv] at e; obtain ⟨t, rfl⟩ := e; rfl
  | .val _, _, e => by rw [Cv] at e; subst e; rfl
  | .tup _, _, e => by rw [Cv] at e; obtain ⟨p, _, _, rfl, _⟩ := e; rfl
  | .lst _, _, e => by rw [Cv] at e; obtain ⟨p, _, rfl, _⟩ := e; rfl
  | .rng _ _ _, _, e => by rw [Cv] at e; obtain ⟨p, _, _, _, rfl, _⟩ := e; rfl
  | .app _, _, e => by rw [Cv] at e; obtain ⟨p, rfl, _⟩ := e; rfl
  | .fnc, _, e => by rw [Cv] at e; obtain ⟨p, o, rfl, _⟩ := e; rfl
theorem op_isN {x : AV} (h : K (.bool x.isNone) a) : T2 c a x .none (compareOp .Is) K := op_is_none (fun _ _ _ => cv_none) h
theorem op_isnotN {x : AV} (h : K (.bool (!x.isNone)) a) : T2 c a x .none (compareOp .IsNot) K := op_isnot_none (fun _ _ _ => cv_none) h
/-- is not: a str against an object -/
theorem op_isnot_strref {x : List Nat} {p : Addr} (h : K (.bool true) a) : T2 c a (.str x) (.val (.ref p)) (compareOp .IsNot) K := by
  intro t s F u v H cx cy
  rw [Cv] at cx; rw [Cv] at cy; subst cy
  obtain ⟨t1, rfl⟩ := cx
  refine wpAny_isNot_other (by rfl) (fun e => by cases e) ⟨.bool true, a, F, H, by rw [Cv], h⟩
theorem op_isnot_self {p : Addr} (h : K (.bool false) a) : T2 c a (.val (.ref p)) (.val (.ref p)) (compareOp .IsNot) K := by
  intro t s F u v H cx cy
  rw [Cv] at cx; rw [Cv] at cy; subst cx; subst cy
  exact wpAny_isNot_ref_self ⟨.bool false, a, F, H, by rw [Cv], h⟩
theorem op_is_self {p : Addr} (h : K (.bool true) a) : T2 c a (.val (.ref p)) (.val (.ref p)) (compareOp .Is) K := by
  intro t s F u v H cx cy
  rw [Cv] at cx; rw [Cv] at cy; subst cx; subst cy
  exact wpAny_is_ref_self ⟨.bool true, a, F, H, by rw [Cv], h⟩
end
end Mine
end
section
namespace Mine
noncomputable def noStar : Expr → Bool
  | .Starred .. => false
  | _ => true
theorem starEach_cons {e : Expr} {es : List Expr} {env : Env} (h : noStar e = true) : starEach (e :: es) env = (false, eval e env) :: starEach es env := by
  cases e <;> first | rfl | cases h
noncomputable def TL (c : Cx) : AS → List Expr → (List AV → AS → Prop) → Prop
  | a, [], K => K [] a
  | a, e :: es, K => TE c a e (fun x a1 => TL c a1 es (fun xs a2 => K (x :: xs) a2))
section
variable {c : Cx} {a : AS} {K : AV → AS → Prop}
theorem TL.sound : ∀ {es : List Expr} {a : AS} {K : List AV → AS → Prop}, (es.all noStar = true) → TL c a es K → ∀ (pos : Pos) t s F, AtF c a t s F →
    wpAny c.W.M c.A (spliced (backTo pos (starEach es c.env))) (fun vs s' => ∃ xs a' F', AtF c a' t s' F' ∧ CvL s'.heap F' xs vs ∧ K xs a') FE s
  | [], a, K, _, h, pos, t, s, F, H => Calls.spliced_nil ⟨[], a, F, H, CvL.nil, h⟩
  | e :: es, a, K, hs, h, pos, t, s, F, H => by
    rw [List.all_cons, Bool.and_eq_true] at hs
    rw [starEach_cons hs.1]
    refine Calls.spliced_cons (wp_post (h t s F H) fun v s1 x a1 F1 H1 cx k1 => ?_)
    refine wp_mono (TL.sound hs.2 k1 pos ⟨(v, x) :: t.vals, t.prot, t.kept⟩ s1 F1 (H1.pushVal cx)) fun vs s2 ⟨xs, a2, F2, H2, cxs, k2⟩ => ?_
    exact ⟨x :: xs, a2, F2, H2.popVal.1, CvL.cons H2.popVal.2 cxs, k2⟩
theorem sizeLine_big : (16777216 : Nat) = sizeLine := by rw [sizeLine_eq]
/-- a new object of our own -/
theorem AtF.newMem {t : Tmp} {s : Shared} {F : Addr → Prop} (H : AtF c a t s F) {xs : List AV} {vs : List Value} (hc : CvL s.heap F xs vs) :
    AtF c { a with mem := (s.heap.objs.size, xs) :: a.mem } t { s with heap := s.heap.push { cls := .type "list", data := .seq vs.toArray } } F := by
  have hn : s.heap.get? s.heap.objs.size = none := Heap.get?_none_of_le (Nat.le_refl _)
  have H1 : AtF c a t { s with heap := s.heap.push { cls := .type "list", data := .seq vs.toArray } } F := H.keeps ⟨_, s.toks, rfl, fun _ _ e => Heap.get?_push_of_some _ e⟩
  have hno : s.heap.objs.size ∉ owned c a t := fun h => by
    obtain ⟨o, ho⟩ := H.exists_owned _ h
    rw [ho] at hn; cases hn
  have hP : s.heap.objs.size ≠ c.W.P := fun e => by
    obtain ⟨ps, e1, _⟩ := H.st.tab
    rw [← e, hn] at e1; cases e1
  refine { H1 with nod := ?_, own := ?_, mem := ?_ }
  · show (s.heap.objs.size :: owned c a t).Nodup
    exact List.nodup_cons.mpr ⟨hno, H.nod⟩
  · intro b hb
    rcases List.mem_cons.mp (show b ∈ s.heap.objs.size :: owned c a t from hb) with rfl | hb
    · refine ⟨fun e => ?_, ?_, hP⟩
      · obtain ⟨o, ho⟩ := H.st.ex _ e; rw [ho] at hn; cases hn
      · cases e : c.s₀.heap.get? s.heap.objs.size with
        | none => rfl
        | some o => rw [H.step.keep _ o (.inr hP) e] at hn; cases hn
    · exact H1.own b hb
  · intro x hx
    rcases List.mem_cons.mp hx with rfl | hx
    · exact ⟨vs.toArray, _, Heap.get?_push_size _ rfl, by
        simpa using CvL.mono (fun _ e => e) (fun b o _ e => Heap.get?_push_of_some _ e) hc⟩
    · exact H1.mem x hx
theorem te_listF {es : List Expr} {pos : Pos} (h : TL c a es (fun xs a' => xs.length ≤ 1000 ∧ K (.lst xs) a')) (hs : es.all noStar = true := by rfl) : TE c a (.List es pos) K := fun t s F H => by
  refine wpAny_List (wp_mono (TL.sound hs h pos t s F H) fun vs s1 ⟨xs, a1, F1, H1, cx, hl, k1⟩ => ⟨by rw [← cx.length, sizeLine_eq]; omega, ?_⟩)
  have hn : s1.heap.get? s1.heap.objs.size = none := Heap.get?_none_of_le (Nat.le_refl _)
  refine ⟨.lst xs, a1, _, H1.freeze (tk := s1.toks) hn (fun b o e => Heap.get?_push_of_some _ e) (Heap.get?_push_size _ rfl), ?_, k1⟩
  rw [Cv]
  exact ⟨_, vs.toArray, rfl, .inr rfl, ⟨_, Heap.get?_push_size _ rfl, rfl, _, rfl⟩, by simpa using CvL.mono (fun _ e => .inl e) (fun b o _ e => Heap.get?_push_of_some _ e) cx⟩
theorem te_listM {es : List Expr} {pos : Pos} (h : TL c a es (fun xs a' => xs.length ≤ 1000 ∧ ∀ p, (∀ x ∈ a'.mem, x.1 ≠ p) → K (.val (.ref p)) { a' with mem := (p, xs) :: a'.mem })) (hs : es.all noStar = true := by rfl) : TE c a (.List es pos) K := fun t s F H => by
  refine wpAny_List (wp_mono (TL.sound hs h pos t s F H) fun vs s1 ⟨xs, a1, F1, H1, cx, hl, k1⟩ => ⟨by rw [← cx.length, sizeLine_eq]; omega, ?_⟩)
  refine ⟨.val (.ref s1.heap.objs.size), _, F1, H1.newMem cx, by rw [Cv], k1 _ fun x hx e => ?_⟩
  obtain ⟨o, ho⟩ := H1.exists_owned x.1 (by simp only [owned, List.mem_append, List.mem_map]; exact .inl ⟨x, hx, rfl⟩)
  rw [e, Heap.get?_none_of_le (Nat.le_refl _)] at ho; cases ho
theorem te_tup {es : List Expr} {k : Nat} {pos : Pos} (h : TL c a es (fun xs a' => xs.length ≤ 1000 ∧ K (.tup xs) a')) (hs : es.all noStar = true := by rfl) : TE c a (.Tuple es k pos) K := fun t s F H => by
  refine wpAny_Tuple (wp_mono (TL.sound hs h pos t s F H) fun vs s1 ⟨xs, a1, F1, H1, cx, hl, k1⟩ => ⟨by rw [← cx.length, sizeLine_eq]; omega, ?_⟩)
  have hn : s1.heap.get? s1.heap.objs.size = none := Heap.get?_none_of_le (Nat.le_refl _)
  refine ⟨.tup xs, a1, _, H1.freeze (tk := s1.toks) hn (fun b o e => Heap.get?_push_of_some _ e) (Heap.get?_push_size _ rfl), ?_, k1⟩
  rw [Cv]
  exact ⟨_, vs.toArray, _, rfl, .inr rfl, Heap.get?_push_size _ rfl, by simpa using CvL.mono (fun _ e => .inl e) (fun b o _ e => Heap.get?_push_of_some _ e) cx⟩
/-! items -/
theorem te_sub {value slice : Expr} {pos : Pos} (h : TE c a value (fun x a1 => TE c a1 slice (fun y a2 => T2 c a2 x y (subscriptTail value slice) K))) : TE c a (.Subscript value slice pos) K := fun t s F H =>
  Subscript_ (wp_post (h t s F H) fun u s1 x a1 F1 H1 cx k1 => wp_post (k1 _ s1 F1 (H1.pushVal cx)) fun v s2 y a2 F2 H2 cy k2 =>
    wp_mono (k2 t s2 F2 u v H2.popVal.1 H2.popVal.2 cy) fun _ _ p => p)
noncomputable abbrev Plain (slice : Expr) : Prop := ∀ o i, subscripted slice false o i = operate [o, i] (getItem o i)
theorem getList {s : Shared} {F : Addr → Prop} {p : Addr} {its : Array Value} {l : List AV} {k : Int} {u : Tok} {x : AV} {A : Around} {Q : Value → Shared → Prop} (hl : s.heap.IsList p its) (hc : CvL s.heap F l its.toList)
    (hk : seqIndex? k l.length = some j) (hf : -(2 ^ 62) ≤ k ∧ k < 2 ^ 62) (hx : l[j]? = some x) (h : ∀ v, Cv s.heap F x v → Q v s) : wpAny c.W.M A (getItem (.ref p) (.int k u)) Q FE s := by
  obtain ⟨v, hv, cv⟩ := hc.get hx
  have hlen : l.length = its.size := by have := hc.length; simpa using this
  rw [Array.getElem?_toList] at hv
  by_cases h0 : k < 0
  · have e : seqIndex? k l.length = if (decide (0 ≤ k + (l.length : Int)) && decide (k + (l.length : Int) < (l.length : Int))) = true then some (k + (l.length : Int)).toNat else none := by
      unfold seqIndex?; rw [if_pos h0]
    rw [e] at hk
    split at hk
    · rename_i hb
      simp only [Bool.and_eq_true, decide_eq_true_eq] at hb
      have hk := Option.some.inj hk
      subst hk
      exact wpAny_getItem_list_neg hl h0 (by omega) (by omega) (by rw [← hlen]; exact hv) (h v cv)
    · cases hk
  · have e : seqIndex? k l.length = if (decide (0 ≤ k) && decide (k < (l.length : Int))) = true then some k.toNat else none := by
      unfold seqIndex?; rw [if_neg h0]
    rw [e] at hk
    split at hk
    · rename_i hb
      simp only [Bool.and_eq_true, decide_eq_true_eq] at hb
      have hk := Option.some.inj hk
      subst hk
      exact wpAny_getItem_list hl (by omega) (by omega) hv (h v cv)
    · cases hk
theorem sub_lst {value slice : Expr} {l : List AV} {k : Int} {x : AV} (j : Nat) (hk : seqIndex? k l.length = some j) (hx : l[j]? = some x) (h : K x a) (hf : -(2 ^ 62) ≤ k ∧ k < 2 ^ 62 := by omega) (hs : Plain slice := by intro _ _; rfl) :
    T2 c a (.lst l) (.int k) (subscriptTail value slice) K := by
  intro t s F u v H cx cy
  rw [Cv] at cx; rw [Cv] at cy
  obtain ⟨p, its, rfl, hF, hl, hc⟩ := cx
  obtain ⟨t2, rfl⟩ := cy
  exact tail_any hl.typeIs list_getitem_lookup (getList hl hc hk hf hx fun v cv => ⟨x, a, F, H, cv, h⟩) (hs _ _)
theorem sub_mem {value slice : Expr} {p : Addr} {l : List AV} {k : Int} {x : AV} (j : Nat) (hm : (p, l) ∈ a.mem) (hk : seqIndex? k l.length = some j) (hx : l[j]? = some x) (h : K x a) (hf : -(2 ^ 62) ≤ k ∧ k < 2 ^ 62 := by omega) (hs : Plain slice := by intro _ _; rfl) :
    T2 c a (.val (.ref p)) (.int k) (subscriptTail value slice) K := by
  intro t s F u v H cx cy
  rw [Cv] at cx; rw [Cv] at cy
  subst cx
  obtain ⟨t2, rfl⟩ := cy
  obtain ⟨its, n, ho, hc⟩ := H.mem _ hm
  have hl : s.heap.IsList p its := ⟨_, ho, rfl, n, rfl⟩
  exact tail_any (Heap.IsList.typeIs hl) list_getitem_lookup (getList hl hc hk hf hx fun v cv => ⟨x, a, F, H, cv, h⟩) (hs _ _)
theorem sub_tup {value slice : Expr} {l : List AV} {k : Int} {x : AV} (j : Nat) (hk : seqIndex? k l.length = some j) (hx : l[j]? = some x) (h : K x a) (hf : -(2 ^ 62) ≤ k ∧ k < 2 ^ 62 := by omega) (hs : Plain slice := by intro _ _; rfl) :
    T2 c a (.tup l) (.int k) (subscriptTail value slice) K := by
  intro t s F u v H cx cy
  rw [Cv] at cx; rw [Cv] at cy
  obtain ⟨p, its, n, rfl, hF, hl, hc⟩ := cx
  obtain ⟨t2, rfl⟩ := cy
  have ht : IsTup s.heap p its := ⟨_, hl, rfl, n, rfl⟩
  obtain ⟨v, hv, cv⟩ := hc.get hx
  have hlen : l.length = its.size := by have := hc.length; simpa using this
  exact tail_any ht.typeIs slot_tuple_getitem.lookup (getItem_tuple ht (by omega) (by omega) (by rw [← hlen]; exact hk) (by rw [← Array.getElem?_toList]; exact hv) ⟨x, a, F, H, cv, h⟩) (hs _ _)
theorem sub_str {value slice : Expr} {x : List Nat} {k : Int} {y : Nat} (j : Nat) (hk : seqIndex? k x.length = some j) (hx : x[j]? = some y) (h : K (.str [y]) a) (hf : -(2 ^ 62) ≤ k ∧ k < 2 ^ 62 := by omega) (hs : Plain slice := by intro _ _; rfl) :
    T2 c a (.str x) (.int k) (subscriptTail value slice) K := by
  intro t s F u v H cx cy
  rw [Cv] at cx; rw [Cv] at cy
  obtain ⟨t1, rfl⟩ := cx
  obtain ⟨t2, rfl⟩ := cy
  refine tail_any (typeIs_str _ _ _) slot_str_getitem.lookup (getItem_str (c := y) (by simp; omega) ?_ ⟨.str [y], a, F, H.toks _, by rw [Cv]; exact ⟨_, rfl⟩, h⟩) (hs _ _)
  show (seqIndex? k x.toArray.size).bind _ = _
  rw [List.size_toArray, hk]
  simpa using hx
end
end Mine
end
section
namespace Mine
section
variable {c : Cx} {a : AS}
theorem locals_owned (c : Cx) (a : AS) (t : Tmp) : c.env.locals ∈ owned c a t := by simp [owned]
theorem mem_owned {c : Cx} {a : AS} {t : Tmp} {x : Addr × List AV} (h : x ∈ a.mem) : x.1 ∈ owned c a t := by
  simp only [owned, List.mem_append, List.mem_map]; exact .inl ⟨x, h, rfl⟩
theorem prot_owned {c : Cx} {a : AS} {t : Tmp} {x : Addr × Obj} (h : x ∈ t.prot) : x.1 ∈ owned c a t := by
  simp only [owned, List.mem_append, List.mem_map]; exact .inr (.inl ⟨x, h, rfl⟩)
theorem cell_owned {c : Cx} {a : AS} {t : Tmp} {x : Str × Addr} (h : x ∈ c.cells) : x.2 ∈ owned c a t := by
  simp only [owned, List.mem_append, List.mem_map, List.mem_cons]; exact .inr (.inr (.inr ⟨x, h, rfl⟩))
theorem nodup_append_ne {α : Type} {l l' : List α} (h : (l ++ l').Nodup) {x y : α} (hx : x ∈ l) (hy : y ∈ l') : x ≠ y := by
  rw [List.nodup_append] at h
  exact h.2.2 x hx y hy
/-- the local names' place is apart from the rest -/
theorem AtF.ne_mem {t : Tmp} {s : Shared} {F : Addr → Prop} (H : AtF c a t s F) {x : Addr × List AV} (h : x ∈ a.mem) : x.1 ≠ c.env.locals :=
  nodup_append_ne H.nod (List.mem_map_of_mem h) (by simp)
theorem AtF.ne_prot {t : Tmp} {s : Shared} {F : Addr → Prop} (H : AtF c a t s F) {x : Addr × Obj} (h : x ∈ t.prot) : x.1 ≠ c.env.locals :=
  nodup_append_ne (List.nodup_append.mp H.nod).2.1 (List.mem_map_of_mem h) (by simp)
theorem AtF.ne_cell {t : Tmp} {s : Shared} {F : Addr → Prop} (H : AtF c a t s F) {x : Str × Addr} (h : x ∈ c.cells) : x.2 ≠ c.env.locals := fun e => by
  have q := (List.nodup_append.mp (List.nodup_append.mp H.nod).2.1).2.1
  exact (List.nodup_cons.mp q).1 (e ▸ List.mem_map_of_mem h)
theorem AtF.ne_mem_prot {t : Tmp} {s : Shared} {F : Addr → Prop} (H : AtF c a t s F) {x : Addr × List AV} {y : Addr × Obj} (h : x ∈ a.mem) (h' : y ∈ t.prot) : x.1 ≠ y.1 :=
  nodup_append_ne H.nod (List.mem_map_of_mem h) (by simp only [List.mem_append, List.mem_map]; exact .inl ⟨y, h', rfl⟩)
theorem AtF.ne_mem_cell {t : Tmp} {s : Shared} {F : Addr → Prop} (H : AtF c a t s F) {x : Addr × List AV} {y : Str × Addr} (h : x ∈ a.mem) (h' : y ∈ c.cells) : x.1 ≠ y.2 :=
  nodup_append_ne H.nod (List.mem_map_of_mem h) (by simp only [List.mem_append, List.mem_map, List.mem_cons]; exact .inr (.inr ⟨y, h', rfl⟩))
theorem AtF.ne_prot_cell {t : Tmp} {s : Shared} {F : Addr → Prop} (H : AtF c a t s F) {x : Addr × Obj} {y : Str × Addr} (h : x ∈ t.prot) (h' : y ∈ c.cells) : x.1 ≠ y.2 :=
  nodup_append_ne (List.nodup_append.mp H.nod).2.1 (List.mem_map_of_mem h) (by simp only [List.mem_map, List.mem_cons]; exact .inr ⟨y, h', rfl⟩)
theorem IsCell.at2 {h h' : Heap} {p : Addr} {v : Option Value} (x : h.IsCell p v) (e : ∀ o, h.get? p = some o → h'.get? p = some o) : h'.IsCell p v :=
  let ⟨o, ho, r⟩ := x; ⟨o, e _ ho, r⟩
theorem nodup_get {α : Type} {l : List α} (h : l.Nodup) {i j : Nat} {x : α} (hi : l[i]? = some x) (hj : l[j]? = some x) : i = j := by
  obtain ⟨h1, e1⟩ := List.getElem?_eq_some_iff.mp hi
  obtain ⟨h2, e2⟩ := List.getElem?_eq_some_iff.mp hj
  rcases Nat.lt_trichotomy i j with q | q | q
  · exact absurd (e1.trans e2.symm) (List.pairwise_iff_getElem.mp h i j h1 h2 q)
  · exact q
  · exact absurd (e2.trans e1.symm) (List.pairwise_iff_getElem.mp h j i h2 h1 q)
theorem zipVals {h : Heap} {F : Addr → Prop} : ∀ {xs : List AV} {r : List Value}, CvL h F xs r → ∀ y ∈ r.zip xs, Cv h F y.2 y.1
  | [], r, e, y, hy => by rw [CvL] at e; subst e; simp at hy
  | x :: xs, _, e, y, hy => by
    rw [CvL] at e
    obtain ⟨v, r, rfl, c1, c2⟩ := e
    rcases List.mem_cons.mp hy with rfl | hy
    · exact c1
    · exact zipVals c2 y hy
theorem zipVals' {h : Heap} {F : Addr → Prop} : ∀ {xs : List AV} {r : List Value}, xs.length = r.length → (∀ y ∈ r.zip xs, Cv h F y.2 y.1) → CvL h F xs r
  | [], r, e, _ => by rw [List.length_eq_zero_iff.mp (show r.length = 0 from e.symm)]; exact CvL.nil
  | x :: xs, [], e, _ => by simp at e
  | x :: xs, v :: r, e, hy => CvL.cons (hy (v, x) (.head _)) (zipVals' (by simpa using e) fun y h => hy y (.tail _ h))
/-- a local name is stored -/
theorem store_loc {t : Tmp} {s : Shared} {F : Addr → Prop} {x : Str} {v : Value} {av : AV} (i : Nat) (H : AtF c a t s F) (hx : c.names[i]? = some x) (hi : i < a.loc.length) (cv : Cv s.heap F av v) {Q : Unit → Shared → Prop}
    (h : ∀ s', AtF c { a with loc := a.loc.set i (some av) } t s' F → Q () s') : wpAny c.W.M c.A (storeName c.env x v) Q FE s := by
  obtain ⟨m, hn, hl⟩ := H.ns
  have q := c.nk x (List.mem_of_getElem? hx)
  refine wpAny_storeName_local q.1 hn (fun h' hn' hs => h _ ?_) (by rw [c.kind]; rfl)
  have kf : ∀ b o, F b → s.heap.get? b = some o → h'.get? b = some o := fun b o hb e => (hs.2 b fun q => (H.own _ (locals_owned c a t)).1 (q ▸ hb)).trans e
  refine H.same (locals_owned c a t) hs.extBut (by rfl) ⟨_, hn', fun j y w e1 e2 => ?_⟩ ?_ ?_ ?_ rfl rfl
  · by_cases hj : i = j
    · subst hj
      rw [hx] at e1; cases e1
      rw [List.getElem?_set_self hi] at e2; cases e2
      exact ⟨v, by simp, Cv.mono (fun _ e => e) kf cv⟩
    · rw [List.getElem?_set_ne hj] at e2
      obtain ⟨u, e3, e4⟩ := hl j y w e1 e2
      refine ⟨u, ?_, Cv.mono (fun _ e => e) kf e4⟩
      have hne : y ≠ x := fun e => hj (nodup_get c.nodup hx (e ▸ e1))
      simp [hne, e3]
  · intro j y e
    obtain ⟨ov, hc, hcv⟩ := H.cel j y e
    have hm := List.mem_of_getElem? e
    refine ⟨ov, IsCell.at2 hc fun o e => (hs.2 _ (H.ne_cell hm)).trans e, fun w e2 => ?_⟩
    obtain ⟨u, e3, e4⟩ := hcv w e2
    exact ⟨u, e3, Cv.mono (fun _ e => e) kf e4⟩
  · intro y hy
    obtain ⟨its, n, ho, hc⟩ := H.mem y hy
    exact ⟨its, n, (hs.2 _ (H.ne_mem hy)).trans ho, CvL.mono (fun _ e => e) kf hc⟩
  · intro y hy
    exact (hs.2 _ (H.ne_prot hy)).trans (H.prot y hy)
/-- a cell's name is stored -/
theorem store_cel {t : Tmp} {s : Shared} {F : Addr → Prop} {x : Str} {ca : Addr} {v : Value} {av : AV} (i : Nat) (H : AtF c a t s F) (hx : c.cells[i]? = some (x, ca)) (hi : i < a.cel.length) (cv : Cv s.heap F av v) {Q : Unit → Shared → Prop}
    (h : ∀ s', AtF c { a with cel := a.cel.set i (some av) } t s' F → Q () s') : wpAny c.W.M c.A (storeName c.env x v) Q FE s := by
  obtain ⟨ov, hc, hl⟩ := H.cel i _ hx
  have hm := List.mem_of_getElem? hx
  have q := c.ck _ hm
  refine wpAny_storeName_cell c.kind q.1 q.2.1 hc (fun h' hn' hs => h _ ?_)
  have own := cell_owned (a := a) (t := t) hm
  have kf : ∀ b o, F b → s.heap.get? b = some o → h'.get? b = some o := fun b o hb e => (hs.2 b fun q => (H.own _ own).1 (q ▸ hb)).trans e
  have hnd := (List.nodup_cons.mp (List.nodup_append.mp (List.nodup_append.mp H.nod).2.1).2.1).2
  refine H.same (tk := s.toks) own hs.extBut (by rfl) ?_ ?_ ?_ ?_ rfl rfl
  · obtain ⟨m, hn, hl⟩ := H.ns
    exact ⟨m, hn.sameBut hs (Ne.symm (H.ne_cell hm)), fun j y w e1 e2 => by
      obtain ⟨u, e3, e4⟩ := hl j y w e1 e2; exact ⟨u, e3, Cv.mono (fun _ e => e) kf e4⟩⟩
  · intro j y e
    by_cases hj : i = j
    · subst hj
      rw [hx] at e; cases e
      refine ⟨some v, hn', fun w e2 => ?_⟩
      rw [List.getElem?_set_self hi] at e2; cases e2
      exact ⟨v, rfl, Cv.mono (fun _ e => e) kf cv⟩
    · obtain ⟨ov2, hc2, hcv⟩ := H.cel j y e
      have hne : y.2 ≠ ca := fun e' => hj (nodup_get hnd (x := ca) (by rw [List.getElem?_map, hx]; rfl) (by rw [List.getElem?_map, e]; simp [e']))
      refine ⟨ov2, IsCell.at2 hc2 fun o e => (hs.2 _ hne).trans e, fun w e2 => ?_⟩
      rw [List.getElem?_set_ne hj] at e2
      obtain ⟨u, e3, e4⟩ := hcv w e2
      exact ⟨u, e3, Cv.mono (fun _ e => e) kf e4⟩
  · intro y hy
    obtain ⟨its, n, ho, hc⟩ := H.mem y hy
    exact ⟨its, n, (hs.2 _ (H.ne_mem_cell hy hm)).trans ho, CvL.mono (fun _ e => e) kf hc⟩
  · intro y hy
    exact (hs.2 _ (H.ne_prot_cell hy hm)).trans (H.prot y hy)
inductive MemAt (p : Addr) (l l' : List AV) : List (Addr × List AV) → List (Addr × List AV) → Prop
  | head {r} : MemAt p l l' ((p, l) :: r) ((p, l') :: r)
  | tail {x r r'} : MemAt p l l' r r' → MemAt p l l' (x :: r) (x :: r')
theorem MemAt.mem {p : Addr} {l l' : List AV} : ∀ {r r' : List (Addr × List AV)}, MemAt p l l' r r' → (p, l) ∈ r
  | _, _, .head => .head _
  | _, _, .tail h => .tail _ h.mem
theorem MemAt.keys {p : Addr} {l l' : List AV} : ∀ {r r' : List (Addr × List AV)}, MemAt p l l' r r' → r'.map (·.1) = r.map (·.1)
  | _, _, .head => rfl
  | _, _, .tail h => by simp [h.keys]
theorem MemAt.after {p : Addr} {l l' : List AV} : ∀ {r r' : List (Addr × List AV)}, MemAt p l l' r r' → (r.map (·.1)).Nodup → ∀ x ∈ r', x = (p, l') ∨ (x ∈ r ∧ x.1 ≠ p)
  | _, _, .head, nd, x, hx => by
    rcases List.mem_cons.mp hx with rfl | hx
    · exact .inl rfl
    · exact .inr ⟨.tail _ hx, fun e => (List.nodup_cons.mp nd).1 (List.mem_map.mpr ⟨x, hx, e⟩)⟩
  | _, _, .tail h, nd, x, hx => by
    rcases List.mem_cons.mp hx with rfl | hx
    · exact .inr ⟨.head _, fun e => (List.nodup_cons.mp nd).1 (List.mem_map.mpr ⟨_, h.mem, e.symm⟩)⟩
    · rcases h.after (List.nodup_cons.mp nd).2 x hx with e | ⟨e1, e2⟩
      · exact .inl e
      · exact .inr ⟨.tail _ e1, e2⟩
/-- a list of our own is changed -/
theorem AtF.setMem {t : Tmp} {s : Shared} {F : Addr → Prop} (H : AtF c a t s F) {p : Addr} {l l' : List AV} {mem' : List (Addr × List AV)} (hm : MemAt p l l' a.mem mem') {h' : Heap} {its : Array Value} {n : Nat} {tk : Nat}
    (hs : Heap.SameBut p s.heap h') (ho : h'.get? p = some (lstObj its n)) (hc : CvL s.heap F l' its.toList) : AtF c { a with mem := mem' } t { s with heap := h', toks := tk } F := by
  have own := mem_owned (c := c) (t := t) hm.mem
  have kf : ∀ b o, F b → s.heap.get? b = some o → h'.get? b = some o := fun b o hb e => (hs.2 b fun q => (H.own _ own).1 (q ▸ hb)).trans e
  refine H.same own hs.extBut (by simp only [owned, hm.keys]) ?_ ?_ ?_ ?_ rfl rfl
  · obtain ⟨m, hn, hl⟩ := H.ns
    exact ⟨m, hn.sameBut hs (Ne.symm (H.ne_mem hm.mem)), fun j y w e1 e2 => by
      obtain ⟨u, e3, e4⟩ := hl j y w e1 e2; exact ⟨u, e3, Cv.mono (fun _ e => e) kf e4⟩⟩
  · intro j y e
    obtain ⟨ov2, hc2, hcv⟩ := H.cel j y e
    refine ⟨ov2, IsCell.at2 hc2 fun o e' => (hs.2 _ (Ne.symm (H.ne_mem_cell hm.mem (List.mem_of_getElem? e)))).trans e', fun w e2 => ?_⟩
    obtain ⟨u, e3, e4⟩ := hcv w e2
    exact ⟨u, e3, Cv.mono (fun _ e => e) kf e4⟩
  · intro y hy
    rcases hm.after (List.nodup_append.mp H.nod).1 y hy with rfl | ⟨e1, e2⟩
    · exact ⟨its, n, ho, CvL.mono (fun _ e => e) kf hc⟩
    · obtain ⟨its2, n2, ho2, hc2⟩ := H.mem y e1
      exact ⟨its2, n2, (hs.2 _ e2).trans ho2, CvL.mono (fun _ e => e) kf hc2⟩
  · intro y hy
    exact (hs.2 _ (Ne.symm (H.ne_mem_prot hm.mem hy))).trans (H.prot y hy)
/-! assignments -/
noncomputable abbrev TA (c : Cx) (a : AS) (e : Expr) (x : AV) (K : AS → Prop) : Prop := TU c a x (assign e c.env) K
theorem ta_loc {x : Str} {pos : Pos} {av : AV} {K : AS → Prop} (i : Nat) (hx : c.names[i]? = some x) (hi : i < a.loc.length) (h : K { a with loc := a.loc.set i (some av) }) : TA c a (.Name x pos) av K := fun t s F v H cv =>
  wpAny_assign_Name (store_loc i H hx hi cv fun s' H' => ⟨_, F, H', h⟩)
theorem ta_cel {x : Str} {ca : Addr} {pos : Pos} {av : AV} {K : AS → Prop} (i : Nat) (hx : c.cells[i]? = some (x, ca)) (hi : i < a.cel.length) (h : K { a with cel := a.cel.set i (some av) }) : TA c a (.Name x pos) av K := fun t s F v H cv =>
  wpAny_assign_Name (store_cel i H hx hi cv fun s' H' => ⟨_, F, H', h⟩)
theorem AtF.addVals {t : Tmp} {s : Shared} {F : Addr → Prop} {l : List (Value × AV)} (H : AtF c a t s F) (h : ∀ y ∈ l, Cv s.heap F y.2 y.1) : AtF c a ⟨l ++ t.vals, t.prot, t.kept⟩ s F :=
  { H with vals := fun y hy => (List.mem_append.mp hy).elim (h y) (H.vals y) }
/-- names in their order -/
noncomputable def TAs (c : Cx) : AS → List Expr → List AV → (AS → Prop) → Prop
  | a, e :: es, x :: xs, K => TA c a e x (fun a' => TAs c a' es xs K)
  | a, [], [], K => K a
  | _, _, _, _ => False
theorem assignEach_cons {e : Expr} {es : List Expr} {env : Env} (h : noStar e = true) : assignEach (e :: es) env = (false, assign e env) :: assignEach es env := by
  cases e <;> first | rfl | cases h
theorem TAs.sound : ∀ {es : List Expr} {xs : List AV} {a : AS} {K : AS → Prop}, es.all noStar = true → TAs c a es xs K → ∀ t s F vs, AtF c a t s F → CvL s.heap F xs vs →
    wpAny c.W.M c.A (assignInOrder ((assignEach es c.env).map (·.2)) vs) (fun _ s' => ∃ a' F', AtF c a' t s' F' ∧ K a') FE s
  | [], [], a, K, _, h, t, s, F, vs, H, cv => by
    rw [CvL] at cv; subst cv
    exact wpAny_pure ⟨a, F, H, h⟩
  | [], _ :: _, _, _, _, h, _, _, _, _, _, _ => h.elim
  | _ :: _, [], _, _, _, h, _, _, _, _, _, _ => h.elim
  | e :: es, x :: xs, a, K, hs, h, t, s, F, vs, H, cv => by
    rw [List.all_cons, Bool.and_eq_true] at hs
    rw [CvL] at cv
    obtain ⟨v, r, rfl, c1, c2⟩ := cv
    rw [assignEach_cons hs.1]
    have Hr : AtF c a ⟨(r.zip xs) ++ t.vals, t.prot, t.kept⟩ s F := H.addVals (zipVals c2)
    refine assignInOrder_cons (wp_mono (h _ s F v Hr c1) fun _ s' ⟨a', F', H', k⟩ => ?_)
    refine wp_mono (TAs.sound hs.2 k t s' F' r { H' with vals := fun y hy => H'.vals y (List.mem_append_right _ hy) } ?_) fun _ _ p => p
    exact zipVals' c2.length fun y hy => H'.vals y (List.mem_append_left _ hy)
theorem ExtBut.keeps {s : Shared} {h' : Heap} (he : Heap.ExtBut s.heap.objs.size s.heap h') : Keeps s { s with heap := h' } :=
  ⟨h', s.toks, rfl, fun b o e => he b o (Nat.ne_of_lt (Heap.lt_size e)) e⟩
theorem ta_tup {es : List Expr} {k : Nat} {pos : Pos} {xs : List AV} {K : AS → Prop} (hn : es.length = xs.length) (h : TAs c a es xs K) (hs : es.all noStar = true := by rfl) : TA c a (.Tuple es k pos) (.tup xs) K := fun t s F v H cv => by
  rw [Cv] at cv
  obtain ⟨p, its, n, rfl, hF, ho, hc⟩ := cv
  have hlen : ∀ es : List Expr, es.all noStar = true → (assignEach es c.env).length = es.length ∧ (assignEach es c.env).findIdx? (·.1) = none := fun es => by
    induction es with
    | nil => intro _; exact ⟨rfl, rfl⟩
    | cons e es ih =>
      intro hs
      rw [List.all_cons, Bool.and_eq_true] at hs
      rw [assignEach_cons hs.1]
      exact ⟨by simp [(ih hs.2).1], by simp [List.findIdx?_cons, (ih hs.2).2]⟩
  refine wpAny_assign_Tuple c.handled ⟨_, ho, rfl, n, rfl⟩ (by rw [(hlen es hs).1, hn, hc.length]; simp) (hlen es hs).2 fun h' he => ?_
  have k := ExtBut.keeps he
  exact TAs.sound hs h t _ F _ (H.keeps k) (CvL.mono (fun _ e => e) (fun b o _ e => he b o (Nat.ne_of_lt (Heap.lt_size e)) e) hc)
end
end Mine
end
section
namespace Mine
section
variable {c : Cx} {a : AS} {K : AFl → AS → Prop}
theorem cvF_next {h : Heap} {F : Addr → Prop} : CvF h F .next .next := by rw [CvF]
theorem cvF_brk {h : Heap} {F : Addr → Prop} : CvF h F .brk .brk := by rw [CvF]
theorem cvF_ret {h : Heap} {F : Addr → Prop} {x : AV} {v : Value} (e : Cv h F x v) : CvF h F (.ret x) (.ret v) := by rw [CvF]; exact ⟨v, rfl, e⟩
theorem tss_nil (h : K .next a) : TSs c a [] K := fun t s F H => wpAny_execs_nil ⟨.next, a, F, H, cvF_next, h⟩
noncomputable def andThen (c : Cx) (rest : List Stmt) (K : AFl → AS → Prop) : AFl → AS → Prop := fun fl a' => match fl with
  | .next => TSs c a' rest K
  | f => K f a'
theorem tss_cons {st : Stmt} {rest : List Stmt} (h : TS c a st (andThen c rest K)) : TSs c a (st :: rest) K := fun t s F H =>
  wpAny_execs_cons (wp_postF (h t s F H) fun fl s1 x a1 F1 H1 cx k1 => by
    cases x with
    | next => rw [CvF] at cx; subst cx; exact k1 t s1 F1 H1
    | brk => rw [CvF] at cx; subst cx; exact ⟨.brk, a1, F1, H1, cvF_brk, k1⟩
    | cont => rw [CvF] at cx; subst cx; exact ⟨.cont, a1, F1, H1, by rw [CvF], k1⟩
    | ret x => rw [CvF] at cx; obtain ⟨v, rfl, e⟩ := cx; exact ⟨.ret x, a1, F1, H1, cvF_ret e, k1⟩)
theorem TSs.mono {sts : List Stmt} {K' : AFl → AS → Prop} (h : TSs c a sts K) (k : ∀ x a', K x a' → K' x a') : TSs c a sts K' := fun t s F H =>
  wp_mono (h t s F H) fun _ _ ⟨x, a', F', h1, h2, h3⟩ => ⟨x, a', F', h1, h2, k _ _ h3⟩
theorem TS.mono {st : Stmt} {K' : AFl → AS → Prop} (h : TS c a st K) (k : ∀ x a', K x a' → K' x a') : TS c a st K' := fun t s F H =>
  wp_mono (h t s F H) fun _ _ ⟨x, a', F', h1, h2, h3⟩ => ⟨x, a', F', h1, h2, k _ _ h3⟩
theorem inter_false (c : Cx) : interactive c.env = false := by unfold interactive; rw [c.kind]; rfl
noncomputable def AV.nonref : AV → Bool
  | .none => true | .bool _ => true | .int _ => true | .str _ => true
  | _ => false
theorem ts_expr {e : Expr} {pos : Pos} (h : TE c a e (fun x a' => x.nonref = true ∧ K .next a')) (hs : ∀ env, swapsWith e none pos.line env = pure false := by intro _; rfl) : TS c a (.Expr e pos) K := fun t s F H =>
  wpAny_Expr (wp_mono (h t s F H) fun v s1 ⟨x, a1, F1, H1, cx, hn, k1⟩ => by
    have r : PostF c t K .next s1 := ⟨.next, a1, F1, H1, cvF_next, k1⟩
    cases x with
    | none => unfold Cv at cx; subst cx; exact r
    | bool b => rw [Cv] at cx; subst cx; exact r
    | int i => rw [Cv] at cx; obtain ⟨_, rfl⟩ := cx; exact r
    | str i => rw [Cv] at cx; obtain ⟨_, rfl⟩ := cx; exact r
    | _ => cases hn) (inter_false c) (hs _)
theorem ts_set {x : Str} {value : Expr} {p pos : Pos} (i : Nat) (hx : c.names[i]? = some x) (h : TE c a value (fun v a' => i < a'.loc.length ∧ K .next { a' with loc := a'.loc.set i (some v) }))
    (hs : ∀ env, swapsWith value (some (.Name x p)) pos.line env = pure false := by intro _; rfl) : TS c a (.Assign [.Name x p] value pos) K := fun t s F H =>
  wpAny_Assign_Name (wp_mono (h t s F H) fun v s1 ⟨y, a1, F1, H1, cx, hi, k1⟩ => store_loc i H1 hx hi cx fun s' H' => ⟨.next, _, F1, H', cvF_next, k1⟩) (hs _)
theorem ts_setc {x : Str} {ca : Addr} {value : Expr} {p pos : Pos} (i : Nat) (hx : c.cells[i]? = some (x, ca)) (h : TE c a value (fun v a' => i < a'.cel.length ∧ K .next { a' with cel := a'.cel.set i (some v) }))
    (hs : ∀ env, env.kindOf x = some .cell → swapsWith value (some (.Name x p)) pos.line env = pure false := by intro _ _; rfl) : TS c a (.Assign [.Name x p] value pos) K := fun t s F H =>
  wpAny_Assign_Name (wp_mono (h t s F H) fun v s1 ⟨y, a1, F1, H1, cx, hi, k1⟩ => store_cel i H1 hx hi cx fun s' H' => ⟨.next, _, F1, H', cvF_next, k1⟩) (hs _ (c.ck _ (List.mem_of_getElem? hx)).1)
theorem ts_settup {es : List Expr} {k : Nat} {tp pos : Pos} {value : Expr} (h : TE c a value (fun v a' => TA c a' (.Tuple es k tp) v (K .next)))
    (hs : ∀ env, swapsWithSole [.Tuple es k tp] value pos.line env = pure false := by intro _; rfl) (hw : ∀ env, swappedStores [.Tuple es k tp] value env = pure none := by intro _; rfl) : TS c a (.Assign [.Tuple es k tp] value pos) K := fun t s F H =>
  Assign_Tuple (wp_post (h t s F H) fun v s1 x a1 F1 H1 cx k1 => wp_pb (k1 t s1 F1 v H1 cx) fun _ s2 a2 F2 H2 k2 => ⟨.next, a2, F2, H2, cvF_next, k2⟩) (hs _) (hw _)
noncomputable def Sw (x y : Str) (px py : Pos) (v1 v2 : Expr) (k k2 : Nat) (tp tp2 : Pos) : Prop := ∀ env : Env, env.scope.kind = .function → env.kindOf x = some .local → env.kindOf y = some .local →
   swappedStores [.Tuple [.Name x px, .Name y py] k tp] (.Tuple [v1, v2] k2 tp2) env = pure (some [x, y])
theorem ite_no {α : Type} {b : Bool} {x y z : α} (h : b = false) (e : y = z) : (if b = true then x else y) = z := by rw [h]; exact e
theorem sw_of {x y : Str} {px py : Pos} {v1 v2 : Expr} {k k2 : Nat} {tp tp2 : Pos} (hxy : ([x, y].eraseDups.length != 2) = false) (hl : (py.line == px.line) = true) (h1 : ([v1, v2].any fun | .Starred .. => true | _ => false) = false)
   (hf : ([v1, v2].all (foldedForSure 8)) = false) (hc : ([v1, v2].all (constantsAlone 8)) = false) : Sw x y px py v1 v2 k k2 tp tp2 := by
  intro env hk k1 k2
  have hb : env.blockKind = .function := by unfold Env.blockKind; rw [hk]; rfl
  have hn : ([Expr.Name x px, Expr.Name y py].filterMap fun | .Name id pos => if env.kindOf id == some .local && pos.line == px.line then some id else none | _ => none) = [x, y] := by
    simp only [List.filterMap_cons, k1, k2, hl, beq_self_eq_true, Bool.and_self, if_true, List.filterMap_nil]
  unfold swappedStores
  dsimp only
  rw [hb]
  refine ite_no rfl ?_
  refine ite_no h1 ?_
  generalize hN : ([Expr.Name x px, Expr.Name y py].filterMap _) = N
  have : N = [x, y] := hN.symm.trans hn
  subst this
  refine ite_no hxy ?_
  refine ite_no hf ?_
  exact ite_no hc rfl
/-- two names at once, stored the last first -/
theorem ts_swap2 {x y : Str} {px py tp tp2 pos : Pos} {k k2 : Nat} {v1 v2 : Expr} (i j : Nat) (hx : c.names[i]? = some x) (hy : c.names[j]? = some y) (hw : Sw x y px py v1 v2 k k2 tp tp2)
    (h : TE c a v1 (fun u a1 => TE c a1 v2 (fun v a2 => i < a2.loc.length ∧ j < a2.loc.length ∧ K .next { a2 with loc := (a2.loc.set j (some v)).set i (some u) })))
    (hn : [v1, v2].all noStar = true := by rfl) (hs : ∀ env, swapsWithSole [.Tuple [.Name x px, .Name y py] k tp] (.Tuple [v1, v2] k2 tp2) pos.line env = pure false := by intro _; rfl) :
    TS c a (.Assign [.Tuple [.Name x px, .Name y py] k tp] (.Tuple [v1, v2] k2 tp2) pos) K := fun t s F H => by
  have ht : TE c a (.Tuple [v1, v2] k2 tp2) (fun z a2 => ∃ u v, z = .tup [u, v] ∧ i < a2.loc.length ∧ j < a2.loc.length ∧ K .next { a2 with loc := (a2.loc.set j (some v)).set i (some u) }) :=
    te_tup (hs := hn) (h.mono fun u a1 h1 => h1.mono fun v a2 h2 => ⟨by simp, u, v, rfl, h2⟩)
  refine Assign_Tuple_swapped (wp_post (ht t s F H) fun z s1 z' a1 F1 H1 cz kk => ?_) (hs _) (hw _ c.kind (c.nk x (List.mem_of_getElem? hx)).1 (c.nk y (List.mem_of_getElem? hy)).1)
  obtain ⟨u, v, e, hi, hj, k1⟩ := kk
  subst e
  rw [Cv] at cz
  obtain ⟨p, its, n, rfl, hF, ho, hc⟩ := cz
  have hsz : its.size = 2 := by have := hc.length; simpa using this.symm
  have e2 : [x, y].length = its.size := by rw [hsz]; rfl
  rw [e2]
  refine wpAny_unpackItems_tuple c.handled ⟨_, ho, rfl, n, rfl⟩ fun h' he => ?_
  have hk := ExtBut.keeps he
  have H2 := H1.keeps hk
  have hc2 : CvL h' F1 [u, v] its.toList := CvL.mono (fun _ e => e) (fun b o _ e => he b o (Nat.ne_of_lt (Heap.lt_size e)) e) hc
  rw [CvL] at hc2
  obtain ⟨w1, r1, e3, c1, hc2⟩ := hc2
  rw [CvL] at hc2
  obtain ⟨w2, r2, e4, c2, hc2⟩ := hc2
  rw [CvL] at hc2
  subst hc2; subst e4
  rw [e3]
  show wpAny _ _ (assignInOrder [bindName c.env y, bindName c.env x] [w2, w1]) _ _ _
  have H3 := H2.pushVal (x := u) (v := w1) c1
  refine assignInOrder_cons (wpAny_bindName (store_loc j H3 hy hj c2 fun s' H4 => ?_))
  have H5 := H4.popVal
  refine assignInOrder_cons (wpAny_bindName (store_loc i H5.1 hx (by simpa using hi) H5.2 fun s'' H6 => ?_))
  exact wpAny_pure ⟨.next, _, F1, H6, cvF_next, k1⟩
theorem ts_aug {x : Str} {op : Operator} {value : Expr} {p pos : Pos} (i : Nat) {av : AV} (hx : c.names[i]? = some x) (hv : a.loc[i]? = some (some av))
    (h : TE c a value (fun v a1 => T2 c a1 av v (inplaceOp op) (fun r a2 => i < a2.loc.length ∧ K .next { a2 with loc := a2.loc.set i (some r) }))) : TS c a (.AugAssign (.Name x p) op value pos) K := fun t s F H => by
  obtain ⟨m, hn, hl⟩ := H.ns
  obtain ⟨v, e1, e2⟩ := hl i x av hx hv
  have q := c.nk x (List.mem_of_getElem? hx)
  refine wpAny_AugAssign_Name (wpAny_loadName_local c.kind q.1 hn e1 (wp_post (h _ s F (H.pushVal e2)) fun u s1 y a1 F1 H1 cy k1 => ?_))
  exact wp_mono (k1 t s1 F1 v u H1.popVal.1 H1.popVal.2 cy) fun r s2 ⟨z, a2, F2, H2, cz, hi, k2⟩ => store_loc i H2 hx hi cz fun s' H' => ⟨.next, _, F2, H', cvF_next, k2⟩
theorem ts_if {test : Expr} {body orelse : List Stmt} {pos : Pos} (h : TB c a test (fun b a' => if b = true then TSs c a' body K else TSs c a' orelse K)) : TS c a (.If test body orelse pos) K := fun t s F H =>
  wpAny_If (wp_pb (h t s F H) fun b s1 a1 F1 H1 k1 => by
    cases b with
    | true => rw [if_pos rfl] at k1 ⊢; exact k1 t s1 F1 H1
    | false => rw [if_neg (by decide)] at k1 ⊢; exact k1 t s1 F1 H1)
theorem ts_ret {e : Expr} {pos : Pos} (h : TE c a e (fun v a' => K (.ret v) a')) : TS c a (.Return (some e) pos) K := fun t s F H =>
  wpAny_Return_some (wp_post (h t s F H) fun v s1 x a1 F1 H1 cx k1 => ⟨.ret x, a1, F1, H1, cvF_ret cx, k1⟩)
theorem ts_assert {test : Expr} {pos : Pos} (h : TB c a test (fun b a' => b = true ∧ K .next a')) : TS c a (.Assert test none pos) K := fun t s F H =>
  wpAny_Assert c.handled (wp_mono (h t s F H) fun b s1 ⟨a1, F1, H1, hb, k1⟩ => by
    subst hb; rw [if_pos rfl]; exact ⟨.next, a1, F1, H1, cvF_next, k1⟩)
theorem ts_break {pos : Pos} (h : K .brk a) : TS c a (.Break pos) K := fun t s F H => wpAny_Break ⟨.brk, a, F, H, cvF_brk, h⟩
theorem ts_while {test : Expr} {body orelse : List Stmt} {pos : Pos} (I : Nat → AS → Prop) (n : Nat) (h : I n a)
    (turn : ∀ n a, I n a → TB c a test (fun b a1 => if b = true then TSs c a1 body (fun fl a2 => match fl with
      | .next | .cont => ∃ m, m < n ∧ I m a2
      | .brk => K .next a2
      | .ret v => K (.ret v) a2) else TSs c a1 orelse K)) : TS c a (.While test body orelse pos) K := fun t s F H => by
  refine wpAny_While (codeAny_whileLoop (I := fun n s => ∃ a F, AtF c a t s F ∧ I n a) (fun n s ⟨a, F, H, hI⟩ => ?_) n ⟨a, F, H, h⟩)
  refine wp_pb (turn n a hI t s F H) fun b s1 a1 F1 H1 k1 => ?_
  cases b with
  | true =>
    rw [if_pos rfl] at k1 ⊢
    refine wp_postF (k1 t s1 F1 H1) fun fl s2 x a2 F2 H2 cx k2 => ?_
    cases x with
    | next => rw [CvF] at cx; subst cx; obtain ⟨m, hm, hI⟩ := k2; exact ⟨m, hm, a2, F2, H2, hI⟩
    | cont => rw [CvF] at cx; subst cx; obtain ⟨m, hm, hI⟩ := k2; exact ⟨m, hm, a2, F2, H2, hI⟩
    | brk => rw [CvF] at cx; subst cx; exact ⟨.next, a2, F2, H2, cvF_next, k2⟩
    | ret x => rw [CvF] at cx; obtain ⟨v, rfl, e⟩ := cx; exact ⟨.ret x, a2, F2, H2, cvF_ret e, k2⟩
  | false =>
    rw [if_neg (by decide)] at k1 ⊢
    exact wp_mono (k1 t s1 F1 H1) fun _ _ p => p
end
end Mine
end
section
namespace Mine
section
variable {c : Cx} {a : AS}
/-! tests -/
theorem tb_plain {e : Expr} {K : Bool → AS → Prop} (h : TE c a e (fun x a1 => Tt c a1 x K)) (he : ∀ env whole, isTrue e env whole = (do let v ← whole; standAt e.pos; holding [v] (truthy v)) := by intro _ _; rfl) : TB c a e K := fun t s F H =>
  isTrue_plain (wp_post (h t s F H) fun v s1 x a1 F1 H1 cx k1 => k1 t s1 F1 v H1 cx) (he _ _)
theorem tb_not {e : Expr} {pos : Pos} {K : Bool → AS → Prop} (h : TB c a e (fun b a1 => K (!b) a1)) : TB c a (.UnaryOp .Not e pos) K := fun t s F H =>
  isTrue_not (wp_mono (h t s F H) fun b s1 p => p)
noncomputable def TBAnd (c : Cx) : AS → List Expr → (Bool → AS → Prop) → Prop
  | a, [], K => K true a
  | a, e :: es, K => TB c a e (fun b a1 => if b = true then TBAnd c a1 es K else K false a1)
noncomputable def TBOr (c : Cx) : AS → List Expr → (Bool → AS → Prop) → Prop
  | a, [], K => K false a
  | a, e :: es, K => TB c a e (fun b a1 => if b = true then K true a1 else TBOr c a1 es K)
theorem allTrue_cons (op : BoolOp) (x : Expr) (rest : List Expr) (env : Env) : allTrue op (x :: rest) env = (do
    match op, ← isTrue x env (eval x env) with
    | .And, false => pure false
    | .Or, true => pure true
    | _, _ => allTrue op rest env) := rfl
theorem tb_and {es : List Expr} {pos : Pos} {K : Bool → AS → Prop} (h : TBAnd c a es K) : TB c a (.BoolOp .And es pos) K := by
  have key : ∀ (es : List Expr) (a : AS), TBAnd c a es K → ∀ t s F, AtF c a t s F → wpAny c.W.M c.A (allTrue .And es c.env) (fun b s' => ∃ a' F', AtF c a' t s' F' ∧ K b a') FE s := by
    intro es
    induction es with
    | nil => intro a h t s F H; exact wpAny_pure ⟨a, F, H, h⟩
    | cons e es ih =>
      intro a h t s F H
      rw [allTrue_cons]
      refine wpAny_bind (wp_pb (h t s F H) fun b s1 a1 F1 H1 k1 => ?_)
      cases b with
      | true => rw [if_pos rfl] at k1; exact ih a1 k1 t s1 F1 H1
      | false => rw [if_neg (by decide)] at k1; exact wpAny_pure ⟨a1, F1, H1, k1⟩
  exact fun t s F H => key es a h t s F H
theorem tb_or {es : List Expr} {pos : Pos} {K : Bool → AS → Prop} (h : TBOr c a es K) : TB c a (.BoolOp .Or es pos) K := by
  have key : ∀ (es : List Expr) (a : AS), TBOr c a es K → ∀ t s F, AtF c a t s F → wpAny c.W.M c.A (allTrue .Or es c.env) (fun b s' => ∃ a' F', AtF c a' t s' F' ∧ K b a') FE s := by
    intro es
    induction es with
    | nil => intro a h t s F H; exact wpAny_pure ⟨a, F, H, h⟩
    | cons e es ih =>
      intro a h t s F H
      rw [allTrue_cons]
      refine wpAny_bind (wp_pb (h t s F H) fun b s1 a1 F1 H1 k1 => ?_)
      cases b with
      | false => rw [if_neg (by decide)] at k1; exact ih a1 k1 t s1 F1 H1
      | true => rw [if_pos rfl] at k1; exact wpAny_pure ⟨a1, F1, H1, k1⟩
  exact fun t s F H => key es a h t s F H
/-! truth -/
theorem tt_str {x : List Nat} {K : Bool → AS → Prop} (hx : x.length ≤ 1000000) (h : K (!x.isEmpty) a) : Tt c a (.str x) K := fun t s F v H e => by
  rw [Cv] at e; obtain ⟨t1, rfl⟩ := e
  refine PySem.P.truthy_str (by show ¬ ((x.toArray.size : Int) ≥ _); rw [List.size_toArray]; omega) ⟨a, F, H.toks _, ?_⟩
  have e : (((Str.mk x.toArray).length : Int) != 0) = !x.isEmpty := by
    show ((x.toArray.size : Int) != 0) = _
    rw [List.size_toArray]
    cases x <;> simp; omega
  rw [e]; exact h
theorem isEmpty_size {h : Heap} {F : Addr → Prop} {l : List AV} {its : Array Value} (hc : CvL h F l its.toList) : (!its.isEmpty) = !l.isEmpty := by
  have := hc.length
  have e : its.isEmpty = l.isEmpty := by
    rw [Bool.eq_iff_iff, Array.isEmpty_iff_size_eq_zero, List.isEmpty_iff_length_eq_zero, this]; simp
  rw [e]
theorem tt_lst {l : List AV} {K : Bool → AS → Prop} (hl : l.length ≤ 1000000) (h : K (!l.isEmpty) a) : Tt c a (.lst l) K := fun t s F v H e => by
  rw [Cv] at e; obtain ⟨p, its, rfl, hF, hi, hc⟩ := e
  have := hc.length
  refine wpAny_truthy_list hi (by simp at this; omega) ?_
  rw [isEmpty_size hc]
  exact ⟨a, F, H.toks _, h⟩
theorem tt_mem {p : Addr} {l : List AV} {K : Bool → AS → Prop} (hm : (p, l) ∈ a.mem) (hl : l.length ≤ 1000000) (h : K (!l.isEmpty) a) : Tt c a (.val (.ref p)) K := fun t s F v H e => by
  rw [Cv] at e; subst e
  obtain ⟨its, n, ho, hc⟩ := H.mem _ hm
  have := hc.length
  refine wpAny_truthy_list (l := p) (items := its) ⟨_, ho, rfl, n, rfl⟩ (by simp at this; omega) ?_
  rw [isEmpty_size hc]
  exact ⟨a, F, H.toks _, h⟩
/-! values of tests -/
variable {K : AV → AS → Prop}
noncomputable def TEAnd (c : Cx) : AS → List Expr → (AV → AS → Prop) → Prop
  | _, [], _ => False
  | a, [e], K => TE c a e K
  | a, e :: e' :: es, K => TE c a e (fun v a1 => Tt c a1 v (fun b a2 => if b = true then TEAnd c a2 (e' :: es) K else K v a2))
theorem te_and {es : List Expr} {pos : Pos} (h : TEAnd c a es K) : TE c a (.BoolOp .And es pos) K := by
  have key : ∀ (es : List Expr) (a : AS), TEAnd c a es K → ∀ t s F, AtF c a t s F → wpAny c.W.M c.A (boolOp pos .And (evalEach es c.env)) (Post c t K) FE s := by
    intro es
    induction es with
    | nil => intro a h; exact h.elim
    | cons e es ih =>
      intro a h t s F H
      cases es with
      | nil => exact h t s F H
      | cons e' es =>
        show wpAny c.W.M c.A (do
          let v ← eval e c.env
          standAt pos
          let t ← holding [v] (truthy v)
          match BoolOp.And, t with
          | .And, false | .Or, true => pure v
          | _, _ => boolOp pos .And (evalEach (e' :: es) c.env)) _ _ _
        refine wpAny_bind (wp_post (h t s F H) fun v s1 x a1 F1 H1 cx k1 => wpAny_bind (wpAny_standAt (wpAny_bind (wpAny_holding ?_))))
        refine wp_pb (k1 _ s1 F1 v (H1.pushVal cx) cx) fun b s2 a2 F2 H2 k2 => ?_
        cases b with
        | true => rw [if_pos rfl] at k2; exact ih a2 k2 t s2 F2 H2.popVal.1
        | false => rw [if_neg (by decide)] at k2; exact wpAny_pure ⟨x, a2, F2, H2.popVal.1, H2.popVal.2, k2⟩
  exact fun t s F H => key es a h t s F H
theorem te_if {test body orelse : Expr} {pos : Pos} (h : TB c a test (fun b a1 => if b = true then TE c a1 body K else TE c a1 orelse K)) : TE c a (.IfExp test body orelse pos) K := fun t s F H =>
  wpAny_IfExp (wp_pb (h t s F H) fun b s1 a1 F1 H1 k1 => by
    cases b with
    | true => rw [if_pos rfl] at k1 ⊢; exact k1 t s1 F1 H1
    | false => rw [if_neg (by decide)] at k1 ⊢; exact k1 t s1 F1 H1)
theorem te_neg {i : Int} {k : Nat} {p pos : Pos} (h : K (.int (-i)) a) : TE c a (.UnaryOp .USub (.Constant (.int i) k p) pos) K := fun t s F H =>
  wpAny_UnaryOp (wpAny_Constant_int (neg_int ⟨.int (-i), a, F, H.toks _, by rw [Cv]; exact ⟨_, rfl⟩, h⟩))
/-! slices -/
noncomputable def pyS {α : Type} (l : List α) (lo hi : Option Int) : List α := (l.drop (lo.elim 0 (clipAt l.length))).take (hi.elim l.length (clipAt l.length) - lo.elim 0 (clipAt l.length))
theorem txt_slice (x : List Nat) (lo hi : Option Int) : Txt.slice ⟨x.toArray⟩ lo hi = ⟨(pyS x lo hi).toArray⟩ := by
  have e : (Builtin.Str.strSliceIndices lo hi 1 x.length).filterMap (x.toArray[·]?) = pyS x lo hi := by
    have e1 : Builtin.Str.strSliceIndices lo hi 1 x.length = sliceRange (lo.elim 0 (clipAt x.length) : Nat) (hi.elim x.length (clipAt x.length) : Nat) 1 := by
      unfold Builtin.Str.strSliceIndices
      cases lo <;> cases hi <;> simp [clipAt_cast]
    rw [e1, sliceRange_one, pick_run]; rfl
  unfold Txt.slice
  split
  · rename_i h
    have hl : (Builtin.Str.strSliceIndices lo hi 1 x.length).length = x.length := by
      have := h
      simp only [Bool.and_eq_true, beq_iff_eq] at this
      simpa [Str.length] using this.2
    -- all of it
    have e1 : Builtin.Str.strSliceIndices lo hi 1 x.length = sliceRange (lo.elim 0 (clipAt x.length) : Nat) (hi.elim x.length (clipAt x.length) : Nat) 1 := by
      unfold Builtin.Str.strSliceIndices
      cases lo <;> cases hi <;> simp [clipAt_cast]
    rw [e1, sliceRange_one] at hl
    simp only [List.length_map, List.length_range] at hl
    congr 2
    unfold pyS
    have h1 : hi.elim x.length (clipAt x.length) ≤ x.length := by
      cases hi with
      | none => exact Nat.le_refl _
      | some i => show clipAt x.length i ≤ x.length; have := clipAt_cast x.length i; omega
    rcases Nat.eq_zero_or_pos x.length with h0 | h0
    · have : x = [] := List.length_eq_zero_iff.mp h0
      subst this; simp
    · have h2 : lo.elim 0 (clipAt x.length) = 0 := by omega
      rw [h2, List.drop_zero, List.take_of_length_le (by omega)]
  · show (⟨((Builtin.Str.strSliceIndices lo hi 1 x.toArray.size).filterMap (x.toArray[·]?)).toArray⟩ : Str) = _
    rw [List.size_toArray, e]
noncomputable def TO (c : Cx) (a : AS) (e : Option Expr) (K : Option Int → AS → Prop) : Prop := match e with
  | none => K none a
  | some e => TE c a e (fun x a' => ∃ i, x = .int i ∧ K (some i) a')
theorem TO.sound {e : Option Expr} {K : Option Int → AS → Prop} (h : TO c a e K) (t s F) (H : AtF c a t s F) :
    wpAny c.W.M c.A (evalPart e c.env) (fun v s' => ∃ lo a' F', AtF c a' t s' F' ∧ IsPart v lo ∧ K lo a') FE s := by
  cases e with
  | none => exact wpAny_pure ⟨none, a, F, H, .none, h⟩
  | some e =>
    refine wp_post (h t s F H) fun v s1 x a1 F1 H1 cx kk => ?_
    obtain ⟨i, hx, k1⟩ := kk
    subst hx
    rw [Cv] at cx; obtain ⟨tt, rfl⟩ := cx
    exact ⟨some i, a1, F1, H1, .int i tt, k1⟩
noncomputable def Slc (x : AV) (lo hi : Option Int) (k : AV → Prop) : Prop := match x with
  | .str s => s.length ≤ 1000000 ∧ k (.str (pyS s lo hi))
  | .lst l => l.length ≤ 1000000 ∧ k (.lst (pyS l lo hi))
  | _ => False
theorem te_slice {value : Expr} {lower upper : Option Expr} {p pos : Pos} (h : TE c a value (fun x a1 => TO c a1 lower (fun lo a2 => TO c a2 upper (fun hi a3 => Slc x lo hi (fun y => K y a3))))) : TE c a (.Subscript value (.Slice lower upper none p) pos) K := fun t s F H => by
  refine Subscript_ (wp_post (h t s F H) fun u s1 x a1 F1 H1 cx k1 => ?_)
  refine wpAny_Slice (wp_mono (TO.sound k1 _ s1 F1 (H1.pushVal cx)) fun vl s2 ⟨lo, a2, F2, H2, pl, k2⟩ => ?_)
  refine wp_mono (TO.sound k2 _ s2 F2 H2) fun vu s3 ⟨hi, a3, F3, H3, pu, k3⟩ => ?_
  refine wpAny_pure ?_
  obtain ⟨H4, c4⟩ := H3.popVal
  have H5 := H4.push { cls := .type "slice", data := .fields #[vl, vu, .none] } s3.toks
  unfold Slc at k3
  split at k3
  · rename_i x _ _
    rw [Cv] at c4; obtain ⟨t1, rfl⟩ := c4
    have fin : ∀ (t' : Tok) (k : Nat), Post c t K (.str (Txt.slice ⟨x.toArray⟩ lo hi) t') { s3 with heap := s3.heap.push { cls := .type "slice", data := .fields #[vl, vu, .none] }, toks := k } := fun t' k =>
      ⟨.str (pyS x lo hi), a3, F3, H5.toks _, by rw [Cv]; exact ⟨t', by rw [txt_slice]⟩, k3.2⟩
    have hsz : (Str.mk x.toArray).length ≤ sizeLine := by show x.toArray.size ≤ _; rw [List.size_toArray, sizeLine_eq]; omega
    refine tail_any (ops := [.ref s3.heap.objs.size, .str ⟨x.toArray⟩ t1]) (typeIs_str _ _ _) slot_str_getitem.lookup ?_ rfl
    cases pl with
    | none => cases pu with
      | none => exact wpAny_getItem_str_slice (l := none) (u := none) (st := none) ⟨_, Heap.get?_push_size _ rfl, rfl, rfl⟩ rfl (post_val_or_str ⟨Nat.le_trans (Txt.slice_le _ none none) hsz, fun t' k => fin t' k⟩)
      | int j uj => exact wpAny_getItem_str_slice (l := none) (u := some (j, uj)) (st := none) ⟨_, Heap.get?_push_size _ rfl, rfl, rfl⟩ rfl (post_val_or_str ⟨Nat.le_trans (Txt.slice_le _ none (some j)) hsz, fun t' k => fin t' k⟩)
    | int i ui => cases pu with
      | none => exact wpAny_getItem_str_slice (l := some (i, ui)) (u := none) (st := none) ⟨_, Heap.get?_push_size _ rfl, rfl, rfl⟩ rfl (post_val_or_str ⟨Nat.le_trans (Txt.slice_le _ (some i) none) hsz, fun t' k => fin t' k⟩)
      | int j uj => exact wpAny_getItem_str_slice (l := some (i, ui)) (u := some (j, uj)) (st := none) ⟨_, Heap.get?_push_size _ rfl, rfl, rfl⟩ rfl (post_val_or_str ⟨Nat.le_trans (Txt.slice_le _ (some i) (some j)) hsz, fun t' k => fin t' k⟩)
  · rename_i l _ _
    rw [Cv] at c4; obtain ⟨q, its, rfl, hF, hl, hc⟩ := c4
    have hlen : l.length = its.size := by have := hc.length; simpa using this
    have hl' : (s3.heap.push { cls := .type "slice", data := .fields #[vl, vu, .none] }).IsList q its := hl.push _
    refine tail_any (ops := [.ref s3.heap.objs.size, .ref q]) hl'.typeIs list_getitem_lookup ?_ rfl
    refine wpAny_getItem_list_slice hl' (Heap.IsSliceOf.new ..) pl pu .none (by simp) ?_ (by rw [← hlen, sizeLine_eq]; omega)
    generalize hs4 : ({ s3 with heap := s3.heap.push { cls := .type "slice", data := .fields #[vl, vu, .none] } } : Shared) = s4 at H5 ⊢
    have hn : s4.heap.get? s4.heap.objs.size = none := Heap.get?_none_of_le (Nat.le_refl _)
    have kp : ∀ b o, s4.heap.get? b = some o → (s4.heap.push { cls := .type "list", data := .seq (slicePick its lo hi none) }).get? b = some o := fun b o e => Heap.get?_push_of_some _ e
    have H6 : AtF c a3 t s4 F3 := by rw [← hs4]; exact H4.push _ _
    refine ⟨.lst (pyS l lo hi), a3, _, H6.freeze (tk := s4.toks) hn kp (Heap.get?_push_size _ rfl), ?_, k3.2⟩
    rw [Cv]
    refine ⟨_, slicePick its lo hi none, rfl, .inr rfl, ⟨_, Heap.get?_push_size _ rfl, rfl, _, rfl⟩, ?_⟩
    have e : (slicePick its lo hi none).toList = pyS its.toList lo hi := by
      rw [slicePick_plain]; unfold pyS; rw [Array.length_toList]
    rw [e]
    unfold pyS
    rw [hlen, Array.length_toList]
    have hc2 : CvL (s4.heap.push { cls := .type "list", data := .seq (slicePick its lo hi none) }) (fun b => F3 b ∨ b = s4.heap.objs.size) l its.toList :=
      CvL.mono (fun _ e => .inl e) (fun b o _ e => kp b o (by rw [← hs4]; exact Heap.get?_push_of_some _ e)) hc
    exact CvL.take _ (CvL.drop _ hc2)
  · exact k3.elim
end
end Mine
end
section
namespace Mine
noncomputable def KeptV (W : Wd) : Value → Prop
  | .builtin _ => True
  | .type _ => True
  | .ref q => ∃ oc od fd sl, W.h0.get? q = some ⟨oc, od, .func fd, sl⟩
  | _ => False
theorem KeptV.look {W : Wd} {v : Value} (hk : KeptV W v) (h : Heap) (hh : ∀ b o, W.h0.get? b = some o → h.get? b = some o) :
    ∃ k, (k = Keeper.frame ∨ k = Keeper.machine ∨ k = Keeper.boundFrame) ∧ Looks W.M h (keeperOf v) k := by
  cases v with
  | builtin id => exact ⟨.machine, .inr (.inl rfl), Looks.of_pure rfl⟩
  | type id => exact ⟨.machine, .inr (.inl rfl), Looks.of_pure rfl⟩
  | ref q =>
    obtain ⟨oc, od, fd, sl, e⟩ := hk
    exact keeps_F h ⟨oc, od, fd, sl, hh _ _ e⟩
  | _ => exact hk.elim
/-- a call, its arguments at hand -/
noncomputable def TC (c : Cx) (a : AS) (xs : List AV) (f : List Value → Sem Value) (K : AV → AS → Prop) : Prop :=
  ∀ t s F vs, AtF c a t s F → CvL s.heap F xs vs → wpAny c.W.M c.A (f vs) (Post c t K) FE s
section
variable {c : Cx} {a : AS} {K : AV → AS → Prop}
theorem te_callWith {v : Value} {args : List Expr} {pos : Pos} (hk : KeptV c.W v) (h : TL c a args (fun xs a1 => TC c a1 xs (fun vs => call v vs) K)) (hs : args.all noStar = true) (t s F) (H : AtF c a t s F) :
    wpAny c.W.M c.A (callWith pos v [] (backTo pos (starEach args c.env)) (backToKw pos (keywordEach [] c.env))) (Post c t K) FE s := by
  show wpAny c.W.M c.A (callWith pos v [] (backTo pos (starEach args c.env)) []) (Post c t K) FE s
  have hplain : ∀ args : List Expr, args.all noStar = true → (backTo pos (starEach args c.env)).any (·.1) = false := fun args => by
    induction args with
    | nil => intro _; rfl
    | cons e es ih =>
      intro hs
      rw [List.all_cons, Bool.and_eq_true] at hs
      rw [starEach_cons hs.1]
      show (false || (backTo pos (starEach es c.env)).any (·.1)) = false
      rw [ih hs.2]; rfl
  refine callWith_of (P := fun h => ∀ b o, c.W.h0.get? b = some o → h.get? b = some o) (by rw [hplain args hs]; rfl) (fun h hh => hk.look h hh) ?_
  have key := TL.sound hs h pos t s F H
  cases args with
  | nil =>
    refine evalArgs_nil3 ⟨fun b o e => (H.st.old b o e).2, ?_⟩
    exact h t s F [] H CvL.nil
  | cons e es =>
    rw [List.all_cons, Bool.and_eq_true] at hs
    rw [starEach_cons hs.1] at key ⊢
    refine Calls.evalArgs_plain (wp_mono key fun vs s1 ⟨xs, a1, F1, H1, cx, k1⟩ => ⟨fun b o e => (H1.st.old b o e).2, ?_⟩)
    exact k1 t s1 F1 vs H1 cx
theorem te_call {x : Str} {args : List Expr} {np pos : Pos} {v : Value} (hx : x ∈ c.gl) (hv : Gv c.W x v) (hk : KeptV c.W v) (h : TL c a args (fun xs a1 => TC c a1 xs (fun vs => call v vs) K)) (hs : args.all noStar = true := by rfl) :
    TE c a (.Call (.Name x np) args [] pos) K := fun t s F H => by
  have e : TE c a (.Name x np) (fun w a1 => w = .val v ∧ a1 = a) := te_glob hx hv ⟨rfl, rfl⟩
  refine Call_ (wp_post (e t s F H) fun u s1 w a1 F1 H1 cw kk => ?_)
  obtain ⟨hw, ha⟩ := kk
  subst hw; subst ha
  rw [Cv] at cw; subst cw
  exact te_callWith hk h hs t s1 F1 H1
/-! what a call of a def gives back -/
noncomputable def Fc (W : Wd) (q : Bool) (lvl : Nat) (f : Value) (args : List AV) (R : AV → Prop) : Prop :=
  ∀ (A : Around) (s : Shared) (F : Addr → Prop) (vs : List Value) (Q : Value → Shared → Prop), A.handled = none → A.depth + lvl < recursionLimit → St W s F → CvL s.heap F args vs →
    (∀ v r s' F', R r → St W s' F' → Step W q s F s' F' → Cv s'.heap F' r v → Q v s') → wpAny W.M A (call f vs) Q FE s
theorem Fc.mono {W : Wd} {q : Bool} {lvl : Nat} {f : Value} {args : List AV} {R R' : AV → Prop} (h : Fc W q lvl f args R) (k : ∀ r, R r → R' r) : Fc W q lvl f args R' :=
  fun A s F vs Q h1 h2 h3 h4 h5 => h A s F vs Q h1 h2 h3 h4 fun v r s' F' hr => h5 v r s' F' (k r hr)
theorem tc_fn {q : Bool} {lvl : Nat} {f : Value} {xs : List AV} {R : AV → Prop} (hf : Fc c.W q lvl f xs R) (hq : c.q = true → q = true) (hl : lvl ≤ c.lvl) (h : ∀ r, R r → K r a) : TC c a xs (fun vs => call f vs) K := fun t s F vs H cv => by
  have hr := c.room
  refine hf c.A s F vs _ c.handled (by omega) H.st cv fun v r s' F' hR S' hs cr => ?_
  exact ⟨r, a, F', H.next S' (Step.weaken' hq hs), cr, h r hR⟩
/-! built-in calls -/
theorem tc_len_str {x : List Nat} (hx : x.length ≤ 1000000) (h : K (.int x.length) a) : TC c a [.str x] (fun vs => call (.builtin "len") vs) K := fun t s F vs H cv => by
  rw [CvL] at cv; obtain ⟨v, r, rfl, cx, cv⟩ := cv
  rw [CvL] at cv; subst cv
  rw [Cv] at cx; obtain ⟨t1, rfl⟩ := cx
  refine PySem.P.len_str (by show ¬ ((x.toArray.size : Int) ≥ _); rw [List.size_toArray]; omega) ⟨.int x.length, a, F, H.toks _, ?_, h⟩
  rw [Cv]; exact ⟨_, by show Value.int (x.toArray.size : Int) _ = _; rw [List.size_toArray]⟩
theorem tc_len_lst {l : List AV} (hx : l.length ≤ 1000000) (h : K (.int l.length) a) : TC c a [.lst l] (fun vs => call (.builtin "len") vs) K := fun t s F vs H cv => by
  rw [CvL] at cv; obtain ⟨v, r, rfl, cx, cv⟩ := cv
  rw [CvL] at cv; subst cv
  rw [Cv] at cx; obtain ⟨p, its, rfl, hF, hi, hc⟩ := cx
  have e : l.length = its.size := by have := hc.length; simpa using this
  refine Calls.call_len_list hi (by omega) ⟨.int l.length, a, F, H.toks _, ?_, h⟩
  rw [Cv]; exact ⟨_, by rw [e]⟩
theorem tc_len_mem {p : Addr} {l : List AV} (hm : (p, l) ∈ a.mem) (hx : l.length ≤ 1000000) (h : K (.int l.length) a) : TC c a [.val (.ref p)] (fun vs => call (.builtin "len") vs) K := fun t s F vs H cv => by
  rw [CvL] at cv; obtain ⟨v, r, rfl, cx, cv⟩ := cv
  rw [CvL] at cv; subst cv
  rw [Cv] at cx; subst cx
  obtain ⟨its, n, ho, hc⟩ := H.mem _ hm
  have e : l.length = its.size := by have := hc.length; simpa using this
  refine Calls.call_len_list (l := p) (items := its) ⟨_, ho, rfl, n, rfl⟩ (by omega) ⟨.int l.length, a, F, H.toks _, ?_, h⟩
  rw [Cv]; exact ⟨_, by rw [e]⟩
end
end Mine
end
section
namespace Mine
theorem lookup_nodup {α : Type} : ∀ {l : List (Str × α)} {x : Str} {v : α}, (l.map (·.1)).Nodup → (x, v) ∈ l → l.lookup x = some v
  | (y, w) :: r, x, v, nd, hm => by
    rw [List.lookup_cons]
    rcases List.mem_cons.mp hm with e | hm
    · cases e; simp
    · have hne : x ≠ y := fun e => (List.nodup_cons.mp nd).1 (List.mem_map.mpr ⟨(x, v), hm, e⟩)
      have : (x == y) = false := by simpa using hne
      rw [this]
      exact lookup_nodup (List.nodup_cons.mp nd).2 hm
theorem lookup_zip {names : List Str} {vs : List Value} (nd : names.Nodup) {i : Nat} {x : Str} {v : Value} (hx : names[i]? = some x) (hv : vs[i]? = some v) : ((names.zip vs).reverse).lookup x = some v := by
  refine lookup_nodup ?_ (List.mem_reverse.mpr ?_)
  · rw [List.map_reverse]
    refine (List.reverse_perm _).nodup_iff.mpr ?_
    have : ∀ (names : List Str) (vs : List Value), names.Nodup → ((names.zip vs).map (·.1)).Nodup := fun names => by
      induction names with
      | nil => intro vs _; simp
      | cons y ys ih =>
        intro vs nd
        cases vs with
        | nil => simp
        | cons w ws =>
          rw [List.zip_cons_cons, List.map_cons]
          refine List.nodup_cons.mpr ⟨fun hm => ?_, ih ws (List.nodup_cons.mp nd).2⟩
          obtain ⟨p, hp, e⟩ := List.mem_map.mp hm
          have e' : p.1 = y := e
          exact (List.nodup_cons.mp nd).1 (e' ▸ (List.of_mem_zip hp).1)
    exact this names vs nd
  · have : (names.zip vs)[i]? = some (x, v) := by rw [List.getElem?_zip_eq_some]; exact ⟨hx, hv⟩
    exact List.mem_of_getElem? this
theorem callEnv_fields (fd : FuncData) (L f : Addr) : (callEnv fd L f).scope = fd.scope ∧ (callEnv fd L f).locals = L ∧ (callEnv fd L f).globals = fd.globals ∧ (callEnv fd L f).builtins = fd.builtins := ⟨rfl, rfl, rfl, rfl⟩
/-- what a def's own tables say -/
structure DefOK (W : Wd) (f : Addr) (fd : FuncData) (body : List Stmt) (params names gl : List Str) : Prop where
  at' : ∃ oc od sl, W.h0.get? f = some ⟨oc, od, .func fd, sl⟩
  code : W.h0.CodeRec fd.code fd.qualname
  body : fd.body = .stmts body
  bind : ∀ vs : List Value, vs.length = params.length → bindArgs fd ⟨vs, []⟩ = pure (params.zip vs)
  plain : fd.scope.isCoroutine = false ∧ fd.scope.isGenerator = false ∧ fd.scope.kind = .function
  glob : fd.globals = mainGlobals ∧ fd.builtins = builtinsNs
  pre : ∃ r, names = params ++ r
  nd : names.Nodup
  nk : ∀ x ∈ names, fd.scope.names.lookup x = some .local ∧ (x == ("__debug__" : Str)) = false
  gk : ∀ x ∈ gl, fd.scope.names.lookup x = some .globalImplicit ∧ (x == ("__debug__" : Str)) = false
noncomputable abbrev AS.start (args : List AV) (k : Nat) : AS := ⟨args.map some ++ List.replicate k none, [], []⟩
theorem Fc.introX {W : Wd} {q : Bool} {lvl : Nat} {f : Addr} {fd : FuncData} {body : List Stmt} {params names gl : List Str} {args : List AV} {R : AV → Prop} (D : DefOK W f fd body params names gl)
    (hcell : ∀ x ∈ fd.scope.names, x.2 ≠ .cell) (hn : args.length = params.length)
    (h : ∀ c : Cx, c.W = W → c.names = names → c.gl = gl → c.cells = [] → c.q = q → c.lvl = lvl → c.env.code = fd.code →
      TSs c (.start args (names.length - params.length)) body (fun fl a' => match fl with | .ret x => R x | _ => R .none)) : Fc W q (lvl + 1) (.ref f) args R := by
  intro A s F vs Q hA hroom S cv hQ
  have keep0 : ∀ b o, W.h0.get? b = some o → s.heap.get? b = some o := fun b o e => (S.old b o e).2
  obtain ⟨oc, od, sl, ho⟩ := D.at'
  have hlen : vs.length = params.length := cv.length.symm.trans hn
  refine wpAny_call (codeAny_call_def (R := fun r s' => match r with | .ok (.ret v) => Q v s' | .ok _ => False | .error e => FE e s') (binds := params.zip vs) (by omega) (keep0 _ _ ho) rfl (W.nolimit.keeps keep0) (D.code.keeps keep0) D.body (BindsTo.of_eq (D.bind vs hlen)) hcell (fun x hx => ?_) (fun h₁ hns hk => ?_) D.plain.1 D.plain.2.1 D.plain.2.2)
  · obtain ⟨r, hr⟩ := D.pre
    exact (D.nk x.1 (hr ▸ List.mem_append_left _ (List.of_mem_zip hx).1)).1
  · have hL : s.heap.get? s.heap.objs.size = none := Heap.get?_none_of_le (Nat.le_refl _)
    let c : Cx := { W := W, A := A.deeper (callEnv fd s.heap.objs.size f), env := callEnv fd s.heap.objs.size f, names := names, gl := gl, cells := [], s₀ := s, F₀ := F, st₀ := S, q := q, lvl := lvl
                    handled := hA, room := by show A.depth + 1 + lvl < recursionLimit; omega, kind := D.plain.2.2, globals := D.glob.1, builtins := D.glob.2, nodup := D.nd, nk := D.nk, gk := D.gk, ck := fun x hx => by cases hx }
    have kps : Keeps s { s with heap := h₁, toks := s.toks + (params.zip vs).length } := ⟨h₁, _, rfl, hk⟩
    have S1 := S.keeps kps
    have hPL : s.heap.objs.size ≠ W.P := fun e => by
      obtain ⟨ps, e1, _⟩ := S.tab
      rw [← e, hL] at e1; cases e1
    have cvs : CvL h₁ F args vs := CvL.mono (fun _ e => e) (fun b o _ e => hk b o e) cv
    have H : AtF c (.start args (names.length - params.length)) ⟨[], [], []⟩ { s with heap := h₁, toks := s.toks + (params.zip vs).length } F := by
      refine ⟨S1, Step.weaken (Step.keeps kps), ?_, ?_, ⟨_, hns, ?_⟩, ?_, ?_, ?_, ?_, ?_⟩
      · show ([] ++ ([] ++ (s.heap.objs.size :: ([] : List Addr)))).Nodup
        simp
      · intro b hb
        have : b = s.heap.objs.size := by
          have hb' : b ∈ ([] ++ ([] ++ (s.heap.objs.size :: ([] : List Addr)))) := hb
          simpa using hb'
        subst this
        refine ⟨fun e => ?_, hL, hPL⟩
        obtain ⟨o, ho⟩ := S.ex _ e
        rw [hL] at ho; cases ho
      · intro i x av hx hv
        have hi : i < args.length := by
          rcases Nat.lt_or_ge i args.length with h | h
          · exact h
          · rw [List.getElem?_append_right (by simpa using h)] at hv
            rw [List.getElem?_replicate] at hv
            split at hv <;> cases hv
        have hav : args[i]? = some av := by
          rw [List.getElem?_append_left (by simpa using hi), List.getElem?_map] at hv
          cases ha : args[i]? with
          | none => rw [ha] at hv; cases hv
          | some w => rw [ha] at hv; cases hv; rfl
        obtain ⟨v, hvv, cvv⟩ := cvs.get hav
        obtain ⟨r, hr⟩ := D.pre
        have hx' : params[i]? = some x := by
          have : c.names[i]? = some x := hx
          rw [show c.names = params ++ r from hr, List.getElem?_append_left (by omega)] at this
          exact this
        have ndp : params.Nodup := (List.nodup_append.mp (hr ▸ D.nd)).1
        exact ⟨v, lookup_zip ndp hx' hvv, cvv⟩
      · intro i x e; cases (show ([] : List (Str × Addr))[i]? = some x from e)
      · intro x hx; cases hx
      · intro x hx; cases hx
      · intro x hx; cases hx
      · intro x hx; cases hx
    refine wp_mono (h c rfl rfl rfl rfl rfl rfl rfl ⟨[], [], []⟩ _ F H) fun fl s' ⟨x, a', F', H', cx, hr⟩ => ?_
    show Q _ s'
    cases x with
    | ret x => rw [CvF] at cx; obtain ⟨v, rfl, e⟩ := cx; exact hQ v x s' F' hr H'.st H'.step e
    | next => rw [CvF] at cx; subst cx; exact hQ .none .none s' F' hr H'.st H'.step (by rw [Cv])
    | brk => rw [CvF] at cx; subst cx; exact hQ .none .none s' F' hr H'.st H'.step (by rw [Cv])
    | cont => rw [CvF] at cx; subst cx; exact hQ .none .none s' F' hr H'.st H'.step (by rw [Cv])
theorem Fc.intro {W : Wd} {q : Bool} {lvl : Nat} {f : Addr} {fd : FuncData} {body : List Stmt} {params names gl : List Str} {args : List AV} {R : AV → Prop} (D : DefOK W f fd body params names gl)
    (hcell : ∀ x ∈ fd.scope.names, x.2 ≠ .cell) (hn : args.length = params.length)
    (h : ∀ c : Cx, c.W = W → c.names = names → c.gl = gl → c.cells = [] → c.q = q → c.lvl = lvl →
      TSs c (.start args (names.length - params.length)) body (fun fl a' => match fl with | .ret x => R x | _ => R .none)) : Fc W q (lvl + 1) (.ref f) args R :=
  Fc.introX D hcell hn fun c h1 h2 h3 h4 h5 h6 _ => h c h1 h2 h3 h4 h5 h6
end Mine
end
section
namespace Mine
section
variable {c : Cx} {a : AS} {t : Tmp} {s : Shared} {F : Addr → Prop}
theorem AtF.protStep {I : Addr} {o o' : Obj} {h' : Heap} (H : AtF c a ⟨t.vals, (I, o) :: t.prot, t.kept⟩ s F) (hk : Heap.ExtBut I s.heap h') (ho : h'.get? I = some o') (k : Nat) :
    AtF c a ⟨t.vals, (I, o') :: t.prot, t.kept⟩ { s with heap := h', toks := k } F := by
  have hp : I ∈ owned c a ⟨t.vals, (I, o) :: t.prot, t.kept⟩ := prot_owned (x := (I, o)) (.head _)
  have kf : ∀ b x, F b → s.heap.get? b = some x → h'.get? b = some x := fun b x hb e => hk b x (fun q => (H.own _ hp).1 (q ▸ hb)) e
  have nd := (List.nodup_append.mp H.nod).2.1
  refine H.same hp hk (by rfl) ?_ ?_ ?_ ?_ rfl rfl
  · obtain ⟨m, hn, hl⟩ := H.ns
    exact ⟨m, hn.extBut hk (Ne.symm (H.ne_prot (x := (I, o)) (.head _))), fun j y w e1 e2 => by
      obtain ⟨u, e3, e4⟩ := hl j y w e1 e2; exact ⟨u, e3, Cv.mono (fun _ e => e) kf e4⟩⟩
  · intro j y e
    obtain ⟨ov, hc, hcv⟩ := H.cel j y e
    refine ⟨ov, IsCell.at2 hc fun o2 e' => hk _ _ (Ne.symm (H.ne_prot_cell (x := (I, o)) (.head _) (List.mem_of_getElem? e))) e', fun w e2 => ?_⟩
    obtain ⟨u, e3, e4⟩ := hcv w e2
    exact ⟨u, e3, Cv.mono (fun _ e => e) kf e4⟩
  · intro y hy
    obtain ⟨its, n, ho, hc⟩ := H.mem y hy
    exact ⟨its, n, hk _ _ (H.ne_mem_prot hy (y := (I, o)) (.head _)) ho, CvL.mono (fun _ e => e) kf hc⟩
  · intro y hy
    rcases List.mem_cons.mp hy with rfl | hy
    · exact ho
    · have hne : y.1 ≠ I := fun e => by
        have q := (List.nodup_cons.mp (show (I :: (t.prot.map (·.1) ++ (c.env.locals :: c.cells.map (·.2)))).Nodup from nd)).1
        exact q (List.mem_append_left _ (List.mem_map.mpr ⟨y, hy, e⟩))
      exact hk _ _ hne (H.prot y (.tail _ hy))
theorem AtF.newProt {I : Addr} {o : Obj} {h' : Heap} (H : AtF c a t s F) (hI : s.heap.get? I = none) (hk : ∀ b x, s.heap.get? b = some x → h'.get? b = some x) (ho : h'.get? I = some o) (k : Nat) :
    AtF c a ⟨t.vals, (I, o) :: t.prot, t.kept⟩ { s with heap := h', toks := k } F := by
  have H1 : AtF c a t { s with heap := h', toks := k } F := H.keeps ⟨h', k, rfl, hk⟩
  have hno : I ∉ owned c a t := fun h => by
    obtain ⟨o, ho⟩ := H.exists_owned _ h
    rw [ho] at hI; cases hI
  have hP : I ≠ c.W.P := fun e => by
    obtain ⟨ps, e1, _⟩ := H.st.tab
    rw [← e, hI] at e1; cases e1
  refine { H1 with nod := ?_, own := ?_, prot := ?_ }
  · show (a.mem.map (·.1) ++ (I :: (t.prot.map (·.1) ++ (c.env.locals :: c.cells.map (·.2))))).Nodup
    refine (List.perm_middle.nodup_iff).mpr ?_
    exact List.nodup_cons.mpr ⟨hno, H.nod⟩
  · intro b hb
    have hb' : b ∈ a.mem.map (·.1) ++ (I :: (t.prot.map (·.1) ++ (c.env.locals :: c.cells.map (·.2)))) := hb
    rcases List.mem_cons.mp ((List.perm_middle.mem_iff).mp hb') with rfl | hb
    · refine ⟨fun e => ?_, ?_, hP⟩
      · obtain ⟨o, ho⟩ := H.st.ex _ e; rw [hI] at ho; cases ho
      · cases e : c.s₀.heap.get? b with
        | none => rfl
        | some o => rw [H.step.keep _ o (.inr hP) e] at hI; cases hI
    · exact H1.own b hb
  · intro x hx
    rcases List.mem_cons.mp hx with rfl | hx
    · exact ho
    · exact H1.prot x hx
theorem AtF.dropProt {x : Addr × Obj} (H : AtF c a ⟨t.vals, x :: t.prot, t.kept⟩ s F) : AtF c a t s F := by
  have hp : (owned c a ⟨t.vals, x :: t.prot, t.kept⟩).Perm (x.1 :: owned c a t) := List.perm_middle
  exact { H with nod := (List.nodup_cons.mp (hp.nodup_iff.mp H.nod)).2, own := fun b hb => H.own b (hp.mem_iff.mpr (.tail _ hb)), prot := fun y hy => H.prot y (.tail _ hy) }
theorem AtF.endProt {I : Addr} {o : Obj} {h' : Heap} (H : AtF c a ⟨t.vals, (I, o) :: t.prot, t.kept⟩ s F) (hk : Heap.ExtBut I s.heap h') (k : Nat) :
    AtF c a t { s with heap := h', toks := k } F := by
  have hp : I ∈ owned c a ⟨t.vals, (I, o) :: t.prot, t.kept⟩ := prot_owned (x := (I, o)) (.head _)
  have kf : ∀ b x, F b → s.heap.get? b = some x → h'.get? b = some x := fun b x hb e => hk b x (fun q => (H.own _ hp).1 (q ▸ hb)) e
  have nd := (List.nodup_append.mp H.nod).2.1
  have hperm : (owned c a ⟨t.vals, (I, o) :: t.prot, t.kept⟩).Perm (I :: owned c a t) := List.perm_middle
  refine H.same' hp hk ⟨(List.nodup_cons.mp (hperm.nodup_iff.mp H.nod)).2, fun b hb => hperm.mem_iff.mpr (.tail _ hb)⟩ ?_ ?_ ?_ ?_ rfl rfl
  · obtain ⟨m, hn, hl⟩ := H.ns
    exact ⟨m, hn.extBut hk (Ne.symm (H.ne_prot (x := (I, o)) (.head _))), fun j y w e1 e2 => by
      obtain ⟨u, e3, e4⟩ := hl j y w e1 e2; exact ⟨u, e3, Cv.mono (fun _ e => e) kf e4⟩⟩
  · intro j y e
    obtain ⟨ov, hc, hcv⟩ := H.cel j y e
    refine ⟨ov, IsCell.at2 hc fun o2 e' => hk _ _ (Ne.symm (H.ne_prot_cell (x := (I, o)) (.head _) (List.mem_of_getElem? e))) e', fun w e2 => ?_⟩
    obtain ⟨u, e3, e4⟩ := hcv w e2
    exact ⟨u, e3, Cv.mono (fun _ e => e) kf e4⟩
  · intro y hy
    obtain ⟨its, n, ho, hc⟩ := H.mem y hy
    exact ⟨its, n, hk _ _ (H.ne_mem_prot hy (y := (I, o)) (.head _)) ho, CvL.mono (fun _ e => e) kf hc⟩
  · intro y hy
    have hne : y.1 ≠ I := fun e => by
      have q := (List.nodup_cons.mp (show (I :: (t.prot.map (·.1) ++ (c.env.locals :: c.cells.map (·.2)))).Nodup from nd)).1
      exact q (List.mem_append_left _ (List.mem_map.mpr ⟨y, hy, e⟩))
    exact hk _ _ hne (H.prot y (.tail _ hy))
theorem AtF.dropVals {vs : List (Value × AV)} {kp : List (Addr × Obj)} {pr : List (Addr × Obj)} (H : AtF c a ⟨vs ++ t.vals, pr, kp ++ t.kept⟩ s F) : AtF c a ⟨t.vals, pr, t.kept⟩ s F :=
  { H with vals := fun y hy => H.vals y (List.mem_append_right _ hy), kept := fun y hy => H.kept y (List.mem_append_right _ hy) }
theorem AtF.addKept {x : Addr × Obj} (H : AtF c a t s F) (h : F x.1 ∧ s.heap.get? x.1 = some x.2) : AtF c a ⟨t.vals, t.prot, x :: t.kept⟩ s F :=
  { H with kept := fun y hy => by rcases List.mem_cons.mp hy with rfl | hy; exact h; exact H.kept y hy }
theorem AtF.dropKept {x : Addr × Obj} (H : AtF c a ⟨t.vals, t.prot, x :: t.kept⟩ s F) : AtF c a t s F :=
  { H with kept := fun y hy => H.kept y (.tail _ hy) }
theorem AtF.addKepts {l : List (Addr × Obj)} (H : AtF c a t s F) (h : ∀ x ∈ l, F x.1 ∧ s.heap.get? x.1 = some x.2) : AtF c a ⟨t.vals, t.prot, l ++ t.kept⟩ s F :=
  { H with kept := fun y hy => (List.mem_append.mp hy).elim (h y) (H.kept y) }
theorem AtF.dropAll {vs : List (Value × AV)} {kp : List (Addr × Obj)} {x : Addr × Obj} (H : AtF c a ⟨vs ++ t.vals, x :: t.prot, kp ++ t.kept⟩ s F) : AtF c a t s F := by
  have H1 : AtF c a ⟨vs ++ t.vals, t.prot, kp ++ t.kept⟩ s F := AtF.dropProt (t := ⟨vs ++ t.vals, t.prot, kp ++ t.kept⟩) H
  exact { H1 with vals := fun y hy => H1.vals y (List.mem_append_right _ hy), kept := fun y hy => H1.kept y (List.mem_append_right _ hy) }
noncomputable abbrev TurnK (c : Cx) (K : AFl → AS → Prop) (next : AS → Prop) : AFl → AS → Prop := fun fl a2 => match fl with
  | .next | .cont => next a2
  | .brk => K .next a2
  | .ret v => K (.ret v) a2
/-- a for over anything that walks -/
theorem for_gen {K : AFl → AS → Prop} {target : Expr} {body orelse : List Stmt} {I : Addr} {fp : List Addr} {n : Nat} {P : Nat → Value → Prop} {St : Nat → Heap → Prop} (W : Walks c.W.prog c.W.w c.A I fp [I] n P St) {l : List AV} (hl : l.length = n)
    {vs : List (Value × AV)} {kp : List (Addr × Obj)} {oI : Obj} (hfp : ∀ b ∈ fp, b = I ∨ ∃ o, (b, o) ∈ kp) (hex : ∀ i h, St i h → ∃ o, h.get? I = some o)
    (hgo : ∀ i v (s : Shared) (Q : Unit → Shared → Prop) (E : Value → Shared → Prop), P i v → St (i + 1) s.heap → Q () s → wpAny c.W.M c.A (letOwnedTupleGo target (.ref I) v) Q E s)
    (val : ∀ i v x a s F o, l[i]? = some x → P i v → AtF c a ⟨vs ++ t.vals, (I, o) :: t.prot, kp ++ t.kept⟩ s F → Cv s.heap F x v)
    (J : Nat → AS → Prop) (turn : ∀ i x a, l[i]? = some x → J i a → TA c a target x (fun a1 => TSs c a1 body (TurnK c K (J (i + 1)))))
    (fin : ∀ a, J n a → TSs c a orelse K)
    (H : AtF c a ⟨vs ++ t.vals, (I, oI) :: t.prot, kp ++ t.kept⟩ s F) (hst : St 0 s.heap) (h0 : J 0 a) :
    codeAny c.W.M c.A (.forLoop target (.ref I) body orelse c.env) (fun r s' => match r with | .ok f => PostF c t K f s' | .error e => cameBackBy c.W.M c.A c.env FE e s') s := by
  refine codeAny_forLoop_any (fun k s' => ∃ a F o i, AtF c a ⟨vs ++ t.vals, (I, o) :: t.prot, kp ++ t.kept⟩ s' F ∧ St i s'.heap ∧ i ≤ n ∧ k = n + 1 - i ∧ J i a) ?_ (n + 1) ⟨a, F, oI, 0, H, hst, Nat.zero_le _, rfl, h0⟩
  rintro k s' ⟨a, F, o, i, H, hst, hi, rfl, hJ⟩
  by_cases hlt : i < n
  · refine W.item i s' _ _ hlt hst fun v h' tk hP hst' hk => ?_
    have hk' : Heap.ExtBut I s'.heap h' := fun b x hb e => hk b x (by simpa using hb) e
    obtain ⟨o', ho'⟩ := hex _ _ hst'
    have H1 := AtF.protStep (t := ⟨vs ++ t.vals, t.prot, kp ++ t.kept⟩) H hk' ho' tk
    refine hgo i v _ _ _ hP hst' ?_
    obtain ⟨x, hx⟩ : ∃ x, l[i]? = some x := ⟨_, List.getElem?_eq_getElem (by omega)⟩
    refine wp_pb (turn i x a hx hJ _ _ F v H1 (val i v x a _ F o' hx hP H1)) fun _ s2 a2 F2 H2 k2 => ?_
    refine wp_postF (k2 _ s2 F2 H2) fun fl s3 y a3 F3 H3 cy k3 => ?_
    have next : J (i + 1) a3 → ∃ m, m < n + 1 - i ∧ ∃ a F o i, AtF c a ⟨vs ++ t.vals, (I, o) :: t.prot, kp ++ t.kept⟩ s3 F ∧ St i s3.heap ∧ i ≤ n ∧ m = n + 1 - i ∧ J i a := fun hJ' => by
      refine ⟨n + 1 - (i + 1), by omega, a3, F3, o', i + 1, H3, W.frame _ _ _ hst' fun b hb x e => ?_, hlt, rfl, hJ'⟩
      rcases hfp b hb with rfl | ⟨ob, hob⟩
      · have q := H3.prot (b, o') (.head _)
        have e' : h'.get? b = some x := e
        rw [ho'] at e'; cases e'; exact q
      · have q1 := H1.kept (b, ob) (List.mem_append_left _ hob)
        have q3 := H3.kept (b, ob) (List.mem_append_left _ hob)
        have e' : h'.get? b = some x := e
        rw [show h'.get? b = some ob from q1.2] at e'; cases e'; exact q3.2
    cases y with
    | next => rw [CvF] at cy; subst cy; exact next k3
    | cont => rw [CvF] at cy; subst cy; exact next k3
    | brk => rw [CvF] at cy; subst cy; exact ⟨.next, a3, F3, H3.dropAll, cvF_next, k3⟩
    | ret x => rw [CvF] at cy; obtain ⟨w, rfl, e⟩ := cy; exact ⟨.ret x, a3, F3, H3.dropAll, cvF_ret e, k3⟩
  · have hin : i = n := by omega
    subst hin
    refine W.done s' _ _ hst fun h' tk hk => ?_
    have hk' : Heap.ExtBut I s'.heap h' := fun b x hb e => hk b x (by simpa using hb) e
    -- the iterator may be gone: it is nobody's now
    have H1 : AtF c a t { s' with heap := h', toks := tk } F := AtF.endProt (t := t) (AtF.dropVals H) hk' tk
    exact wp_mono (fin a hJ t _ F H1) fun _ _ p => p
end
end Mine
end
section
namespace Mine
section
variable {c : Cx} {a : AS} {K : AFl → AS → Prop}
theorem letGo_listiter {target : Expr} {I l : Addr} {i : Nat} {v : Value} {Q : Unit → Shared → Prop} {M : Model} {A : Around} {E : Value → Shared → Prop} {s : Shared} (hit : s.heap.IsListIter I l i) (hQ : Q () s) : wpAny M A (letOwnedTupleGo target (.ref I) v) Q E s := by
  obtain ⟨o, ho, hc, hd⟩ := hit
  unfold letOwnedTupleGo
  cases target <;> first
    | exact wpAny_pure hQ
    | (cases v <;> first
        | exact wpAny_pure hQ
        | (refine wpAny_bind (wpAny_load ho ?_)
           rw [hc, hd]
           exact wpAny_pure hQ))
theorem ts_for_lst {target iter : Expr} {body orelse : List Stmt} {pos : Pos} (J : Nat → AS → Prop)
    (h : TE c a iter (fun x a1 => ∃ l, x = .lst l ∧ l.length ≤ 1000000 ∧ J 0 a1 ∧ (∀ i x a, l[i]? = some x → J i a → TA c a target x (fun a1 => TSs c a1 body (TurnK c K (J (i + 1))))) ∧ (∀ a, J l.length a → TSs c a orelse K)))
    (hs : ∀ env x, foldedSetIterable iter env x = pure x := by intro _ _; rfl) : TS c a (.For target iter body orelse pos) K := fun t s F H => by
  refine wpAny_For (wp_post (h t s F H) fun v s1 x a1 F1 H1 cx kk => ?_) (hs _)
  obtain ⟨l, hx, hlen, h0, turn, fin⟩ := kk
  subst hx
  rw [Cv] at cx
  obtain ⟨p, its, rfl, hF, hl, hc⟩ := cx
  obtain ⟨ol, hol, hcl, nl, hdl⟩ := id hl
  refine wpAny_pyIter_list hl ?_
  have hn : s1.heap.get? s1.heap.objs.size = none := Heap.get?_none_of_le (Nat.le_refl _)
  have hne : p ≠ s1.heap.objs.size := Nat.ne_of_lt (Heap.lt_size hol)
  have H2 := (H1.addVals (zipVals hc)).addKepts (l := [(p, ol)]) (fun y hy => by rcases List.mem_singleton.mp hy with rfl; exact ⟨hF, hol⟩)
  have H3 := AtF.newProt (o := { cls := .type "list_iterator", data := .fields #[.ref p, .int 0 0] }) H2 hn (fun b x e => Heap.get?_push_of_some _ e) (Heap.get?_push_size _ rfl) s1.toks
  have hsz : l.length = its.size := by have := hc.length; simpa using this
  refine for_gen (Walks.list c.handled s1.heap.objs.size p hne its) hsz (kp := [(p, ol)]) ?_ (fun i h st => let ⟨o, ho, _⟩ := st.1; ⟨o, ho⟩) (fun i v s Q E _ st hQ => letGo_listiter st.1 hQ) ?_ J turn (by rw [← hsz]; exact fin) H3 ?_ h0
  · intro b hb
    rcases List.mem_cons.mp hb with rfl | hb
    · exact .inl rfl
    · rcases List.mem_singleton.mp hb with rfl; exact .inr ⟨ol, .head _⟩
  · intro i v x a s F o hx hv H
    refine H.vals (v, x) (List.mem_append_left _ ?_)
    have : (its.toList.zip l)[i]? = some (v, x) := by rw [List.getElem?_zip_eq_some]; exact ⟨by rw [Array.getElem?_toList]; exact hv, hx⟩
    exact List.mem_of_getElem? this
  · exact ⟨⟨_, Heap.get?_push_size _ rfl, rfl, rfl⟩, hl.push _⟩
theorem ts_for_tup {x : Str} {px : Pos} {iter : Expr} {body orelse : List Stmt} {pos : Pos} (J : Nat → AS → Prop)
    (h : TE c a iter (fun y a1 => ∃ l, y = .tup l ∧ J 0 a1 ∧ (∀ i y a, l[i]? = some y → J i a → TA c a (.Name x px) y (fun a1 => TSs c a1 body (TurnK c K (J (i + 1))))) ∧ (∀ a, J l.length a → TSs c a orelse K)))
    (hs : ∀ env x, foldedSetIterable iter env x = pure x := by intro _ _; rfl) : TS c a (.For (.Name x px) iter body orelse pos) K := fun t s F H => by
  refine wpAny_For (wp_post (h t s F H) fun v s1 x' a1 F1 H1 cx kk => ?_) (hs _)
  obtain ⟨l, hx, h0, turn, fin⟩ := kk
  subst hx
  rw [Cv] at cx
  obtain ⟨p, its, n, rfl, hF, hol, hc⟩ := cx
  have hl : s1.heap.IsTuple p its := ⟨_, hol, rfl, n, rfl⟩
  refine wpAny_pyIter_tuple hl ?_
  have hn : s1.heap.get? s1.heap.objs.size = none := Heap.get?_none_of_le (Nat.le_refl _)
  have hne : p ≠ s1.heap.objs.size := Nat.ne_of_lt (Heap.lt_size hol)
  have H2 := (H1.addVals (zipVals hc)).addKepts (l := [(p, tupObj its n)]) (fun y hy => by rcases List.mem_singleton.mp hy with rfl; exact ⟨hF, hol⟩)
  have H3 := AtF.newProt (o := { cls := .type "tuple_iterator", data := .fields #[.ref p, .int 0 0] }) H2 hn (fun b x e => Heap.get?_push_of_some _ e) (Heap.get?_push_size _ rfl) s1.toks
  have hsz : l.length = its.size := by have := hc.length; simpa using this
  refine for_gen (Walks.tuple c.handled s1.heap.objs.size p hne its) hsz (kp := [(p, tupObj its n)]) ?_ (fun i h st => let ⟨o, ho, _⟩ := st.1; ⟨o, ho⟩) (fun i v s Q E _ st hQ => wpAny_pure hQ) ?_ J turn (by rw [← hsz]; exact fin) H3 ?_ h0
  · intro b hb
    rcases List.mem_cons.mp hb with rfl | hb
    · exact .inl rfl
    · rcases List.mem_singleton.mp hb with rfl; exact .inr ⟨_, .head _⟩
  · intro i v x a s F o hx hv H
    refine H.vals (v, x) (List.mem_append_left _ ?_)
    have : (its.toList.zip l)[i]? = some (v, x) := by rw [List.getElem?_zip_eq_some]; exact ⟨by rw [Array.getElem?_toList]; exact hv, hx⟩
    exact List.mem_of_getElem? this
  · exact ⟨⟨_, Heap.get?_push_size _ rfl, rfl, rfl⟩, hl.push _⟩
/-- range(n) -/
theorem tc_range1 {K : AV → AS → Prop} {n : Int} (h : K (.rng 0 n 1) a) : TC c a [.int n] (fun vs => call (.type "range") vs) K := fun t s F vs H cv => by
  rw [CvL] at cv; obtain ⟨v, r, rfl, cx, cv⟩ := cv
  rw [CvL] at cv; subst cv
  rw [Cv] at cx; obtain ⟨t1, rfl⟩ := cx
  refine call_range_1 ?_
  have hn : s.heap.get? s.heap.objs.size = none := Heap.get?_none_of_le (Nat.le_refl _)
  refine ⟨.rng 0 n 1, a, _, H.freeze (tk := s.toks + 1 + 1) hn (fun b o e => Heap.get?_push_of_some _ e) (Heap.get?_push_size _ rfl), ?_, h⟩
  rw [Cv]; exact ⟨_, _, _, _, rfl, .inr rfl, Heap.get?_push_size _ rfl⟩
theorem tc_range3 {K : AV → AS → Prop} {x y z : Int} (hz : z ≠ 0) (hs : z.natAbs < 1000000) (h : K (.rng x y z) a) : TC c a [.int x, .int y, .int z] (fun vs => call (.type "range") vs) K := fun t s F vs H cv => by
  rw [CvL] at cv; obtain ⟨v, r, rfl, cx, cv⟩ := cv
  rw [CvL] at cv; obtain ⟨v, r, rfl, cy, cv⟩ := cv
  rw [CvL] at cv; obtain ⟨v, r, rfl, cz, cv⟩ := cv
  rw [CvL] at cv; subst cv
  rw [Cv] at cx cy cz; obtain ⟨t1, rfl⟩ := cx; obtain ⟨t2, rfl⟩ := cy; obtain ⟨t3, rfl⟩ := cz
  refine call_range_3 hz ?_ (.inl (PyProof.noPylong_small (by omega)))
  have hn : s.heap.get? s.heap.objs.size = none := Heap.get?_none_of_le (Nat.le_refl _)
  refine ⟨.rng x y z, a, _, H.freeze (tk := s.toks) hn (fun b o e => Heap.get?_push_of_some _ e) (Heap.get?_push_size _ rfl), ?_, h⟩
  rw [Cv]; exact ⟨_, _, _, _, rfl, .inr rfl, Heap.get?_push_size _ rfl⟩
/-- what a range gives, n of it -/
noncomputable def rngL (x z : Int) (n : Nat) : List AV := (List.range n).map fun (i : Nat) => AV.int (x + (i : Int) * z)
theorem ts_for_rng {x : Str} {px : Pos} {iter : Expr} {body orelse : List Stmt} {pos : Pos} (J : Nat → AS → Prop)
    (h : TE c a iter (fun y a1 => ∃ lo hi st n, y = .rng lo hi st ∧ Builtin.Range.small lo hi st = true ∧ Builtin.Range.rangeSize lo hi st = ((n : Nat) : Int) ∧ J 0 a1 ∧ (∀ i a, i < n → J i a → TA c a (.Name x px) (.int (lo + (i : Int) * st)) (fun a1 => TSs c a1 body (TurnK c K (J (i + 1))))) ∧ (∀ a, J n a → TSs c a orelse K)))
    (hs : ∀ env x, foldedSetIterable iter env x = pure x := by intro _ _; rfl) : TS c a (.For (.Name x px) iter body orelse pos) K := fun t s F H => by
  refine wpAny_For (wp_post (h t s F H) fun v s1 x' a1 F1 H1 cx kk => ?_) (hs _)
  obtain ⟨lo, hi, st, n, hx, hsm, hsz, h0, turn, fin⟩ := kk
  subst hx
  rw [Cv] at cx
  obtain ⟨p, t1, t2, t3, rfl, hF, hr⟩ := cx
  refine wpAny_pyIter_range hr hsm ?_
  rw [hsz]
  have hn : s1.heap.get? s1.heap.objs.size = none := Heap.get?_none_of_le (Nat.le_refl _)
  have H3 := AtF.newProt (o := { cls := .type "range_iterator", data := .fields #[rawInt lo, rawInt n, rawInt st] }) H1 hn (fun b x e => Heap.get?_push_of_some _ e) (Heap.get?_push_size _ rfl) s1.toks
  refine for_gen (l := rngL lo st n) (vs := []) (kp := []) (Walks.range c.handled s1.heap.objs.size lo st n) (by simp [rngL]) (fun b hb => .inl (by simpa using hb)) (fun i h e => ⟨_, e⟩) (fun i v s Q E _ st hQ => wpAny_pure hQ) ?_ J ?_ fin H3 ?_ h0
  · intro i v x a s F o hx ⟨tv, hv⟩ H
    have : x = .int (lo + (i : Int) * st) := by
      obtain ⟨h1, h2⟩ := List.getElem?_eq_some_iff.mp hx
      rw [← h2]; simp [rngL]
    subst this; subst hv
    rw [Cv]; exact ⟨tv, rfl⟩
  · intro i x a hx hJ
    have hi : i < n := by
      have := (List.getElem?_eq_some_iff.mp hx).1
      simpa [rngL] using this
    have : x = .int (lo + (i : Int) * st) := by
      obtain ⟨h1, h2⟩ := List.getElem?_eq_some_iff.mp hx
      rw [← h2]; simp [rngL]
    subst this
    exact turn i a hi hJ
  · show (s1.heap.push _).get? _ = _
    rw [Heap.get?_push_size _ rfl]
    simp [rawInt]
end
end Mine
end
section
namespace Mine
section
variable {c : Cx} {a : AS} {t : Tmp} {s : Shared} {F : Addr → Prop}
theorem AtF.addProt (H : AtF c a t s F) {I : Addr} {o : Obj} (hI : I ∉ owned c a t) (hF : ¬ F I) (h0 : c.s₀.heap.get? I = none) (hP : I ≠ c.W.P) (ho : s.heap.get? I = some o) : AtF c a ⟨t.vals, (I, o) :: t.prot, t.kept⟩ s F := by
  refine { H with nod := ?_, own := ?_, prot := ?_ }
  · show (a.mem.map (·.1) ++ (I :: (t.prot.map (·.1) ++ (c.env.locals :: c.cells.map (·.2))))).Nodup
    refine (List.perm_middle.nodup_iff).mpr ?_
    exact List.nodup_cons.mpr ⟨hI, H.nod⟩
  · intro b hb
    have hb' : b ∈ a.mem.map (·.1) ++ (I :: (t.prot.map (·.1) ++ (c.env.locals :: c.cells.map (·.2)))) := hb
    rcases List.mem_cons.mp ((List.perm_middle.mem_iff).mp hb') with rfl | hb
    · exact ⟨hF, h0, hP⟩
    · exact H.own b hb
  · intro x hx
    rcases List.mem_cons.mp hx with rfl | hx
    · exact ho
    · exact H.prot x hx
theorem AtF.freeze0 (H : AtF c a t s F) {D : Addr} {o : Obj} (hD : D ∉ owned c a t) (h0 : c.s₀.heap.get? D = none) (hP : D ≠ c.W.P) (ho : s.heap.get? D = some o) : AtF c a t s (fun b => F b ∨ b = D) := by
  have sub : ∀ b, F b → F b ∨ b = D := fun _ e => .inl e
  refine ⟨⟨fun b o e => ⟨.inl (H.st.old b o e).1, (H.st.old b o e).2⟩, fun b e => ?_, fun e => ?_, ?_, H.st.bare⟩, ⟨H.step.keep, fun b e => .inl (H.step.sub b e), fun b e => ?_, H.step.os, H.step.drawn, H.step.gens⟩, H.nod, fun b hb => ⟨fun e => ?_, (H.own b hb).2⟩, ?_, ?_, ?_, H.prot, ?_, ?_⟩
  · rcases e with e | rfl
    · exact H.st.ex b e
    · exact ⟨o, ho⟩
  · rcases e with e | e
    · exact H.st.notP e
    · exact hP e.symm
  · obtain ⟨ps, e, ok⟩ := H.st.tab
    exact ⟨ps, e, c.W.tabKeep ok sub fun _ _ _ e => e⟩
  · rcases e with e | rfl
    · exact H.step.new b e
    · exact .inr h0
  · rcases e with e | rfl
    · exact (H.own b hb).1 e
    · exact hD hb
  · obtain ⟨m, hn, hl⟩ := H.ns
    exact ⟨m, hn, fun i x av e1 e2 => by obtain ⟨v, e3, e4⟩ := hl i x av e1 e2; exact ⟨v, e3, Cv.mono sub (fun _ _ _ e => e) e4⟩⟩
  · intro i x e
    obtain ⟨ov, h1, h2⟩ := H.cel i x e
    exact ⟨ov, h1, fun av e => by obtain ⟨v, e3, e4⟩ := h2 av e; exact ⟨v, e3, Cv.mono sub (fun _ _ _ e => e) e4⟩⟩
  · intro x hx
    obtain ⟨its, n, ho, hc⟩ := H.mem x hx
    exact ⟨its, n, ho, CvL.mono sub (fun _ _ _ e => e) hc⟩
  · intro x hx
    exact Cv.mono sub (fun _ _ _ e => e) (H.vals x hx)
  · intro x hx
    exact ⟨.inl (H.kept x hx).1, (H.kept x hx).2⟩
/-- all local names are let go, and what was ours -/
theorem AtF.bare (H : AtF c a t s F) (k : Nat) (hc : c.cells = []) : AtF c ⟨List.replicate k none, [], []⟩ t s F := by
  have hs : List.Sublist (owned c ⟨List.replicate k none, [], []⟩ t) (owned c a t) := List.sublist_append_right _ _
  refine { H with nod := H.nod.sublist hs, own := fun b hb => H.own b (hs.mem hb), ns := ?_, cel := ?_, mem := fun x hx => by cases hx }
  · obtain ⟨m, hn, hl⟩ := H.ns
    refine ⟨m, hn, fun i x av e1 e2 => ?_⟩
    rw [List.getElem?_replicate] at e2
    split at e2 <;> cases e2
  · intro i x e
    rw [hc] at e; cases e
theorem lookup_relabel_of {env : Env} {kk : NameKind} (hne : kk ≠ .free) : ∀ {names : List (Str × NameKind)} {x : Str}, names.lookup x = some kk →
    (names.map fun (n, k) => if (k == NameKind.free && env.scope.kind == .function && env.kindOf n == some .cell) then (n, NameKind.cell) else (n, k)).lookup x = some kk
  | [], _, h => by simp at h
  | (n, k) :: r, x, h => by
    have ih := @lookup_relabel_of env kk hne r x
    show List.lookup x ((if (k == NameKind.free && env.scope.kind == .function && env.kindOf n == some .cell) = true then (n, NameKind.cell) else (n, k)) :: _) = _
    cases hx : x == n with
    | true =>
      simp only [List.lookup_cons, hx] at h
      cases h
      have : (kk == NameKind.free) = false := by simpa using hne
      simp [List.lookup_cons, hx, this]
    | false =>
      simp only [List.lookup_cons, hx] at h
      by_cases hc : (k == NameKind.free && env.scope.kind == .function && env.kindOf n == some .cell) = true
      · rw [if_pos hc]; simp only [List.lookup_cons, hx]; exact ih h
      · rw [if_neg hc]; simp only [List.lookup_cons, hx]; exact ih h
theorem lookup_relabel_free {env : Env} (hk : env.scope.kind = .function) : ∀ {names : List (Str × NameKind)} {x : Str}, env.kindOf x = some .cell → names.lookup x = some .free →
    (names.map fun (n, k) => if (k == NameKind.free && env.scope.kind == .function && env.kindOf n == some .cell) then (n, NameKind.cell) else (n, k)).lookup x = some .cell
  | [], _, _, h => by simp at h
  | (n, k) :: r, x, hx0, h => by
    have ih := @lookup_relabel_free env hk r x hx0
    show List.lookup x ((if (k == NameKind.free && env.scope.kind == .function && env.kindOf n == some .cell) = true then (n, NameKind.cell) else (n, k)) :: _) = _
    cases hx : x == n with
    | true =>
      simp only [List.lookup_cons, hx] at h
      cases h
      have : x = n := by simpa using hx
      subst this
      simp [List.lookup_cons, hk, hx0]
    | false =>
      simp only [List.lookup_cons, hx] at h
      by_cases hc : (k == NameKind.free && env.scope.kind == .function && env.kindOf n == some .cell) = true
      · rw [if_pos hc]; simp only [List.lookup_cons, hx]; exact ih h
      · rw [if_neg hc]; simp only [List.lookup_cons, hx]; exact ih h
theorem closureFor_some {scope : Scope} {env : Env} (h : ∀ x ∈ scope.names, x.2 = .free → ∃ p, env.cells.lookup x.1 = some p) :
    ∃ cl, closureFor scope env = pure cl ∧ ∀ x, scope.names.lookup x = some .free → cl.lookup x = env.cells.lookup x := by
  have key : ∀ (l : List (Str × NameKind)) (cs : List (Str × Addr)), (∀ x ∈ l, x.2 = .free → ∃ p, env.cells.lookup x.1 = some p) →
      ∃ cl, (forIn l cs fun (x : Str × NameKind) r => if (x.2 == NameKind.free) = true then do let y ← cellOf env x.1; pure (ForInStep.yield ((x.1, y) :: r)) else pure (ForInStep.yield r) : Sem _) = pure cl ∧
        (∀ x, (cs.lookup x = none ∨ cs.lookup x = env.cells.lookup x) → (cl.lookup x = cs.lookup x ∨ cl.lookup x = env.cells.lookup x) ∧ (l.lookup x = some .free → cl.lookup x = env.cells.lookup x)) := by
    intro l
    induction l with
    | nil => intro cs _; exact ⟨cs, rfl, fun x _ => ⟨.inl rfl, fun e => by simp at e⟩⟩
    | cons y r ih =>
      obtain ⟨n, k⟩ := y
      intro cs h
      by_cases hk : k = .free
      · subst hk
        obtain ⟨p, hp⟩ := h (n, .free) (.head _) rfl
        have hcell : cellOf env n = pure p := by unfold cellOf; rw [hp]
        obtain ⟨cl, e, e2⟩ := ih ((n, p) :: cs) fun x hx => h x (.tail _ hx)
        refine ⟨cl, ?_, fun x hx => ?_⟩
        · rw [List.forIn_cons]
          simp only [beq_self_eq_true, if_true, hcell, pure_bind]
          exact e
        · by_cases hxn : x = n
          · subst hxn
            have q := (e2 x (.inr (by simp [List.lookup_cons, hp]))).1
            have q' : cl.lookup x = env.cells.lookup x := by
              rcases q with q | q
              · rw [q]; simp [List.lookup_cons, hp]
              · exact q
            exact ⟨.inr q', fun _ => q'⟩
          · have hb : (x == n) = false := by simpa using hxn
            have l1 : ((n, p) :: cs).lookup x = cs.lookup x := by simp [List.lookup_cons, hb]
            have q := e2 x (by rw [l1]; exact hx)
            rw [l1] at q
            exact ⟨q.1, fun e => q.2 (by simpa [List.lookup_cons, hb] using e)⟩
      · obtain ⟨cl, e, e2⟩ := ih cs fun x hx => h x (.tail _ hx)
        refine ⟨cl, ?_, fun x hx => ?_⟩
        · rw [List.forIn_cons]
          have : (k == NameKind.free) = false := by simpa using hk
          simp only [this, Bool.false_eq_true, if_false, pure_bind]
          exact e
        · have q := e2 x hx
          refine ⟨q.1, fun e => ?_⟩
          by_cases hxn : x = n
          · subst hxn; simp [List.lookup_cons] at e; exact absurd e hk
          · have hb : (x == n) = false := by simpa using hxn
            exact q.2 (by simpa [List.lookup_cons, hb] using e)
  obtain ⟨cl, e, e2⟩ := key scope.names [] h
  refine ⟨cl, ?_, fun x hx => (e2 x (.inl rfl)).2 hx⟩
  show ((forIn scope.names [] fun (x : Str × NameKind) r => if (x.2 == NameKind.free) = true then do let y ← cellOf env x.1; pure (ForInStep.yield ((x.1, y) :: r)) else pure (ForInStep.yield r) : Sem _) >>= fun r => pure r) = _
  rw [e]; rfl
end
end Mine
end
section
namespace Mine
noncomputable def TTs (c : Cx) (a : AS) (ifs : List Expr) (K : Bool → AS → Prop) : Prop := match ifs with
  | [] => K true a
  | [e] => TB c a e K
  | _ => False
structure CompStat (c : Cx) (scope : Scope) (x : Str) (gl frees : List Str) : Prop where
  hcell : ∀ y ∈ scope.names, y.2 ≠ .cell
  hkind : scope.kind = .function
  hnames : ∀ y ∈ scope.names, y.2 = .local → scope.names.lookup y.1 = some .local
  nx : scope.names.lookup x = some .local ∧ (x == ("__debug__" : Str)) = false
  gk : ∀ x ∈ gl, scope.names.lookup x = some .globalImplicit ∧ (x == ("__debug__" : Str)) = false
  free : ∀ y ∈ scope.names, y.2 = .free → ∃ ca, (y.1, ca) ∈ c.cells
  fr : ∀ y ∈ frees, scope.names.lookup y = some .free
/-- a block of its own: one name, the world quiet -/
structure SubC (c : Cx) (a : AS) (x : Str) (gl frees : List Str) (c' : Cx) : Prop where
  W : c'.W = c.W
  names : c'.names = [x]
  gl : c'.gl = gl
  cells : c'.cells = []
  q : c'.q = true
  lvl : c'.lvl = c.lvl
  free : ∀ (i : Nat) (y : Str) (ca : Addr) (av : AV), c.cells[i]? = some (y, ca) → a.cel[i]? = some (some av) → y ∈ frees → FreeOK c' y av
noncomputable abbrev base1 : AS := ⟨[none], [], []⟩
section
variable {c : Cx} {a : AS} {t : Tmp} {s : Shared} {F : Addr → Prop}
theorem comp_core {elt iter : Expr} {x : Str} {px : Pos} {ifs : List Expr} {scope : Scope} {cl : List (Str × Addr)} {pos : Pos} {gl frees : List Str} {RR : Value → Addr → Result → Shared → Prop} {E : Value → Shared → Prop}
    (C : CompStat c scope x gl frees) (hcl : ∀ y, scope.names.lookup y = some .free → cl.lookup y = c.env.cells.lookup y)
    {α : Type} (l : List α) (f : α → AV) (g : α → Option AV) (hlen : l.length ≤ 1000000)
    {s₂ : Shared} {I : Addr} {fp : List Addr} {n : Nat} {P : Nat → Value → Prop} {St : Nat → Heap → Prop} (W : Walks c.W.prog c.W.w c.A I fp [I] n P St) (hl : l.length = n)
    {vs : List (Value × AV)} {kp : List (Addr × Obj)} {oI : Obj} (hfp : ∀ b ∈ fp, b = I ∨ ∃ o, (b, o) ∈ kp) (hex : ∀ i h, St i h → ∃ o, h.get? I = some o)
    (val : ∀ (c' : Cx) (a' : AS) (t' : Tmp) i v x s F, l[i]? = some x → P i v → AtF c' a' t' s F → (∀ y ∈ vs, y ∈ t'.vals) → Cv s.heap F (f x) v)
    (H : AtF c a t s F) (hI : s.heap.get? I = none) (hIs : s₂.heap.get? I = some oI) (hk : Keeps s s₂)
    (hvs : ∀ y ∈ vs, Cv s.heap F y.2 y.1) (hkp : ∀ y ∈ kp, F y.1 ∧ s.heap.get? y.1 = some y.2) (hst : St 0 s₂.heap)
    (turn : ∀ (c' : Cx), SubC c a x gl frees c' → ∀ z ∈ l, TTs c' ⟨[some (f z)], [], []⟩ ifs (fun b a2 => if b = true then TE c' a2 elt (fun y _ => g z = some y) else g z = none))
    (hRR : ∀ D Cc oC h tk F', AtF c a ⟨t.vals, (Cc, oC) :: t.prot, t.kept⟩ { s₂ with heap := h, toks := tk } F' → (∃ m, h.Ns Cc m) → Cv h F' (.lst (l.filterMap g)) (.ref D) → RR (.ref D) Cc (.ok .next) { s₂ with heap := h, toks := tk }) :
    wpAny c.W.M c.A (newList []) (fun acc s₃ => wpAny c.W.M c.A (newFunctionEnv scope c.env.globals cl [] c.env.qual none .none (some c.env)) (fun cenv s₄ =>
      codeAny c.W.M c.A (.compStart (.ListComp elt [⟨.Name x px, iter, ifs, 0⟩] scope pos) 0 (.ref I) acc { cenv with scope := relabel scope c.env }) (RR acc cenv.locals) s₄) E s₃) E s₂ := by
  refine wpAny_newObj_type (wpAny_newFunctionEnv C.hcell (by intro y hy; simp at hy) (fun h₁ hns₁ hsb₁ => ?_) C.hkind)
  dsimp only at hns₁ hsb₁ ⊢
  generalize hH2 : s₂.heap.push { cls := .type "list", dict := none, data := .seq ([] : List Value).toArray } = H2 at hns₁ hsb₁ ⊢
  have hC : H2.objs.size = s₂.heap.objs.size + 1 := by rw [← hH2, Heap.size_push]
  have hDC : s₂.heap.objs.size ≠ H2.objs.size := by rw [hC]; exact Nat.ne_of_lt (Nat.lt_succ_self _)
  have below : ∀ b, b < s₂.heap.objs.size → b ≠ H2.objs.size ∧ b ≠ s₂.heap.objs.size := fun b hb => ⟨by rw [hC]; exact Nat.ne_of_lt (Nat.lt_succ_of_lt hb), Nat.ne_of_lt hb⟩
  have old : ∀ b o, s₂.heap.get? b = some o → h₁.get? b = some o := fun b o e => hsb₁.extBut b o (below b (Heap.lt_size e)).1 (Heap.get?_push_of_some _ (hH2 ▸ Heap.get?_push_of_some _ e))
  have hacc : h₁.get? s₂.heap.objs.size = some (lstObj #[] 0) := hsb₁.extBut _ _ hDC (Heap.get?_push_of_some _ (hH2 ▸ Heap.get?_push_size _ rfl))
  have hIlt : I < s₂.heap.objs.size := Heap.lt_size hIs
  have hst₁ : St 0 h₁ := W.frame _ _ _ hst fun b _ o e => old b o e
  have kps : Keeps s { s₂ with heap := h₁, toks := s₂.toks + ([] : List (Str × Value)).length } := by
    obtain ⟨h', tk, rfl, k⟩ := hk
    exact ⟨h₁, _, rfl, fun b o e => old b o (k b o e)⟩
  have fresh : ∀ b, s₂.heap.objs.size ≤ b → s.heap.get? b = none := fun b hb => by
    cases e : s.heap.get? b with
    | none => rfl
    | some o =>
      obtain ⟨h', tk, rfl, k⟩ := hk
      exact absurd (Heap.lt_size (k b o e)) (Nat.not_lt.mpr hb)
  have hD0 : s.heap.get? s₂.heap.objs.size = none := fresh _ (Nat.le_refl _)
  have hC0 : s.heap.get? H2.objs.size = none := fresh _ (by rw [hC]; exact Nat.le_succ _)
  have notF : ∀ b, s.heap.get? b = none → ¬ F b := fun b e hb => by
    obtain ⟨o, ho⟩ := H.st.ex b hb
    rw [e] at ho; cases ho
  have notP : ∀ b, s.heap.get? b = none → b ≠ c.W.P := fun b e hb => by
    obtain ⟨ps, e1, _⟩ := H.st.tab
    rw [← hb, e] at e1; cases e1
  let c' : Cx := { W := c.W, A := c.A, env := compEnvC scope cl H2.objs.size c.env, names := [x], gl := gl, cells := [], s₀ := s, F₀ := F, st₀ := H.st, q := true, lvl := c.lvl
                   handled := c.handled, room := c.room, kind := C.hkind, globals := c.globals, builtins := c.builtins, nodup := by simp
                   nk := fun y hy => by rw [List.mem_singleton.mp hy]; exact ⟨lookup_relabel_local C.nx.1, C.nx.2⟩
                   gk := fun y hy => ⟨lookup_relabel_of (by decide) (C.gk y hy).1, (C.gk y hy).2⟩, ck := fun y hy => by cases hy }
  have sub : SubC c a x gl frees c' := by
    refine ⟨rfl, rfl, rfl, rfl, rfl, rfl, fun i y ca av h1 h2 h3 => ?_⟩
    obtain ⟨ov, h4, h5⟩ := H.cel i _ h1
    obtain ⟨v, rfl, h6⟩ := h5 av h2
    have hm := List.mem_of_getElem? h1
    have q := c.ck _ hm
    exact ⟨lookup_relabel_free c.kind q.1 (C.fr y h3), q.2.2, ca, v, (hcl y (C.fr y h3)).trans q.2.1, h4, h6, (H.own _ (cell_owned hm)).2.2⟩
  have cvk : ∀ {y v}, Cv s.heap F y v → Cv h₁ F y v := fun e => Cv.mono (fun _ e => e) (fun b o _ e => by
    obtain ⟨h', tk, e1, k⟩ := kps
    have : h₁ = h' := by injection e1
    rw [this]; exact k b o e) e
  have H' : AtF c' base1 ⟨vs, [(I, oI), (s₂.heap.objs.size, lstObj #[] 0)], kp⟩ { s₂ with heap := h₁, toks := s₂.toks + ([] : List (Str × Value)).length } F := by
    refine ⟨H.st.keeps kps, Step.weaken (Step.keeps kps), ?_, ?_, ⟨_, hns₁, ?_⟩, ?_, ?_, ?_, ?_, ?_⟩
    · show ([I, s₂.heap.objs.size, H2.objs.size] : List Addr).Nodup
      have h1 := Nat.ne_of_lt hIlt
      have h2 := (below I hIlt).1
      simp [h1, h2, hDC]
    · intro b hb
      have hb : b ∈ ([I, s₂.heap.objs.size, H2.objs.size] : List Addr) := hb
      have h0 : s.heap.get? b = none := by
        rcases List.mem_cons.mp hb with rfl | hb
        · exact hI
        rcases List.mem_cons.mp hb with rfl | hb
        · exact hD0
        rcases List.mem_cons.mp hb with rfl | hb
        · exact hC0
        · cases hb
      exact ⟨notF b h0, h0, notP b h0⟩
    · intro i y av e1 e2
      cases i with
      | zero => cases e2
      | succ i => cases e2
    · intro i y e; cases e
    · intro y hy; cases hy
    · intro y hy
      rcases List.mem_cons.mp hy with rfl | hy
      · exact old _ _ hIs
      rcases List.mem_cons.mp hy with rfl | hy
      · exact hacc
      · cases hy
    · intro y hy; exact cvk (hvs y hy)
    · intro y hy
      refine ⟨(hkp y hy).1, ?_⟩
      obtain ⟨h', tk, e1, k⟩ := kps
      have : h₁ = h' := by injection e1
      show h₁.get? _ = _
      rw [this]; exact k _ _ (hkp y hy).2
  have loop : ∀ s₃ : Shared, s₃ = { s₂ with heap := h₁, toks := s₂.toks + ([] : List (Str × Value)).length } →
      codeAny c.W.M c.A (.compLoop (.ListComp elt [⟨.Name x px, iter, ifs, 0⟩] scope pos) 0 (.ref I) (.ref s₂.heap.objs.size) (compEnvC scope cl H2.objs.size c.env))
        (RR (.ref s₂.heap.objs.size) H2.objs.size) s₃ := by
    rintro s₃ rfl
    refine codeAny_compLoop_tests (env := c'.env)
      (fun k s' => ∃ (oI : Obj) (ys : List Value) (avs : List AV) (F' : Addr → Prop) (i : Nat), AtF c' base1 ⟨ys.zip avs ++ vs, [(I, oI), (s₂.heap.objs.size, lstObj ys.toArray ys.length)], kp⟩ s' F' ∧ St i s'.heap ∧ i ≤ n ∧ k = n + 1 - i ∧ ys.length = avs.length ∧ avs = (l.take i).filterMap g) ?_ (n + 1)
      ⟨oI, [], [], F, 0, H', hst₁, Nat.zero_le _, rfl, rfl, by simp⟩
    rintro k s' ⟨oI, ys, avs, F', i, H1, hst', hi, rfl, hyl, havs⟩
    have H1s : ∃ h tk, s' = { s₂ with heap := h, toks := tk } := by
      have e1 := H1.step.os; have e2 := H1.step.drawn; have e3 := H1.step.gens rfl
      obtain ⟨h', tk, e, _⟩ := hk
      refine ⟨s'.heap, s'.toks, ?_⟩
      have : s₂.os = s.os ∧ s₂.drawn = s.drawn ∧ s₂.gens = s.gens := by rw [e]; exact ⟨rfl, rfl, rfl⟩
      cases s'; cases s₂
      simp only at e1 e2 e3 this ⊢
      rw [e1, e2, e3, this.1, this.2.1, this.2.2]
    by_cases hlt : i < n
    · refine W.item i s' _ _ hlt hst' fun v h' tk hP hst2 hk2 => ?_
      have hk' : Heap.ExtBut I s'.heap h' := fun b x hb e => hk2 b x (by simpa using hb) e
      obtain ⟨o', ho'⟩ := hex _ _ hst2
      have H2' : AtF c' base1 ⟨ys.zip avs ++ vs, [(I, o'), (s₂.heap.objs.size, lstObj ys.toArray ys.length)], kp⟩ { s' with heap := h', toks := tk } F' := AtF.protStep (t := ⟨ys.zip avs ++ vs, [(s₂.heap.objs.size, lstObj ys.toArray ys.length)], kp⟩) H1 hk' ho' tk
      obtain ⟨z, hz⟩ : ∃ z, l[i]? = some z := ⟨_, List.getElem?_eq_getElem (by omega)⟩
      have cz := val c' _ _ i v z _ F' hz hP H2' (fun y hy => List.mem_append_right _ hy)
      refine wpAny_assign_Name (wp_mono (store_loc (c := c') (x := x) (Q := fun _ s3 => AtF c' ⟨[some (f z)], [], []⟩ ⟨ys.zip avs ++ vs, [(I, o'), (s₂.heap.objs.size, lstObj ys.toArray ys.length)], kp⟩ s3 F') 0 H2' rfl (by simp) cz fun s3 H3 => H3) fun _ s3 H3 => ?_)
      have take_succ : (l.take (i + 1)).filterMap g = avs ++ (g z).toList := by
        rw [havs, List.take_add_one, List.filterMap_append, hz]
        cases hg : g z <;> simp [hg]
      have stay : ∀ {s4 F4 a4} (ys' : List Value) (t4 : List (Value × AV)), AtF c' a4 ⟨t4, [(I, o'), (s₂.heap.objs.size, lstObj ys'.toArray ys'.length)], kp⟩ s4 F4 → St (i + 1) s4.heap := fun ys' t4 H4 => by
        refine W.frame _ _ _ hst2 fun b hb x e => ?_
        rcases hfp b hb with rfl | ⟨ob, hob⟩
        · have q := H4.prot (b, o') (.head _)
          have e' : h'.get? b = some x := e
          rw [ho'] at e'; cases e'; exact q
        · have q1 := H2'.kept (b, ob) hob
          have q3 := H4.kept (b, ob) hob
          have e' : h'.get? b = some x := e
          rw [show h'.get? b = some ob from q1.2] at e'; cases e'; exact q3.2
      have tests : wpAny c'.W.M c'.A (forIn ifs true fun c r => if r = true then do let ok ← isTrue c c'.env (eval c c'.env); pure (ForInStep.yield ok) else pure (ForInStep.yield r))
          (fun b s4 => ∃ a4 F4, AtF c' a4 ⟨ys.zip avs ++ vs, [(I, o'), (s₂.heap.objs.size, lstObj ys.toArray ys.length)], kp⟩ s4 F4 ∧ (if b = true then TE c' a4 elt (fun y _ => g z = some y) else g z = none)) FE s3 := by
        have tz := turn c' sub z (List.mem_of_getElem? hz)
        match ifs, tz with
        | [], tz => exact wpAny_tests_nil ⟨_, F', H3, tz⟩
        | [e], tz => exact wpAny_tests_one (tz _ s3 F' H3)
        | _ :: _ :: _, tz => exact tz.elim
      refine wp_mono tests fun b s4 ⟨a4, F4, H4, k4⟩ => ?_
      cases b with
      | false =>
        rw [if_neg (by decide)] at k4
        rw [if_neg (by decide)]
        exact ⟨n + 1 - (i + 1), by omega, o', ys, avs, F4, i + 1, H4.bare 1 rfl, stay _ _ H4, hlt, rfl, hyl, by rw [take_succ, k4]; simp⟩
      | true =>
        rw [if_pos rfl] at k4
        rw [if_pos rfl]
        refine wp_post (k4 _ s4 F4 H4) fun y s5 yv a5 F5 H5 cy hg => ?_
        have hys : ys.length ≤ 1000000 := by
          rw [hyl, havs]
          have := List.length_filterMap_le g (l.take i)
          rw [List.length_take] at this
          omega
        have zD := H5.prot (s₂.heap.objs.size, lstObj ys.toArray ys.length) (.tail _ (.head _))
        refine append_at (hsz := by show ys.toArray.size ≤ sizeLine; rw [List.size_toArray, sizeLine_eq]; omega) zD fun h₅ hs₅ hD₅ => ?_
        have H6 := (H5.pushVal cy).bare 1 rfl
        have Hsw : ∀ {p q : Addr × Obj} {tv : List (Value × AV)} {s F}, AtF c' base1 ⟨tv, [p, q], kp⟩ s F → AtF c' base1 ⟨tv, [q, p], kp⟩ s F := fun {p q tv s F} Hs => by
          have hp : (owned c' base1 ⟨tv, [q, p], kp⟩).Perm (owned c' base1 ⟨tv, [p, q], kp⟩) := List.Perm.swap _ _ _
          exact { Hs with nod := hp.nodup_iff.mpr Hs.nod, own := fun b hb => Hs.own b (hp.mem_iff.mp hb), prot := fun y hy => Hs.prot y (by
            rcases List.mem_cons.mp hy with rfl | hy
            · exact .tail _ (.head _)
            rcases List.mem_cons.mp hy with rfl | hy
            · exact .head _
            · cases hy) }
        have e5 : ({ cls := .type "list", data := .seq (ys.toArray.push y) (ys.length + 1) } : Obj) = lstObj (ys ++ [y]).toArray (ys ++ [y]).length := by
          show ({ cls := .type "list", data := .seq (ys.toArray.push y) (ys.length + 1) } : Obj) = { cls := .type "list", data := .seq (ys ++ [y]).toArray (ys ++ [y]).length }
          rw [List.length_append, List.length_singleton, List.push_toArray]
        have H7 := AtF.protStep (t := ⟨(y, yv) :: (ys.zip avs ++ vs), [(I, o')], kp⟩) (Hsw H6) hs₅.extBut (hD₅.trans (congrArg some e5)) s5.toks
        have H8 : AtF c' base1 ⟨(ys ++ [y]).zip (avs ++ [yv]) ++ vs, [(I, o'), (s₂.heap.objs.size, lstObj (ys ++ [y]).toArray (ys ++ [y]).length)], kp⟩ { s5 with heap := h₅ } F5 := by
          have H7' := Hsw H7
          refine { H7' with vals := fun w hw => H7'.vals w ?_ }
          rw [List.zip_append hyl] at hw
          simp only [List.mem_append, List.mem_cons, List.zip_cons_cons, List.zip_nil_left, List.not_mem_nil, or_false] at hw ⊢
          rcases hw with (hw | hw) | hw
          · exact .inr (.inl hw)
          · exact .inl hw
          · exact .inr (.inr hw)
        exact ⟨n + 1 - (i + 1), by omega, o', ys ++ [y], avs ++ [yv], F5, i + 1, H8, stay _ _ H8, hlt, rfl, by simp [hyl], by rw [take_succ, hg]; rfl⟩
    · have hin : i = n := by omega
      subst hin
      refine W.done s' _ _ hst' fun h' tk hk2 => ?_
      have hk' : Heap.ExtBut I s'.heap h' := fun b x hb e => hk2 b x (by simpa using hb) e
      have H2' : AtF c' base1 ⟨ys.zip avs ++ vs, [(s₂.heap.objs.size, lstObj ys.toArray ys.length)], kp⟩ { s' with heap := h', toks := tk } F' :=
        AtF.endProt (t := ⟨ys.zip avs ++ vs, [(s₂.heap.objs.size, lstObj ys.toArray ys.length)], kp⟩) H1 hk' tk
      have zD := H2'.prot (s₂.heap.objs.size, lstObj ys.toArray ys.length) (.head _)
      have oD := H2'.own s₂.heap.objs.size (prot_owned (x := (s₂.heap.objs.size, lstObj ys.toArray ys.length)) (.head _))
      have oC := H2'.own H2.objs.size (locals_owned c' base1 _)
      obtain ⟨mC, hnC, _⟩ := H2'.ns
      obtain ⟨obC, esC, epC, hobC, restC⟩ := id hnC
      -- the block around
      have H3 : AtF c a t { s' with heap := h', toks := tk } F' := H.next H2'.st (Step.weaken H2'.step)
      have ownS : ∀ b ∈ owned c a t, s.heap.get? b ≠ none := fun b hb e => by
        obtain ⟨o, ho⟩ := H.exists_owned b hb
        rw [e] at ho; cases ho
      have s0none : ∀ b, s.heap.get? b = none → b ≠ c.W.P → c.s₀.heap.get? b = none := fun b e hb => by
        cases e2 : c.s₀.heap.get? b with
        | none => rfl
        | some o => rw [H.step.keep b o (.inr hb) e2] at e; cases e
      have H4 := H3.addProt (I := H2.objs.size) (o := obC) (fun hm => ownS _ hm hC0) oC.1 (s0none _ hC0 oC.2.2) oC.2.2 hobC
      have H5 := H4.freeze0 (D := s₂.heap.objs.size) (fun hm => by
        have hm' : s₂.heap.objs.size ∈ a.mem.map (·.1) ++ (H2.objs.size :: (t.prot.map (·.1) ++ (c.env.locals :: c.cells.map (·.2)))) := hm
        rcases List.mem_cons.mp ((List.perm_middle.mem_iff).mp hm') with e | hm
        · exact hDC e
        · exact ownS _ hm hD0) (s0none _ hD0 oD.2.2) oD.2.2 zD
      have cvD : Cv h' (fun b => F' b ∨ b = s₂.heap.objs.size) (.lst (l.filterMap g)) (.ref s₂.heap.objs.size) := by
        rw [Cv]
        refine ⟨_, ys.toArray, rfl, .inr rfl, ⟨_, zD, rfl, _, rfl⟩, ?_⟩
        have e : avs = l.filterMap g := by rw [havs, List.take_of_length_le (by omega)]
        rw [← e]
        have : CvL h' F' avs ys := zipVals' hyl.symm fun w hw => H2'.vals w (List.mem_append_left _ hw)
        simpa using CvL.mono (fun _ e => .inl e) (fun _ _ _ e => e) this
      obtain ⟨hh, tkk, rfl⟩ := H1s
      exact hRR s₂.heap.objs.size H2.objs.size obC h' tk _ H5 ⟨mC, hnC⟩ cvD
  exact codeAny_compStart_list (loop _ rfl) (W.self 0 _ _ _ hst₁ (loop _ rfl))
end
end Mine
end
section
namespace Mine
noncomputable def SrcIs (y : AV) (l : List AV) : Prop := y = .lst l ∨ y = .tup l ∨ ∃ lo hi st n, y = .rng lo hi st ∧ Builtin.Range.small lo hi st = true ∧ Builtin.Range.rangeSize lo hi st = ((n : Nat) : Int) ∧ l = rngL lo st n
theorem rngL_get {lo st : Int} {n i : Nat} {x : AV} (hx : (rngL lo st n)[i]? = some x) : x = .int (lo + (i : Int) * st) := by
  obtain ⟨h1, h2⟩ := List.getElem?_eq_some_iff.mp hx
  rw [← h2]; simp [rngL]
section
variable {c : Cx} {a : AS} {t : Tmp} {s : Shared} {F : Addr → Prop}
theorem comp_block {elt iter : Expr} {x : Str} {px : Pos} {ifs : List Expr} {scope : Scope} {cl : List (Str × Addr)} {pos : Pos} {gl frees : List Str} {RR : Value → Addr → Result → Shared → Prop} {E : Value → Shared → Prop}
    (C : CompStat c scope x gl frees) (hcl : ∀ y, scope.names.lookup y = some .free → cl.lookup y = c.env.cells.lookup y)
    {α : Type} (l : List α) (f : α → AV) (g : α → Option AV) (hlen : l.length ≤ 1000000) {y : AV} {v : Value} (hy : SrcIs y (l.map f)) (H : AtF c a t s F) (cv : Cv s.heap F y v)
    (turn : ∀ (c' : Cx), SubC c a x gl frees c' → ∀ z ∈ l, TTs c' ⟨[some (f z)], [], []⟩ ifs (fun b a2 => if b = true then TE c' a2 elt (fun y _ => g z = some y) else g z = none))
    (hRR : ∀ D Cc oC h tk F', AtF c a ⟨t.vals, (Cc, oC) :: t.prot, t.kept⟩ { s with heap := h, toks := tk } F' → (∃ m, h.Ns Cc m) → Cv h F' (.lst (l.filterMap g)) (.ref D) → RR (.ref D) Cc (.ok .next) { s with heap := h, toks := tk }) :
    wpAny c.W.M c.A (pyIter v) (fun it s₂ => wpAny c.W.M c.A (newList []) (fun acc s₃ => wpAny c.W.M c.A (newFunctionEnv scope c.env.globals cl [] c.env.qual none .none (some c.env)) (fun cenv s₄ =>
      codeAny c.W.M c.A (.compStart (.ListComp elt [⟨.Name x px, iter, ifs, 0⟩] scope pos) 0 it acc { cenv with scope := relabel scope c.env }) (RR acc cenv.locals) s₄) E s₃) E s₂) E s := by
  have hn : s.heap.get? s.heap.objs.size = none := Heap.get?_none_of_le (Nat.le_refl _)
  have kp : ∀ o, Keeps s { s with heap := s.heap.push o } := fun o => ⟨_, s.toks, rfl, fun _ _ e => Heap.get?_push_of_some _ e⟩
  rcases hy with rfl | rfl | ⟨lo, hi, st, n, rfl, hsm, hsz, hl⟩
  · rw [Cv] at cv
    obtain ⟨p, its, rfl, hF, hl, hc⟩ := cv
    obtain ⟨ol, hol, hcl', nl, hdl⟩ := id hl
    have hne : p ≠ s.heap.objs.size := Nat.ne_of_lt (Heap.lt_size hol)
    refine wpAny_pyIter_list hl ?_
    have hsz : (l.map f).length = its.size := by have := hc.length; simpa using this
    refine comp_core C hcl l f g hlen (Walks.list c.handled s.heap.objs.size p hne its) (by simpa using hsz) (vs := its.toList.zip (l.map f)) (kp := [(p, ol)]) ?_ (fun i h st => let ⟨o, ho, _⟩ := st.1; ⟨o, ho⟩) ?_ H hn (Heap.get?_push_size _ rfl) (kp _) (zipVals hc) (fun y hy => by rcases List.mem_singleton.mp hy with rfl; exact ⟨hF, hol⟩) ⟨⟨_, Heap.get?_push_size _ rfl, rfl, rfl⟩, hl.push _⟩ turn hRR
    · intro b hb
      rcases List.mem_cons.mp hb with rfl | hb
      · exact .inl rfl
      · rcases List.mem_singleton.mp hb with rfl; exact .inr ⟨ol, .head _⟩
    · intro c' a' t' i v x s' F' hx hv H' hm
      refine H'.vals (v, f x) (hm _ ?_)
      have : (its.toList.zip (l.map f))[i]? = some (v, f x) := by rw [List.getElem?_zip_eq_some]; exact ⟨by rw [Array.getElem?_toList]; exact hv, by rw [List.getElem?_map, hx]; rfl⟩
      exact List.mem_of_getElem? this
  · rw [Cv] at cv
    obtain ⟨p, its, n, rfl, hF, hol, hc⟩ := cv
    have hl : s.heap.IsTuple p its := ⟨_, hol, rfl, n, rfl⟩
    have hne : p ≠ s.heap.objs.size := Nat.ne_of_lt (Heap.lt_size hol)
    refine wpAny_pyIter_tuple hl ?_
    have hsz : (l.map f).length = its.size := by have := hc.length; simpa using this
    refine comp_core C hcl l f g hlen (Walks.tuple c.handled s.heap.objs.size p hne its) (by simpa using hsz) (vs := its.toList.zip (l.map f)) (kp := [(p, tupObj its n)]) ?_ (fun i h st => let ⟨o, ho, _⟩ := st.1; ⟨o, ho⟩) ?_ H hn (Heap.get?_push_size _ rfl) (kp _) (zipVals hc) (fun y hy => by rcases List.mem_singleton.mp hy with rfl; exact ⟨hF, hol⟩) ⟨⟨_, Heap.get?_push_size _ rfl, rfl, rfl⟩, hl.push _⟩ turn hRR
    · intro b hb
      rcases List.mem_cons.mp hb with rfl | hb
      · exact .inl rfl
      · rcases List.mem_singleton.mp hb with rfl; exact .inr ⟨_, .head _⟩
    · intro c' a' t' i v x s' F' hx hv H' hm
      refine H'.vals (v, f x) (hm _ ?_)
      have : (its.toList.zip (l.map f))[i]? = some (v, f x) := by rw [List.getElem?_zip_eq_some]; exact ⟨by rw [Array.getElem?_toList]; exact hv, by rw [List.getElem?_map, hx]; rfl⟩
      exact List.mem_of_getElem? this
  · rw [Cv] at cv
    obtain ⟨p, t1, t2, t3, rfl, hF, hr⟩ := cv
    refine wpAny_pyIter_range hr hsm ?_
    rw [hsz]
    have hsz' : l.length = n := by
      have := congrArg List.length hl
      simpa [rngL] using this
    refine comp_core C hcl l f g hlen (Walks.range c.handled s.heap.objs.size lo st n) hsz' (vs := []) (kp := []) (fun b hb => .inl (by simpa using hb)) (fun i h e => ⟨_, e⟩) ?_ H hn (Heap.get?_push_size _ rfl) (kp _) (fun y hy => by cases hy) (fun y hy => by cases hy) ?_ turn hRR
    · intro c' a' t' i v x s' F' hx ⟨tv, hv⟩ H' hm
      have h1 : (rngL lo st n)[i]? = some (f x) := by rw [← hl, List.getElem?_map, hx]; rfl
      rw [rngL_get h1, hv, Cv]
      exact ⟨tv, rfl⟩
    · show (s.heap.push _).get? _ = _
      rw [Heap.get?_push_size _ rfl]
      simp [rawInt]
theorem te_comp {elt iter : Expr} {x : Str} {px : Pos} {ifs : List Expr} {scope : Scope} {pos : Pos} {gl frees : List Str} {K : AV → AS → Prop} {α : Type} (l : List α) (f : α → AV) (g : α → Option AV) (hlen : l.length ≤ 1000000)
    (C : CompStat c scope x gl frees)
    (h : TE c a iter (fun y a1 => SrcIs y (l.map f) ∧ (∀ (c' : Cx), SubC c a1 x gl frees c' → ∀ z ∈ l, TTs c' ⟨[some (f z)], [], []⟩ ifs (fun b a2 => if b = true then TE c' a2 elt (fun y _ => g z = some y) else g z = none)) ∧ K (.lst (l.filterMap g)) a1))
    (hs : ∀ env x, foldedSetIterable iter env x = pure x := by intro _ _; rfl) : TE c a (.ListComp elt [⟨.Name x px, iter, ifs, 0⟩] scope pos) K := fun t s F H => by
  obtain ⟨cl, hclos, hcl⟩ := closureFor_some (scope := scope) (env := c.env) fun y hy e => by
    obtain ⟨ca, hm⟩ := C.free y hy e
    exact ⟨ca, (c.ck _ hm).2.1⟩
  rw [eval_ListComp]
  refine wpAny_comprehension_free (use := none) rfl (hs _) hclos C.hkind C.hnames (wp_post (h t s F H) fun v s1 y a1 F1 H1 cv kk => ?_)
  obtain ⟨hy, turn, k1⟩ := kk
  refine comp_block (RR := fun acc Cc => compPost c.W.M c.A FE none (Post c t K) acc Cc) C hcl l f g hlen hy H1 cv turn ?_
  intro D Cc oC h' tk F' H2 ⟨m, hm⟩ cD
  refine ⟨m, hm, fun h'' hs'' => ?_⟩
  have H3 := AtF.endProt (t := t) H2 hs''.extBut tk
  refine ⟨.lst (l.filterMap g), a1, F', H3, ?_, k1⟩
  have hp := H2.own Cc (prot_owned (x := (Cc, oC)) (.head _))
  exact Cv.mono (fun _ e => e) (fun b o hb e => hs''.extBut b o (fun q => hp.1 (q ▸ hb)) e) cD
theorem ts_setcomp {elt iter : Expr} {x y : Str} {px py : Pos} {ifs : List Expr} {scope : Scope} {pos spos : Pos} {gl frees : List Str} {K : AFl → AS → Prop} (i : Nat) (hy : c.names[i]? = some y) {α : Type} (l : List α) (f : α → AV) (g : α → Option AV) (hlen : l.length ≤ 1000000)
    (C : CompStat c scope x gl frees)
    (hsw : ∀ env, env.scope.kind = .function → env.kindOf y = some .local → swapsWith (.ListComp elt [⟨.Name x px, iter, ifs, 0⟩] scope pos) (some (.Name y py)) spos.line env = pure true)
    (h : TE c a iter (fun z a1 => SrcIs z (l.map f) ∧ (∀ (c' : Cx), SubC c a1 x gl frees c' → ∀ z ∈ l, TTs c' ⟨[some (f z)], [], []⟩ ifs (fun b a2 => if b = true then TE c' a2 elt (fun y _ => g z = some y) else g z = none)) ∧ i < a1.loc.length ∧ K .next { a1 with loc := a1.loc.set i (some (.lst (l.filterMap g))) }))
    (hs : ∀ env x, foldedSetIterable iter env x = pure x := by intro _ _; rfl) : TS c a (.Assign [.Name y py] (.ListComp elt [⟨.Name x px, iter, ifs, 0⟩] scope pos) spos) K := fun t s F H => by
  obtain ⟨cl, hclos, hcl⟩ := closureFor_some (scope := scope) (env := c.env) fun y hy e => by
    obtain ⟨ca, hm⟩ := C.free y hy e
    exact ⟨ca, (c.ck _ hm).2.1⟩
  rw [exec_Assign_Name_used _ _ _ _ (hsw c.env c.kind (c.nk y (List.mem_of_getElem? hy)).1)]
  refine wpAny_bind (wpAny_standAt (wpAny_bind ?_))
  show wpAny _ c.A (do let _ ← comprehension (.ListComp elt [⟨.Name x px, iter, ifs, 0⟩] scope pos) scope c.env _ (newList []) false (eval iter c.env) (some (assign (.Name y py) c.env))) _ _ s
  refine wpAny_bind (wpAny_mono (wpAny_comprehension_free (use := some (assign (.Name y py) c.env)) (Q := fun _ s' => PostF c t K .next s') rfl (hs _) hclos C.hkind C.hnames
    (wp_mono (h t s F H) (E := FE) fun v s1 ⟨z, a1, F1, H1, cv, hz, turn, hi, k1⟩ => ?_)) (fun _ s' hq => wpAny_pure (wpAny_pure hq)) fun _ _ e => e)
  refine comp_block (RR := fun acc Cc => compPost c.W.M c.A FE (some (assign (.Name y py) c.env)) (fun _ s' => PostF c t K .next s') acc Cc) C hcl l f g hlen hz H1 cv turn ?_
  intro D Cc oC h' tk F' H2 ⟨m, hm⟩ cD
  refine wpAny_assign_Name (store_loc i H2 hy hi cD fun s' H4 => ?_)
  have e1 := H2.prot (Cc, oC) (.head _)
  have e2 := H4.prot (Cc, oC) (.head _)
  refine ⟨m, hm.at' fun o e => ?_, fun h'' hs'' => ?_⟩
  · have e' : h'.get? Cc = some o := e
    have e1' : h'.get? Cc = some oC := e1
    rw [e1'] at e'; cases e'; exact e2
  have H5 := AtF.endProt (t := t) H4 hs''.extBut s'.toks
  exact ⟨.next, _, F', H5, cvF_next, k1⟩
end
end Mine
end
section
namespace Mine
theorem bindL_at {kindOf : Str → Option NameKind} : ∀ {ps : List Str} {vs : List Value} {m : Str → Option Value} {x : Str}, kindOf x = some .local → x ∉ ps → bindL kindOf (ps.zip vs) m x = m x
  | [], _, _, _, _, _ => by simp [bindL]
  | p :: ps, [], _, _, _, _ => by simp [bindL]
  | p :: ps, v :: vs, m, x, hk, hx => by
    rw [List.zip_cons_cons]
    show bindL kindOf (ps.zip vs) _ x = _
    rw [bindL_at hk (fun h => hx (.tail _ h))]
    have hne : x ≠ p := fun e => hx (e ▸ .head _)
    split
    · simp [hne]
    · rfl
theorem bindC_at {kindOf : Str → Option NameKind} : ∀ {ps : List Str} {vs : List Value} {m : Str → Option Value} {x : Str}, x ∉ ps → bindC kindOf (ps.zip vs) m x = m x
  | [], _, _, _, _ => by simp [bindC]
  | p :: ps, [], _, _, _ => by simp [bindC]
  | p :: ps, v :: vs, m, x, hx => by
    rw [List.zip_cons_cons]
    show bindC kindOf (ps.zip vs) _ x = _
    rw [bindC_at (fun h => hx (.tail _ h))]
    have hne : x ≠ p := fun e => hx (e ▸ .head _)
    split
    · rfl
    · simp [hne]
theorem bindL_get {kindOf : Str → Option NameKind} : ∀ {ps : List Str} {vs : List Value} {m : Str → Option Value} {x : Str} {j : Nat} {v : Value}, ps.Nodup → kindOf x = some .local → ps[j]? = some x → vs[j]? = some v → bindL kindOf (ps.zip vs) m x = some v
  | [], _, _, _, _, _, _, _, h, _ => by simp at h
  | p :: ps, [], _, _, _, _, _, _, _, h => by simp at h
  | p :: ps, w :: vs, m, x, 0, v, nd, hk, h, h' => by
    simp at h h'; subst h; subst h'
    rw [List.zip_cons_cons]
    show bindL kindOf (ps.zip vs) _ p = _
    rw [bindL_at hk (List.nodup_cons.mp nd).1, if_pos hk]
    simp
  | p :: ps, w :: vs, m, x, j + 1, v, nd, hk, h, h' => by
    rw [List.zip_cons_cons]
    exact bindL_get (List.nodup_cons.mp nd).2 hk (by simpa using h) (by simpa using h')
theorem bindC_get {kindOf : Str → Option NameKind} : ∀ {ps : List Str} {vs : List Value} {m : Str → Option Value} {x : Str} {j : Nat} {v : Value}, ps.Nodup → kindOf x ≠ some .local → ps[j]? = some x → vs[j]? = some v → bindC kindOf (ps.zip vs) m x = some v
  | [], _, _, _, _, _, _, _, h, _ => by simp at h
  | p :: ps, [], _, _, _, _, _, _, _, h => by simp at h
  | p :: ps, w :: vs, m, x, 0, v, nd, hk, h, h' => by
    simp at h h'; subst h; subst h'
    rw [List.zip_cons_cons]
    show bindC kindOf (ps.zip vs) _ p = _
    rw [bindC_at (List.nodup_cons.mp nd).1, if_neg hk]
    simp
  | p :: ps, w :: vs, m, x, j + 1, v, nd, hk, h, h' => by
    rw [List.zip_cons_cons]
    exact bindC_get (List.nodup_cons.mp nd).2 hk (by simpa using h) (by simpa using h')
noncomputable abbrev srcs (args : List AV) (l : List (Option Nat)) : List (Option AV) := l.map fun o => o.bind (args[·]?)
theorem Fc.introC {W : Wd} {q : Bool} {lvl : Nat} {f : Addr} {oc : Value} {od : Option Addr} {sl : Array (Option Value)} {fd : FuncData} {body : List Stmt} {params names cnames gl : List Str} {lsrc csrc : List (Option Nat)} {args : List AV} {R : AV → Prop}
    (ho : W.h0.get? f = some ⟨oc, od, .func fd, sl⟩) (hcode : W.h0.CodeRec fd.code fd.qualname) (hbd : fd.body = .stmts body)
    (hb : ∀ vs : List Value, vs.length = params.length → bindArgs fd ⟨vs, []⟩ = pure (params.zip vs)) (pl : fd.scope.isCoroutine = false ∧ fd.scope.isGenerator = false ∧ fd.scope.kind = .function) (gg : fd.globals = mainGlobals ∧ fd.builtins = builtinsNs)
    (hclo : fd.closure = [])
    (nd : names.Nodup) (ndp : params.Nodup) (ndc : cnames.Nodup) (nk : ∀ x ∈ names, fd.scope.names.lookup x = some .local ∧ (x == ("__debug__" : Str)) = false) (gk : ∀ x ∈ gl, fd.scope.names.lookup x = some .globalImplicit ∧ (x == ("__debug__" : Str)) = false)
    (ck : ∀ x ∈ cnames, fd.scope.names.lookup x = some .cell ∧ (x == ("__debug__" : Str)) = false) (hpk : ∀ x ∈ params, x ∈ names ∨ x ∈ cnames)
    (hcn : ∀ n, (cellsFrom n fd.scope.names []).map (·.1) = cnames)
    (hl : ∀ (i : Nat) (x : Str) (j : Nat), names[i]? = some x → lsrc[i]? = some (some j) → params[j]? = some x) (hc : ∀ (i : Nat) (x : Str) (j : Nat), cnames[i]? = some x → csrc[i]? = some (some j) → params[j]? = some x) (hn : args.length = params.length)
    (h : ∀ c : Cx, c.W = W → c.names = names → c.gl = gl → c.cells.map (·.1) = cnames → c.q = q → c.lvl = lvl →
      TSs c ⟨srcs args lsrc, srcs args csrc, []⟩ body (fun fl a' => match fl with | .ret x => R x | _ => R .none)) : Fc W q (lvl + 1) (.ref f) args R := by
  intro A s F vs Q hA hroom S cv hQ
  have keep0 : ∀ b o, W.h0.get? b = some o → s.heap.get? b = some o := fun b o e => (S.old b o e).2
  have hlen : vs.length = params.length := cv.length.symm.trans hn
  have cmem : ∀ x ∈ cnames, ((cellsFrom (s.heap.objs.size + 1) fd.scope.names []).lookup x).isSome = true := fun x hx => by
    have hm := hcn (s.heap.objs.size + 1)
    rw [← hm] at hx ndc
    obtain ⟨y, hy, rfl⟩ := List.mem_map.mp hx
    rw [lookup_nodup ndc hy]; rfl
  refine wpAny_call (codeAny_call_cells (R := fun r s' => match r with | .ok (.ret v) => Q v s' | .ok _ => False | .error e => FE e s') (binds := params.zip vs) (by omega) (keep0 _ _ ho) rfl (W.nolimit.keeps keep0) (hcode.keeps keep0) hbd (hb vs hlen) hclo (fun x hx => ?_) (fun s₁ hin => ?_) pl.1 pl.2.1 pl.2.2)
  · rcases hpk _ (List.of_mem_zip hx).1 with e | e
    · exact .inl (nk _ e).1
    · exact .inr ⟨(ck _ e).1, cmem _ e⟩
  · obtain ⟨h₁, tk, rfl, hk⟩ := hin.done
    have hL : s.heap.get? s.heap.objs.size = none := Heap.get?_none_of_le (Nat.le_refl _)
    have hcm : (callEnvC fd s.heap.objs.size f).cells.map (·.1) = cnames := hcn (s.heap.objs.size + 1)
    have ndc' : ((callEnvC fd s.heap.objs.size f).cells.map (·.1)).Nodup := hcm ▸ ndc
    let c : Cx := { W := W, A := A.deeper (callEnvC fd s.heap.objs.size f), env := callEnvC fd s.heap.objs.size f, names := names, gl := gl, cells := (callEnvC fd s.heap.objs.size f).cells, s₀ := s, F₀ := F, st₀ := S, q := q, lvl := lvl
                    handled := hA, room := by show A.depth + 1 + lvl < recursionLimit; omega, kind := pl.2.2, globals := gg.1, builtins := gg.2, nodup := nd, nk := nk, gk := gk
                    ck := fun x hx => by
                      have q := ck x.1 (hcm ▸ List.mem_map.mpr ⟨x, hx, rfl⟩)
                      exact ⟨q.1, lookup_nodup ndc' hx, q.2⟩ }
    have kps : Keeps s { s with heap := h₁, toks := tk } := ⟨h₁, tk, rfl, hk⟩
    have S1 := S.keeps kps
    have fresh : ∀ b, s.heap.objs.size ≤ b → s.heap.get? b = none := fun b hb => Heap.get?_none_of_le hb
    have cvs : CvL h₁ F args vs := CvL.mono (fun _ e => e) (fun b o _ e => hk b o e) cv
    have hlow : ∀ b ∈ c.env.locals :: c.cells.map (·.2), s.heap.objs.size ≤ b := fun b hb => by
      rcases List.mem_cons.mp hb with rfl | hb
      · exact Nat.le_refl _
      · obtain ⟨x, hx, rfl⟩ := List.mem_map.mp hb
        exact Nat.le_of_lt (hin.above x.1 x.2 hx)
    have H : AtF c ⟨srcs args lsrc, srcs args csrc, []⟩ ⟨[], [], []⟩ { s with heap := h₁, toks := tk } F := by
      refine ⟨S1, Step.weaken (Step.keeps kps), ?_, ?_, ⟨_, hin.toInCall.ns, ?_⟩, ?_, ?_, ?_, ?_, ?_⟩
      · show (c.env.locals :: c.cells.map (·.2)).Nodup
        refine List.nodup_cons.mpr ⟨fun hm => ?_, ?_⟩
        · obtain ⟨x, hx, e⟩ := List.mem_map.mp hm
          have := hin.above x.1 x.2 hx
          rw [e] at this
          exact Nat.lt_irrefl _ this
        · exact List.pairwise_map.mpr hin.apart
      · intro b hb
        have h0 := fresh b (hlow b hb)
        refine ⟨fun e => ?_, h0, fun e => ?_⟩
        · obtain ⟨o, ho⟩ := S.ex _ e; rw [h0] at ho; cases ho
        · obtain ⟨ps, e1, _⟩ := S.tab; rw [← e, h0] at e1; cases e1
      · intro i x av hx hv
        have hv' : (srcs args lsrc)[i]? = some (some av) := hv
        rw [List.getElem?_map] at hv'
        cases hj : lsrc[i]? with
        | none => rw [hj] at hv'; cases hv'
        | some oj =>
          rw [hj] at hv'
          cases oj with
          | none => cases hv'
          | some j =>
            have hp := hl i x j hx hj
            have ha : args[j]? = some av := by simpa using hv'
            obtain ⟨v, hvv, cvv⟩ := cvs.get ha
            exact ⟨v, bindL_get ndp (nk x (List.mem_of_getElem? hx)).1 hp hvv, cvv⟩
      · intro i x hx
        have hm := List.mem_of_getElem? hx
        have hlk := lookup_nodup ndc' hm
        refine ⟨_, hin.cell x.1 x.2 hlk, fun av hv => ?_⟩
        have hv' : (srcs args csrc)[i]? = some (some av) := hv
        rw [List.getElem?_map] at hv'
        cases hj : csrc[i]? with
        | none => rw [hj] at hv'; cases hv'
        | some oj =>
          rw [hj] at hv'
          cases oj with
          | none => cases hv'
          | some j =>
            have hx' : cnames[i]? = some x.1 := by
              rw [← hcm, List.getElem?_map]
              show Option.map _ (c.cells[i]?) = _
              rw [hx]; rfl
            have hp := hc i x.1 j hx' hj
            have ha : args[j]? = some av := by simpa using hv'
            obtain ⟨v, hvv, cvv⟩ := cvs.get ha
            refine ⟨v, bindC_get ndp ?_ hp hvv, cvv⟩
            have e : (callEnvC fd s.heap.objs.size f).kindOf x.1 = some .cell := (ck x.1 (List.mem_of_getElem? hx')).1
            rw [e]; decide
      · intro x hx; cases hx
      · intro x hx; cases hx
      · intro x hx; cases hx
      · intro x hx; cases hx
    refine wp_mono (h c rfl rfl rfl hcm rfl rfl ⟨[], [], []⟩ _ F H) fun fl s' ⟨x, a', F', H', cx, hr⟩ => ?_
    show Q _ s'
    cases x with
    | ret x => rw [CvF] at cx; obtain ⟨v, rfl, e⟩ := cx; exact hQ v x s' F' hr H'.st H'.step e
    | next => rw [CvF] at cx; subst cx; exact hQ .none .none s' F' hr H'.st H'.step (by rw [Cv])
    | brk => rw [CvF] at cx; subst cx; exact hQ .none .none s' F' hr H'.st H'.step (by rw [Cv])
    | cont => rw [CvF] at cx; subst cx; exact hQ .none .none s' F' hr H'.st H'.step (by rw [Cv])
theorem cel_get {c : Cx} {l : List Str} {x : Str} (i : Nat) (h : c.cells.map (·.1) = l) (hx : l[i]? = some x) : ∃ ca, c.cells[i]? = some (x, ca) := by
  rw [← h, List.getElem?_map] at hx
  cases e : c.cells[i]? with
  | none => rw [e] at hx; cases hx
  | some y => rw [e] at hx; cases hx; exact ⟨y.2, rfl⟩
end Mine
end
section
namespace Mine
section
variable {c : Cx} {a : AS} {t : Tmp} {s : Shared} {F : Addr → Prop}
/-- several addresses of ours change -/
theorem AtF.protSteps {ps ps' : List (Addr × Obj)} {h' : Heap} (H : AtF c a ⟨t.vals, ps ++ t.prot, t.kept⟩ s F) (hk : ∀ b o, b ∉ ps.map (·.1) → s.heap.get? b = some o → h'.get? b = some o) (hps : List.Sublist (ps'.map (·.1)) (ps.map (·.1))) (ho : ∀ x ∈ ps', h'.get? x.1 = some x.2) (k : Nat) :
    AtF c a ⟨t.vals, ps' ++ t.prot, t.kept⟩ { s with heap := h', toks := k } F := by
  have nd := H.nod
  have e0 : owned c a ⟨t.vals, ps ++ t.prot, t.kept⟩ = a.mem.map (·.1) ++ (ps.map (·.1) ++ (t.prot.map (·.1) ++ (c.env.locals :: c.cells.map (·.2)))) := by simp [owned]
  have e1 : List.Sublist (owned c a ⟨t.vals, ps' ++ t.prot, t.kept⟩) (owned c a ⟨t.vals, ps ++ t.prot, t.kept⟩) := by
    show List.Sublist (a.mem.map (·.1) ++ ((ps' ++ t.prot).map (·.1) ++ _)) (a.mem.map (·.1) ++ ((ps ++ t.prot).map (·.1) ++ _))
    refine (List.Sublist.refl _).append (List.Sublist.append ?_ (List.Sublist.refl _))
    rw [List.map_append, List.map_append]
    exact hps.append (List.Sublist.refl _)
  rw [e0] at nd
  have pown : ∀ b ∈ ps.map (·.1), b ∈ owned c a ⟨t.vals, ps ++ t.prot, t.kept⟩ := fun b hb => by rw [e0]; simp only [List.mem_append]; exact .inr (.inl hb)
  have kF : ∀ b o, F b → s.heap.get? b = some o → h'.get? b = some o := fun b o hb e => hk b o (fun q => (H.own b (pown b q)).1 hb) e
  have nm : ∀ b ∈ a.mem.map (·.1), b ∉ ps.map (·.1) := fun b hb q => nodup_append_ne nd hb (List.mem_append_left _ q) rfl
  have nr : ∀ b ∈ t.prot.map (·.1) ++ (c.env.locals :: c.cells.map (·.2)), b ∉ ps.map (·.1) := fun b hb q => nodup_append_ne (List.nodup_append.mp nd).2.1 q hb rfl
  refine ⟨⟨fun b o e => ?_, fun b e => ?_, H.st.notP, ?_, H.st.bare⟩, ⟨fun b o hx e => ?_, H.step.sub, H.step.new, H.step.os, H.step.drawn, H.step.gens⟩, H.nod.sublist e1, fun b hb => H.own b (e1.mem hb), ?_, ?_, ?_, ?_, ?_, ?_⟩
  · have q := H.st.old b o e; exact ⟨q.1, kF b o q.1 q.2⟩
  · obtain ⟨o, q⟩ := H.st.ex b e; exact ⟨o, kF b o e q⟩
  · obtain ⟨tb, e, ok⟩ := H.st.tab
    exact ⟨tb, hk _ _ (fun q => (H.own _ (pown _ q)).2.2 rfl) e, c.W.tabKeep ok (fun _ e => e) kF⟩
  · have q := H.step.keep b o hx e
    exact hk b o (fun q' => by rw [(H.own b (pown b q')).2.1] at e; cases e) q
  · obtain ⟨m, hn, hl⟩ := H.ns
    exact ⟨m, hn.at' fun o e => hk _ o (nr _ (by simp)) e, fun j y w e1 e2 => by
      obtain ⟨u, e3, e4⟩ := hl j y w e1 e2; exact ⟨u, e3, Cv.mono (fun _ e => e) kF e4⟩⟩
  · intro j y e
    obtain ⟨ov, hc, hcv⟩ := H.cel j y e
    refine ⟨ov, IsCell.at2 hc fun o2 e' => hk _ _ (nr _ ?_) e', fun w e2 => ?_⟩
    · simp only [List.mem_append, List.mem_cons, List.mem_map]; exact .inr (.inr ⟨y, List.mem_of_getElem? e, rfl⟩)
    obtain ⟨u, e3, e4⟩ := hcv w e2
    exact ⟨u, e3, Cv.mono (fun _ e => e) kF e4⟩
  · intro y hy
    obtain ⟨its, n, ho, hc⟩ := H.mem y hy
    exact ⟨its, n, hk _ _ (nm _ (List.mem_map_of_mem hy)) ho, CvL.mono (fun _ e => e) kF hc⟩
  · intro y hy
    rcases List.mem_append.mp hy with hy | hy
    · exact ho y hy
    · exact hk _ _ (nr _ (List.mem_append_left _ (List.mem_map_of_mem hy))) (H.prot y (List.mem_append_right _ hy))
  · intro y hy; exact Cv.mono (fun _ e => e) kF (H.vals y hy)
  · intro y hy
    have q := H.kept y hy
    exact ⟨q.1, kF _ _ q.1 q.2⟩
theorem AtF.newProts {ps : List (Addr × Obj)} {h' : Heap} (H : AtF c a t s F) (hI : ∀ x ∈ ps, s.heap.get? x.1 = none) (nd : (ps.map (·.1)).Nodup) (hk : ∀ b x, s.heap.get? b = some x → h'.get? b = some x) (ho : ∀ x ∈ ps, h'.get? x.1 = some x.2) (k : Nat) :
    AtF c a ⟨t.vals, ps ++ t.prot, t.kept⟩ { s with heap := h', toks := k } F := by
  have H1 : AtF c a t { s with heap := h', toks := k } F := H.keeps ⟨h', k, rfl, hk⟩
  have hno : ∀ x ∈ ps.map (·.1), x ∉ owned c a t := fun x hx h => by
    obtain ⟨y, hy, rfl⟩ := List.mem_map.mp hx
    obtain ⟨o, ho⟩ := H.exists_owned _ h
    have := hI y hy
    rw [ho] at this; cases this
  have e0 : (owned c a ⟨t.vals, ps ++ t.prot, t.kept⟩).Perm (ps.map (·.1) ++ owned c a t) := by
    have : owned c a ⟨t.vals, ps ++ t.prot, t.kept⟩ = a.mem.map (·.1) ++ (ps.map (·.1) ++ (t.prot.map (·.1) ++ (c.env.locals :: c.cells.map (·.2)))) := by simp [owned]
    have e2 : ps.map (·.1) ++ owned c a t = ps.map (·.1) ++ (a.mem.map (·.1) ++ (t.prot.map (·.1) ++ (c.env.locals :: c.cells.map (·.2)))) := by simp [owned]
    rw [this, e2, ← List.append_assoc, ← List.append_assoc (ps.map (·.1))]
    exact List.Perm.append_right _ List.perm_append_comm
  refine { H1 with nod := ?_, own := ?_, prot := ?_ }
  · exact e0.nodup_iff.mpr (List.nodup_append.mpr ⟨nd, H.nod, fun x hx y hy e => hno x hx (e ▸ hy)⟩)
  · intro b hb
    rcases List.mem_append.mp (e0.mem_iff.mp hb) with hb | hb
    · obtain ⟨y, hy, rfl⟩ := List.mem_map.mp hb
      have hP : y.1 ≠ c.W.P := fun e => by
        obtain ⟨ps, e1, _⟩ := H.st.tab
        rw [← e, hI y hy] at e1; cases e1
      refine ⟨fun e => ?_, ?_, hP⟩
      · obtain ⟨o, ho⟩ := H.st.ex _ e; rw [hI y hy] at ho; cases ho
      · cases e : c.s₀.heap.get? y.1 with
        | none => rfl
        | some o => have := H.step.keep _ o (.inr hP) e; rw [hI y hy] at this; cases this
    · exact H1.own b hb
  · intro x hx
    rcases List.mem_append.mp hx with hx | hx
    · exact ho x hx
    · exact H1.prot x hx
theorem AtF.dropProts {ps : List (Addr × Obj)} (H : AtF c a ⟨t.vals, ps ++ t.prot, t.kept⟩ s F) : AtF c a t s F := by
  have hs : List.Sublist (owned c a t) (owned c a ⟨t.vals, ps ++ t.prot, t.kept⟩) := by
    show List.Sublist (a.mem.map (·.1) ++ (t.prot.map (·.1) ++ _)) (a.mem.map (·.1) ++ ((ps ++ t.prot).map (·.1) ++ _))
    refine (List.Sublist.refl _).append (List.Sublist.append ?_ (List.Sublist.refl _))
    rw [List.map_append]
    exact List.sublist_append_right _ _
  exact { H with nod := H.nod.sublist hs, own := fun b hb => H.own b (hs.mem hb), prot := fun y hy => H.prot y (List.mem_append_right _ hy) }
noncomputable abbrev zipObj (f0 : Value) (TI TO : Addr) : Obj := { cls := .type "zip", dict := none, data := .fields #[f0, .bool false, .bool false, .ref TI, .ref TO], slots := #[] }
noncomputable abbrev pairObj (a b : Value) : Obj := { cls := .type "tuple", data := .seq #[a, b] }
theorem call_gen {v : Value} {args : List Expr} {pos : Pos} {Q : Value → Shared → Prop} (hk : KeptV c.W v) (h : TL c a args (fun xs a1 => ∀ s F vs, AtF c a1 t s F → CvL s.heap F xs vs → wpAny c.W.M c.A (call v vs) Q FE s)) (hs : args.all noStar = true) (H : AtF c a t s F) :
    wpAny c.W.M c.A (callWith pos v [] (backTo pos (starEach args c.env)) (backToKw pos (keywordEach [] c.env))) Q FE s := by
  show wpAny c.W.M c.A (callWith pos v [] (backTo pos (starEach args c.env)) []) Q FE s
  have hplain : ∀ args : List Expr, args.all noStar = true → (backTo pos (starEach args c.env)).any (·.1) = false := fun args => by
    induction args with
    | nil => intro _; rfl
    | cons e es ih =>
      intro hs
      rw [List.all_cons, Bool.and_eq_true] at hs
      rw [starEach_cons hs.1]
      show (false || (backTo pos (starEach es c.env)).any (·.1)) = false
      rw [ih hs.2]; rfl
  refine callWith_of (P := fun h => ∀ b o, c.W.h0.get? b = some o → h.get? b = some o) (by rw [hplain args hs]; rfl) (fun h hh => hk.look h hh) ?_
  have key := TL.sound hs h pos t s F H
  cases args with
  | nil =>
    refine evalArgs_nil3 ⟨fun b o e => (H.st.old b o e).2, ?_⟩
    exact h s F [] H CvL.nil
  | cons e es =>
    rw [List.all_cons, Bool.and_eq_true] at hs
    rw [starEach_cons hs.1] at key ⊢
    refine Calls.evalArgs_plain (wp_mono key fun vs s1 ⟨xs, a1, F1, H1, cx, k1⟩ => ⟨fun b o e => (H1.st.old b o e).2, ?_⟩)
    exact k1 s1 F1 vs H1 cx
theorem ts_for_zip {x1 x2 : Str} {p1 p2 tp np cp : Pos} {k : Nat} {e1 e2 : Expr} {body orelse : List Stmt} {pos : Pos} {K : AFl → AS → Prop} (hg : ("zip" : Str) ∈ c.gl) (hv : Gv c.W "zip" (.type "zip")) (J : Nat → AS → Prop) (l1 l2 : List AV) (hll : l1.length = l2.length)
    (h : TE c a e1 (fun x a1 => x = .lst l1 ∧ TE c a1 e2 (fun y a2 => y = .lst l2 ∧ J 0 a2)))
    (turn : ∀ i x y a, l1[i]? = some x → l2[i]? = some y → J i a → TAs c a [.Name x1 p1, .Name x2 p2] [x, y] (fun a1 => TSs c a1 body (TurnK c K (J (i + 1))))) (fin : ∀ a, J l1.length a → TSs c a orelse K) (hn : [e1, e2].all noStar = true := by rfl)
    (hs : ∀ env x, foldedSetIterable (.Call (.Name "zip" np) [e1, e2] [] cp) env x = pure x := by intro _ _; rfl) : TS c a (.For (.Tuple [.Name x1 p1, .Name x2 p2] k tp) (.Call (.Name "zip" np) [e1, e2] [] cp) body orelse pos) K := fun t s F H => by
  refine wpAny_For ?_ (hs _)
  have e : TE c a (.Name "zip" np) (fun w a1 => w = .val (.type "zip") ∧ a1 = a) := te_glob hg hv ⟨rfl, rfl⟩
  refine Call_ (wp_post (e t s F H) fun u s1 w a1 F1 H1 cw kk => ?_)
  obtain ⟨hw, ha⟩ := kk
  subst hw; subst ha
  rw [Cv] at cw; subst cw
  refine wpAny_mono (call_gen (t := t) (hk := by trivial) (args := [e1, e2]) (h := ?_) hn H1) (fun _ _ q => q) (fun _ _ q => q.elim)
  refine h.mono fun x b1 ⟨hx, h2⟩ => h2.mono fun y b2 ⟨hy, h0⟩ => ?_
  subst hx; subst hy
  intro s F vs H cv
  rw [CvL] at cv; obtain ⟨v1, r1, rfl, c1, cv⟩ := cv
  rw [CvL] at cv; obtain ⟨v2, r2, rfl, c2, cv⟩ := cv
  rw [CvL] at cv; subst cv
  rw [Cv] at c1 c2
  obtain ⟨q1, its1, rfl, hF1, hl1, hc1⟩ := c1
  obtain ⟨q2, its2, rfl, hF2, hl2, hc2⟩ := c2
  have hsz1 : l1.length = its1.size := by have := hc1.length; simpa using this
  have hsz2 : l2.length = its2.size := by have := hc2.length; simpa using this
  obtain ⟨o1, ho1, hr1⟩ := id hl1
  obtain ⟨o2, ho2, hr2⟩ := id hl2
  have lt1 := Heap.lt_size ho1
  have lt2 := Heap.lt_size ho2
  refine call_zip_2 hl1 hl2 fun h' hz hTI hTO hi1 hi2 hsize hkeep => ?_
  refine wpAny_pyIter_zip hz ?_
  obtain ⟨oi1, hoi1, ri1⟩ := id hi1
  obtain ⟨oi2, hoi2, ri2⟩ := id hi2
  have A0 := (H.addVals (zipVals hc1)).addKepts (l := [(q1, o1), (q2, o2)]) (fun y hy => by
    rcases List.mem_cons.mp hy with rfl | hy
    · exact ⟨hF1, ho1⟩
    rcases List.mem_singleton.mp hy with rfl; exact ⟨hF2, ho2⟩)
  have A1 := A0.addVals (zipVals hc2)
  generalize hN : s.heap.objs.size = N at *
  have hfr : ∀ b, N ≤ b → s.heap.get? b = none := fun b hb => Heap.get?_none_of_le (hN ▸ hb)
  have A2 := A1.newProts (ps := [(N + 4, _), (N + 2, _), (N + 3, _), (N, oi1), (N + 1, oi2)]) (h' := h') (fun x hx => hfr _ (by
    rcases List.mem_cons.mp hx with rfl | hx
    · exact Nat.le_add_right _ _
    rcases List.mem_cons.mp hx with rfl | hx
    · exact Nat.le_add_right _ _
    rcases List.mem_cons.mp hx with rfl | hx
    · exact Nat.le_add_right _ _
    rcases List.mem_cons.mp hx with rfl | hx
    · exact Nat.le_refl _
    rcases List.mem_cons.mp hx with rfl | hx
    · exact Nat.le_add_right _ _
    · cases hx)) (by simp) hkeep (fun x hx => by
    rcases List.mem_cons.mp hx with rfl | hx
    · exact hz
    rcases List.mem_cons.mp hx with rfl | hx
    · exact hTI
    rcases List.mem_cons.mp hx with rfl | hx
    · exact hTO
    rcases List.mem_cons.mp hx with rfl | hx
    · exact hoi1
    rcases List.mem_cons.mp hx with rfl | hx
    · exact hoi2
    · cases hx) s.toks
  have D : ZipApart (N + 4) (N + 2) (N + 3) N (N + 1) q1 q2 := by
    have z1 : ∀ i : Nat, q1 ≠ N + i := fun i => Nat.ne_of_lt (Nat.lt_of_lt_of_le lt1 (Nat.le_add_right _ _))
    have z2 : ∀ i : Nat, q2 ≠ N + i := fun i => Nat.ne_of_lt (Nat.lt_of_lt_of_le lt2 (Nat.le_add_right _ _))
    have z3 : ∀ i j : Nat, i ≠ j → N + i ≠ N + j := fun i j h e => h (Nat.add_left_cancel e)
    exact ⟨z3 2 4 (by decide), z3 3 4 (by decide), z3 0 4 (by decide), z3 1 4 (by decide), z3 2 3 (by decide), z3 2 0 (by decide), z3 2 1 (by decide), z3 3 0 (by decide), z3 3 1 (by decide), z3 0 1 (by decide), z1 4, z1 3, z1 0, z1 1, z2 4, z2 3, z2 0, z2 1⟩
  refine codeAny_forLoop_any (fun k s' => ∃ (a : AS) (F : Addr → Prop) (oz oT o1' o2' : Obj) (u v : Value) (i : Nat), AtF c a ⟨(its2.toList.zip l2 ++ (its1.toList.zip l1 ++ t.vals)), [(N + 4, oz), (N + 2, ({ cls := .type "tuple", data := .seq #[.ref N, .ref (N + 1)] } : Obj)), (N + 3, oT), (N, o1'), (N + 1, o2')] ++ t.prot, [(q1, o1), (q2, o2)] ++ t.kept⟩ s' F ∧
      IsZip s'.heap (N + 4) (N + 2) (N + 3) .none ∧ IsPair s'.heap (N + 3) u v ∧ s'.heap.IsListIter N q1 i ∧ s'.heap.IsListIter (N + 1) q2 i ∧ i ≤ l1.length ∧ k = l1.length + 1 - i ∧ J i a) ?_ (l1.length + 1)
    ⟨b2, F, _, _, _, _, .none, .none, 0, A2, hz, hTO, hi1, hi2, Nat.zero_le _, rfl, h0⟩
  rintro k s' ⟨a, F, oz, oT, o1', o2', u, v, i, H, hz, hTO, hi1, hi2, hi, rfl, hJ⟩
  have k1 := H.kept (q1, o1) (.head _)
  have k2 := H.kept (q2, o2) (.tail _ (.head _))
  have hTI : IsPair s'.heap (N + 2) (.ref N) (.ref (N + 1)) := H.prot (N + 2, _) (.tail _ (.head _))
  have hL1 : s'.heap.IsList q1 its1 := ⟨o1, k1.2, hr1⟩
  have hL2 : s'.heap.IsList q2 its2 := ⟨o2, k2.2, hr2⟩
  by_cases hlt : i < l1.length
  · obtain ⟨x, hx⟩ : ∃ x, l1[i]? = some x := ⟨_, List.getElem?_eq_getElem hlt⟩
    obtain ⟨y, hy⟩ : ∃ y, l2[i]? = some y := ⟨_, List.getElem?_eq_getElem (hll ▸ hlt)⟩
    obtain ⟨xv, hxv⟩ : ∃ x, its1[i]? = some x := ⟨_, Array.getElem?_eq_getElem (by omega)⟩
    obtain ⟨yv, hyv⟩ : ∃ y, its2[i]? = some y := ⟨_, Array.getElem?_eq_getElem (by omega)⟩
    refine wpAny_pyNext_zip_item D hz hTI hTO hi1 hi2 hL1 hL2 hxv hyv fun h₁ gz gTO gi1 gi2 gT gsz gk => ?_
    obtain ⟨p1, hp1, rp1⟩ := id gi1
    obtain ⟨p2, hp2, rp2⟩ := id gi2
    have gTI : IsPair h₁ (N + 2) (.ref N) (.ref (N + 1)) := gk _ _ D.TIz D.TITO D.TIi1 D.TIi2 hTI
    have H1 := AtF.protSteps (t := ⟨(its2.toList.zip l2 ++ (its1.toList.zip l1 ++ t.vals)), t.prot, [(q1, o1), (q2, o2)] ++ t.kept⟩) (ps' := [(N + 4, zipObj (rawInt s'.heap.objs.size) (N + 2) (N + 3)), (N + 2, pairObj (.ref N) (.ref (N + 1))), (N + 3, pairObj xv yv), (N, p1), (N + 1, p2)]) (h' := h₁) H (fun b o hb e => by
      simp only [List.map_cons, List.map_nil, List.mem_cons, List.not_mem_nil, or_false, not_or] at hb
      exact gk b o hb.1 hb.2.2.1 hb.2.2.2.1 hb.2.2.2.2 e) (List.Sublist.refl _) (fun x hx => by
        rcases List.mem_cons.mp hx with rfl | hx
        · exact gz
        rcases List.mem_cons.mp hx with rfl | hx
        · exact gTI
        rcases List.mem_cons.mp hx with rfl | hx
        · exact gTO
        rcases List.mem_cons.mp hx with rfl | hx
        · exact hp1
        rcases List.mem_cons.mp hx with rfl | hx
        · exact hp2
        · cases hx) s'.toks
    refine wpAny_letOwnedTupleGo_zip gz fun h₂ ez es => ?_
    have hTn : s'.heap.get? s'.heap.objs.size = none := Heap.get?_none_of_le (Nat.le_refl _)
    have zne : ∀ b o, h₁.get? b = some o → b ≠ N + 4 → h₂.get? b = some o := fun b o e hb => es.extBut b o hb e
    have eTI : IsPair h₂ (N + 2) (.ref N) (.ref (N + 1)) := zne _ _ gTI D.TIz
    have eTO : IsPair h₂ (N + 3) xv yv := zne _ _ gTO D.TOz
    have ei1 : h₂.IsListIter N q1 (i + 1) := gi1.extBut es.extBut D.i1z
    have ei2 : h₂.IsListIter (N + 1) q2 (i + 1) := gi2.extBut es.extBut D.i2z
    have ep1 : h₂.get? N = some p1 := zne _ _ hp1 D.i1z
    have ep2 : h₂.get? (N + 1) = some p2 := zne _ _ hp2 D.i2z
    have H2 := AtF.protSteps (t := ⟨(its2.toList.zip l2 ++ (its1.toList.zip l1 ++ t.vals)), t.prot, [(q1, o1), (q2, o2)] ++ t.kept⟩) (ps' := [(N + 4, zipObj .none (N + 2) (N + 3)), (N + 2, pairObj (.ref N) (.ref (N + 1))), (N + 3, pairObj xv yv), (N, p1), (N + 1, p2)]) (h' := h₂) H1 (fun b o hb e => by
      simp only [List.map_cons, List.map_nil, List.mem_cons, List.not_mem_nil, or_false, not_or] at hb
      exact zne b o e hb.1) (List.Sublist.refl _) (fun x hx => by
        rcases List.mem_cons.mp hx with rfl | hx
        · exact ez
        rcases List.mem_cons.mp hx with rfl | hx
        · exact eTI
        rcases List.mem_cons.mp hx with rfl | hx
        · exact eTO
        rcases List.mem_cons.mp hx with rfl | hx
        · exact ep1
        rcases List.mem_cons.mp hx with rfl | hx
        · exact ep2
        · cases hx) s'.toks
    have hTz : s'.heap.objs.size ≠ N + 4 := Nat.ne_of_gt (Heap.lt_size hz)
    have gT2 : IsPair h₂ s'.heap.objs.size xv yv := zne _ _ gT hTz
    have hTown : ∀ b ∈ owned c a ⟨(its2.toList.zip l2 ++ (its1.toList.zip l1 ++ t.vals)), [(N + 4, oz), (N + 2, ({ cls := .type "tuple", data := .seq #[.ref N, .ref (N + 1)] } : Obj)), (N + 3, oT), (N, o1'), (N + 1, o2')] ++ t.prot, [(q1, o1), (q2, o2)] ++ t.kept⟩, b ≠ s'.heap.objs.size := fun b hb e => by
      obtain ⟨o, ho⟩ := H.exists_owned b hb
      rw [e, hTn] at ho; cases ho
    have hTP : s'.heap.objs.size ≠ c.W.P := fun e => by
      obtain ⟨ps, e1, _⟩ := H.st.tab
      rw [← e, hTn] at e1; cases e1
    have hT0 : c.s₀.heap.get? s'.heap.objs.size = none := by
      cases e : c.s₀.heap.get? s'.heap.objs.size with
      | none => rfl
      | some o => have := H.step.keep _ o (.inr hTP) e; rw [hTn] at this; cases this
    have H3 := H2.freeze0 (D := s'.heap.objs.size) (fun hm => hTown _ hm rfl) hT0 hTP gT2
    have cvx : Cv h₂ (fun b => F b ∨ b = s'.heap.objs.size) x xv := H3.vals (xv, x) (List.mem_append_right _ (List.mem_append_left _ (List.mem_of_getElem? (i := i) (by
      rw [List.getElem?_zip_eq_some]; exact ⟨by rw [Array.getElem?_toList]; exact hxv, hx⟩))))
    have cvy : Cv h₂ (fun b => F b ∨ b = s'.heap.objs.size) y yv := H3.vals (yv, y) (List.mem_append_left _ (List.mem_of_getElem? (i := i) (by
      rw [List.getElem?_zip_eq_some]; exact ⟨by rw [Array.getElem?_toList]; exact hyv, hy⟩)))
    have cT : Cv h₂ (fun b => F b ∨ b = s'.heap.objs.size) (.tup [x, y]) (.ref s'.heap.objs.size) := by
      rw [Cv]
      exact ⟨_, #[xv, yv], _, rfl, .inr rfl, gT2, CvL.cons cvx (CvL.cons cvy CvL.nil)⟩
    refine wp_pb (ta_tup (xs := [x, y]) rfl (turn i x y a hx hy hJ) rfl _ _ _ _ H3 cT) fun _ s4 a4 F4 H4 k4 => ?_
    refine wp_postF (k4 _ s4 F4 H4) fun fl s5 z a5 F5 H5 cz k5 => ?_
    have drop : AtF c a5 t s5 F5 := by
      have H6 := AtF.dropProts (t := ⟨(its2.toList.zip l2 ++ (its1.toList.zip l1 ++ t.vals)), t.prot, [(q1, o1), (q2, o2)] ++ t.kept⟩) H5
      exact { H6 with vals := fun y hy => H6.vals y (List.mem_append_right _ (List.mem_append_right _ hy)), kept := fun y hy => H6.kept y (List.mem_append_right _ hy) }
    have next : J (i + 1) a5 → ∃ m, m < l1.length + 1 - i ∧ ∃ (a : AS) (F : Addr → Prop) (oz oT o1' o2' : Obj) (u v : Value) (i : Nat), AtF c a ⟨(its2.toList.zip l2 ++ (its1.toList.zip l1 ++ t.vals)), [(N + 4, oz), (N + 2, ({ cls := .type "tuple", data := .seq #[.ref N, .ref (N + 1)] } : Obj)), (N + 3, oT), (N, o1'), (N + 1, o2')] ++ t.prot, [(q1, o1), (q2, o2)] ++ t.kept⟩ s5 F ∧
        IsZip s5.heap (N + 4) (N + 2) (N + 3) .none ∧ IsPair s5.heap (N + 3) u v ∧ s5.heap.IsListIter N q1 i ∧ s5.heap.IsListIter (N + 1) q2 i ∧ i ≤ l1.length ∧ m = l1.length + 1 - i ∧ J i a := fun hJ' => by
      have pz := H5.prot (N + 4, _) (.head _)
      have pT := H5.prot (N + 3, _) (.tail _ (.tail _ (.head _)))
      have pp1 := H5.prot (N, p1) (.tail _ (.tail _ (.tail _ (.head _))))
      have pp2 := H5.prot (N + 1, p2) (.tail _ (.tail _ (.tail _ (.tail _ (.head _)))))
      exact ⟨l1.length + 1 - (i + 1), by omega, a5, F5, _, _, p1, p2, xv, yv, i + 1, H5, pz, pT, ⟨p1, pp1, rp1⟩, ⟨p2, pp2, rp2⟩, hlt, rfl, hJ'⟩
    cases z with
    | next => rw [CvF] at cz; subst cz; exact next k5
    | cont => rw [CvF] at cz; subst cz; exact next k5
    | brk => rw [CvF] at cz; subst cz; exact ⟨.next, a5, F5, drop, cvF_next, k5⟩
    | ret x => rw [CvF] at cz; obtain ⟨w, rfl, e⟩ := cz; exact ⟨.ret x, a5, F5, drop, cvF_ret e, k5⟩
  · have hin : i = l1.length := by omega
    subst hin
    refine wpAny_pyNext_zip_end c.handled D hz hTI hTO hi1 hi2 hL1 hL2 (.inl (Array.getElem?_eq_none (by omega))) fun h₁ gk => ?_
    have H1 := AtF.protSteps (t := ⟨(its2.toList.zip l2 ++ (its1.toList.zip l1 ++ t.vals)), t.prot, [(q1, o1), (q2, o2)] ++ t.kept⟩) (ps' := []) (h' := h₁) H (fun b o hb e => by
      simp only [List.map_cons, List.map_nil, List.mem_cons, List.not_mem_nil, or_false, not_or] at hb
      exact gk b o hb.1 hb.2.2.1 hb.2.2.2.1 hb.2.2.2.2 e) (List.nil_sublist _) (fun x hx => by cases hx) s'.toks
    have H2 : AtF c a t { s' with heap := h₁ } F := { H1 with vals := fun y hy => H1.vals y (List.mem_append_right _ (List.mem_append_right _ hy)), kept := fun y hy => H1.kept y (List.mem_append_right _ hy) }
    exact wp_mono (fin a hJ t _ F H2) fun _ _ p => p
end
end Mine
end
section
namespace Mine
noncomputable abbrev appObj (a : Addr) : Obj := { cls := .type "builtin_function_or_method", data := .fields #[.builtin "list.append", .ref a] }
theorem slot_md_get : Slot "method_descriptor" "__get__" "method_descriptor.__get__" :=
  .of (owner := "method_descriptor") (n := "__get__") (by rw [typeLookup_type, builtinLookup_eq_fast]; kernel_rfl) (by decide +kernel) (by decide +kernel) (by decide +kernel)
    (by first | exact .inl (by decide +kernel) | exact .inr (by decide +kernel)) (by rw [isSubtype_type]; kernel_rfl)
theorem md_noset : typeLookup (.type "method_descriptor") "__set__" = pure none := by rw [typeLookup_type, builtinLookup_eq_fast]; kernel_rfl
theorem md_nodel : typeLookup (.type "method_descriptor") "__delete__" = pure none := by rw [typeLookup_type, builtinLookup_eq_fast]; kernel_rfl
theorem entry_md_get : entryFor table "method_descriptor.__get__" = some Builtin.«method_descriptor.__get__» := entryFor_of_tree (by kernel_rfl)
theorem args_md_get (a b c : Value) : argsOk "method_descriptor.__get__" ⟨[a, b, c], []⟩ := by unfold argsOk; kernel_rfl
theorem sub_list_list : isSubtype (.type "list") (.type "list") = pure true := by rw [isSubtype_type]; kernel_rfl
theorem told_append : Manifest.toldItsClass.contains "list.append" = false := by decide +kernel
theorem meets_md_get (a : Addr) (xs : Array Value) (k : Nat) :
    Meets (Builtin.«method_descriptor.__get__» ⟨[.builtin "list.append", .ref a, .type "list"], []⟩) (fun A R s => s.heap.get? a = some (lstObj xs k) ∧ R (.ok (.ret (.ref s.heap.objs.size))) { s with heap := s.heap.push (appObj a) }) :=
  Meets.of_wp fun prog w A R s hs => by
    obtain ⟨hp, g, d, tk, os⟩ := s
    obtain ⟨hx, hs⟩ := hs
    have hT : (⟨hp, g, d, tk, os⟩ : Shared).TypeIs (.ref a) "list" := ⟨_, hx, rfl⟩
    have g1 := sub_list_list
    unfold Builtin.«method_descriptor.__get__»
    refine wpAny_bind (wpAny_of_eq (a := (.builtin "list.append", some (.ref a), some (.type "list"))) (by first | rfl | kernel_rfl) ?_)
    dsimp only
    simp only [told_append, Bool.false_eq_true, if_false]
    have e : ".".intercalate ("list.append".cutAt '.').dropLast = "list" := by first | decide +kernel | kernel_rfl
    repeat (any_goals (first | assumption | wp_step))
    rw [e]
    repeat (any_goals (first | assumption | wp_step))
    exact ⟨_, rfl, hs⟩
theorem meets_ga (a : Addr) (xs : Array Value) (k : Nat) (u : Tok) :
    Meets (Builtin.«object.__getattribute__» ⟨[.ref a, .str (Str.ofString "append") u], []⟩) (fun A R s => s.heap.get? a = some (lstObj xs k) ∧ R (.ok (.ret (.ref s.heap.objs.size))) { s with heap := s.heap.push (appObj a) }) :=
  Meets.of_wp fun prog w A R s hs => by
    obtain ⟨hp, g, d, tk, os⟩ := s
    obtain ⟨hx, hs⟩ := hs
    have hT : (⟨hp, g, d, tk, os⟩ : Shared).TypeIs (.ref a) "list" := ⟨_, hx, rfl⟩
    have g1 := slot_list_append.lookup
    have g2 := type_list_append
    have g3 := slot_md_get.lookup
    have g4 := md_noset
    have g5 := md_nodel
    unfold Builtin.«object.__getattribute__»
    repeat (any_goals (first | assumption | ((with_reducible show wpAny _ _ (call (Value.builtin "method_descriptor.__get__") _ _) _ _ _); refine call_meets slot_md_get type_list_append entry_md_get (args_md_get _ _ _) (meets_md_get a xs k) ⟨hx, ?_⟩) | wp_step))
    show wpAny _ _ (ret _) _ _ _
    exact wpAny_pure ⟨_, rfl, hs⟩
theorem getAttr_append {prog : Program} {w : World} {A : Around} {E : Value → Shared → Prop} {s : Shared} {a : Addr} {xs : Array Value} {k : Nat} {Q : Value → Shared → Prop}
    (hx : s.heap.get? a = some (lstObj xs k)) (h : Q (.ref s.heap.objs.size) { s with heap := s.heap.push (appObj a), toks := s.toks + 1 }) :
    wpAny (model prog w) A (getAttr (.ref a) "append" true) Q E s := by
  obtain ⟨hp, g, d, tk, os⟩ := s
  have hT : ∀ tk', (⟨hp, g, d, tk', os⟩ : Shared).TypeIs (.ref a) "list" := fun _ => ⟨_, hx, rfl⟩
  have f3 := F.slot_list_getattribute.lookup
  have f4 := F.slot_list_getattribute.bind (.ref a)
  have f5 := am_list_getattr_none
  unfold getAttr getAttrBy
  repeat (any_goals (first | assumption | exact hT _ | ((with_reducible show wpAny _ _ (call (Value.builtin "list.__getattribute__") _ _) _ _ _); refine call_meets F.slot_list_getattribute (hT _) am_entry_list_getattribute (F.args_list_getattribute_2 _ _) (meets_ga a xs k _) ⟨hx, ?_⟩) | wp_step))
  show wpAny _ _ (handedOut (.ref _)) Q E _
  exact wpAny_pure h
theorem quiet_append {as : Args} : (Code.builtin "list.append" as).quiet = true := Code.quiet_builtin _ (by decide +kernel)
theorem call_bound {prog : Program} {w : World} {A : Around} {E : Value → Shared → Prop} {s : Shared} {q D : Addr} {its : Array Value} {n : Nat} {x : Value} {Q : Value → Shared → Prop} (hq : s.heap.get? q = some (appObj D))
    (ho : s.heap.get? D = some (lstObj its n)) (h : ∀ h', Heap.SameBut D s.heap h' → h'.get? D = some (lstObj (its.push x) (n + 1)) → Q .none { s with heap := h' })
    (hsz : its.size ≤ sizeLine) : wpAny (model prog w) A (call (.ref q) [x]) Q E s := by
  refine wpAny_call (codeAny_of_tree ?_)
  show wpAny _ A.in1 (callAny (.ref q) ⟨[x], []⟩) _ _ s
  have hT : s.TypeIs (.ref D) "list" := ⟨_, ho, rfl⟩
  simp only [callAny]
  refine wpAny_bind (wpAny_load hq ?_)
  simp only [show (Value.type "builtin_function_or_method" == Value.type "method" || Value.type "builtin_function_or_method" == Value.type "builtin_function_or_method" || Value.type "builtin_function_or_method" == Value.type "method-wrapper") = true by decide, if_true]
  refine KFB.if_so (by decide) ?_
  have key : wpAny (model prog w) A.in1 (checkBoundCall "list.append" ⟨[.ref D, x], []⟩) (fun _ s' => s' = s) (fun _ _ => False) s := by
    have g1 : isSubtype (.type "list") (.type "module") = pure false := by rw [isSubtype_type]; kernel_rfl
    have g2 : isSubtype (.type "list") (.type "type") = pure false := by rw [isSubtype_type]; kernel_rfl
    have g3 : Manifest.varargsMethods.contains "list.append" = false := by decide +kernel
    unfold checkBoundCall
    have e1 : Manifest.signature? "list.append" = some { machinery := Manifest.Machinery.oneArg, full := "list.append", short := "append", receiver := Manifest.Receiver.self, params := [{ name := "object", kind := Manifest.ParamKind.posOnly, required := true }] } := by kernel_rfl
    have e2 : builtinKind "list.append" = some .method := by kernel_rfl
    rw [e1]
    dsimp only
    rw [e2]
    dsimp only
    refine KFB.if_not (by decide) ?_
    refine wpAny_bind ?_
    unfold isInstance
    wp_step
    wp_step
    wp_step
    wp_step
    refine wpAny_bind (wpAny_mono (Q := fun b s' => b = false ∧ s' = s) (E := fun _ _ => False) ?_ (fun b s' hb => ?_) fun _ _ e => e)
    · unfold isType
      repeat (any_goals (first | assumption | wp_step))
      all_goals exact ⟨rfl, rfl⟩
    obtain ⟨rfl, rfl⟩ := hb
    refine KFB.if_not rfl ?_
    refine wpAny_bind (wpAny_typeOf hT ?_)
    dsimp only
    exact wpAny_of_eq (a := ()) (by first | rfl | kernel_rfl) rfl
  refine wpAny_bind (wpAny_mono key (fun _ s' e => ?_) fun _ _ e => e.elim)
  subst e
  refine wpAny_bind (wpAny_pure (wpAny_pure ?_))
  refine ⟨quiet_append, codeAny_builtin entry_list_append ?_⟩
  show wpAny _ _ (updateSeq D (·.push x) >>= fun _ => ret .none) _ _ s'
  refine wpAny_bind ?_
  refine wpAny_updateSeq ho rfl (wpAny_pure ?_)
  refine h _ (Heap.SameBut.update ..) ?_
  rw [Heap.get?_update_self _ ho (by rw [mapSeq_push]; rfl), mapSeq_push]
section
variable {c : Cx} {a : AS} {t : Tmp} {s : Shared} {F : Addr → Prop} {K : AV → AS → Prop}
theorem call_genP {P : Heap → Prop} {v : Value} {first : List Value} {args : List Expr} {pos : Pos} {Q : Value → Shared → Prop} (hk : ∀ h, P h → ∃ k, (k = Keeper.frame ∨ k = Keeper.machine ∨ k = Keeper.boundFrame) ∧ Looks c.W.M h (keeperOf v) k)
    (h : TL c a args (fun xs a1 => ∀ s F vs, AtF c a1 t s F → CvL s.heap F xs vs → P s.heap ∧ wpAny c.W.M c.A (call v (first ++ vs)) Q FE s)) (hs : args.all noStar = true) (H : AtF c a t s F) :
    wpAny c.W.M c.A (callWith pos v first (backTo pos (starEach args c.env)) []) Q FE s := by
  have hplain : ∀ args : List Expr, args.all noStar = true → (backTo pos (starEach args c.env)).any (·.1) = false := fun args => by
    induction args with
    | nil => intro _; rfl
    | cons e es ih =>
      intro hs
      rw [List.all_cons, Bool.and_eq_true] at hs
      rw [starEach_cons hs.1]
      show (false || (backTo pos (starEach es c.env)).any (·.1)) = false
      rw [ih hs.2]; rfl
  refine callWith_of (P := P) (by rw [hplain args hs]; rfl) hk ?_
  have key := TL.sound hs h pos t s F H
  cases args with
  | nil => exact evalArgs_nil3 (h s F [] H CvL.nil)
  | cons e es =>
    rw [List.all_cons, Bool.and_eq_true] at hs
    rw [starEach_cons hs.1] at key ⊢
    refine Calls.evalArgs_plain (wp_mono key fun vs s1 ⟨xs, a1, F1, H1, cx, k1⟩ => k1 s1 F1 vs H1 cx)
/-- what a method is asked of -/
inductive MethOK (a : AS) : AV → String → Prop
  | str (x : List Nat) : MethOK a (.str x) "str"
  | mem {p : Addr} {l : List AV} (h : (p, l) ∈ a.mem) : MethOK a (.val (.ref p)) "list"
theorem MethOK.type {x : AV} {T : String} {v : Value} (h : MethOK a x T) (H : AtF c a t s F) (cv : Cv s.heap F x v) : s.TypeIs v T ∧ ∀ b, v = .ref b → ∃ ob, s.heap.get? b = some ob ∧ ob.dict = none := by
  cases h with
  | str x => rw [Cv] at cv; obtain ⟨t1, rfl⟩ := cv; exact ⟨typeIs_str _ _ _, fun b e => by cases e⟩
  | mem h =>
    rw [Cv] at cv; subst cv
    obtain ⟨its, n, ho, _⟩ := H.mem _ h
    exact ⟨⟨_, ho, rfl⟩, fun b e => by cases e; exact ⟨_, ho, rfl⟩⟩
theorem te_meth {value : Expr} {name : Str} {apos pos : Pos} {args : List Expr} (T id : String) (pa : PlainAttrs T) (slot : Slot T name id) (hty : typeOf (.builtin id) = pure (.type "method_descriptor"))
    (h : TE c a value (fun x a1 => MethOK a1 x T ∧ TL c a1 args (fun xs a2 => TC c a2 (x :: xs) (fun vs => call (.builtin id) vs) K))) (hs : args.all noStar = true := by rfl)
    (hbase : ∀ env, attributeBase value name env (eval value env) = eval value env := by intro _; rfl) (hline : (apos.endLine == pos.line) = true := by rfl) (hfew : args.length < 25 := by decide) :
    TE c a (.Call (.Attribute value name apos) args [] pos) K := fun t s F H => by
  have hall : ∀ args : List Expr, args.all noStar = true → ((backTo pos (starEach args c.env)).all fun x => !x.1) = true := fun args => by
    induction args with
    | nil => intro _; rfl
    | cons e es ih =>
      intro hs
      rw [List.all_cons, Bool.and_eq_true] at hs
      rw [starEach_cons hs.1]
      show (!false && (backTo pos (starEach es c.env)).all fun x => !x.1) = true
      rw [ih hs.2]; rfl
  refine wpAny_Call_method (hbase _) ?_ hline pa slot hty (wp_post (h t s F H) fun v s1 x a1 F1 H1 cx kk => ?_)
  · rw [hall args hs]
    show (true && decide (args.length + 0 + 0 < 30)) = true
    simp; omega
  obtain ⟨hm, k1⟩ := kk
  obtain ⟨h1, h2⟩ := hm.type H1 cx
  refine ⟨h1, h2, ?_⟩
  refine call_genP (t := ⟨(v, x) :: t.vals, t.prot, t.kept⟩) (P := fun _ => True) (fun h _ => ⟨.machine, .inr (.inl rfl), Looks.of_pure rfl⟩) ?_ hs (H1.pushVal cx)
  have key : ∀ (args : List Expr) {a1 : AS} {K' K'' : List AV → AS → Prop}, TL c a1 args K' → (∀ xs a2, K' xs a2 → K'' xs a2) → TL c a1 args K'' := fun args => by
    induction args with
    | nil => intro a1 K' K'' h k; exact k _ _ h
    | cons e es ih => intro a1 K' K'' h k; exact h.mono fun x a2 h2 => ih h2 fun xs a3 h3 => k _ _ h3
  refine key args k1 fun xs a2 h3 s2 F2 vs H2 cvs => ⟨trivial, ?_⟩
  exact h3 t s2 F2 (v :: vs) H2.popVal.1 (CvL.cons H2.popVal.2 cvs)
theorem tc_append {p : Addr} {l : List AV} {x : AV} {mem' : List (Addr × List AV)} (hm : MemAt p l (l ++ [x]) a.mem mem') (hsz : l.length ≤ 1000000) (h : K .none { a with mem := mem' }) : TC c a [.val (.ref p), x] (fun vs => call (.builtin "list.append") vs) K := fun t s F vs H cv => by
  rw [CvL] at cv; obtain ⟨v, r, rfl, cp, cv⟩ := cv
  rw [CvL] at cv; obtain ⟨v, r, rfl, cx, cv⟩ := cv
  rw [CvL] at cv; subst cv
  rw [Cv] at cp; subst cp
  obtain ⟨its, n, ho, hc⟩ := H.mem _ hm.mem
  have e : l.length = its.size := by have := hc.length; simpa using this
  refine append_at (hsz := by rw [sizeLine_eq]; omega) ho fun h' hs ho' => ?_
  refine ⟨.none, _, F, H.setMem hm hs ho' ?_, by unfold Cv; rfl, h⟩
  rw [Array.toList_push]
  exact hc.append (CvL.cons cx CvL.nil)
theorem tc_bound {q p : Addr} {l : List AV} {x : AV} {mem' : List (Addr × List AV)} (hm : MemAt p l (l ++ [x]) a.mem mem') (hsz : l.length ≤ 1000000) (h : K .none { a with mem := mem' }) {s : Shared} {F : Addr → Prop} {t : Tmp} {v : Value} (H : AtF c a t s F)
    (hq : s.heap.get? q = some (appObj p)) (cx : Cv s.heap F x v) : wpAny c.W.M c.A (call (.ref q) [v]) (Post c t K) FE s := by
  obtain ⟨its, n, ho, hc⟩ := H.mem _ hm.mem
  have e : l.length = its.size := by have := hc.length; simpa using this
  refine call_bound hq ho (fun h' hs ho' => ?_) (by rw [sizeLine_eq]; omega)
  refine ⟨.none, _, F, H.setMem hm hs ho' ?_, by unfold Cv; rfl, h⟩
  rw [Array.toList_push]
  exact hc.append (CvL.cons cx CvL.nil)
/-- add(x), where add is a list's own append -/
theorem te_add {y : Str} {np pos : Pos} {e : Expr} (i : Nat) {p : Addr} (hx : c.names[i]? = some y) (hv : a.loc[i]? = some (some (.app p)))
    (h : TE c a e (fun x a1 => ∃ l mem', MemAt p l (l ++ [x]) a1.mem mem' ∧ l.length ≤ 1000000 ∧ K .none { a1 with mem := mem' })) (hn : noStar e = true := by rfl) : TE c a (.Call (.Name y np) [e] [] pos) K := fun t s F H => by
  have e0 : TE c a (.Name y np) (fun w a1 => w = .app p ∧ a1 = a) := te_loc i hx hv ⟨rfl, rfl⟩
  refine Call_ (wp_post (e0 t s F H) fun u s1 w a1 F1 H1 cw kk => ?_)
  obtain ⟨hw, ha⟩ := kk
  subst hw; subst ha
  rw [Cv] at cw; obtain ⟨q, rfl, hF, hq⟩ := cw
  have H2 := H1.addKept (x := (q, appObj p)) ⟨hF, hq⟩
  refine call_genP (t := ⟨t.vals, t.prot, (q, appObj p) :: t.kept⟩) (P := fun h => h.get? q = some (appObj p)) (first := []) (fun h ho => ⟨.machine, .inr (.inl rfl), ?_⟩) ?_ (by simp [hn]) H2
  · intro A' Q' E' s' hk hQ
    unfold keeperOf
    refine wpAny_bind (wpAny_load (hk _ _ ho) ?_)
    simp only [appObj, show (Value.type "builtin_function_or_method" != Value.type "method") = true by decide, show (Value.type "builtin_function_or_method" == Value.type "builtin_function_or_method" || Value.type "builtin_function_or_method" == Value.type "method-wrapper") = true by decide, if_true]
    exact wpAny_pure hQ
  refine h.mono fun x a1 ⟨l, mem', hm, hsz, k⟩ => ?_
  intro s2 F2 vs H3 cv
  have ho := (H3.kept (q, appObj p) (.head _)).2
  rw [CvL] at cv; obtain ⟨v, r, rfl, cx, cv⟩ := cv
  rw [CvL] at cv; subst cv
  exact ⟨ho, tc_bound hm hsz k H3.dropKept ho cx⟩
/-- add = res.append -/
theorem te_app {y : Str} {np pos : Pos} (i : Nat) {p : Addr} {l : List AV} (hx : c.names[i]? = some y) (hv : a.loc[i]? = some (some (.val (.ref p)))) (hm : (p, l) ∈ a.mem) (h : K (.app p) a) : TE c a (.Attribute (.Name y np) "append" pos) K := fun t s F H => by
  have e0 : TE c a (.Name y np) (fun w a1 => w = .val (.ref p) ∧ a1 = a) := te_loc i hx hv ⟨rfl, rfl⟩
  refine Attribute_name (wp_post (e0 t s F H) fun u s1 w a1 F1 H1 cw kk => ?_)
  obtain ⟨hw, ha⟩ := kk
  subst hw; subst ha
  rw [Cv] at cw; subst cw
  obtain ⟨its, n, ho, hc⟩ := H1.mem _ hm
  refine getAttr_append ho ?_
  have hn : s1.heap.get? s1.heap.objs.size = none := Heap.get?_none_of_le (Nat.le_refl _)
  refine ⟨.app p, a1, _, H1.freeze (tk := s1.toks + 1) hn (fun b o e => Heap.get?_push_of_some _ e) (Heap.get?_push_size _ rfl), ?_, h⟩
  rw [Cv]; exact ⟨_, rfl, .inr rfl, Heap.get?_push_size _ rfl⟩
end
end Mine
end
section
namespace Mine
section
variable {c : Cx} {a : AS} {K : AV → AS → Prop}
/-! texts made -/
theorem te_fmt {value : Expr} {pos : Pos} (h : TE c a value (fun v a1 => ∃ x, v = .str x ∧ x.length ≤ 1000000 ∧ K (.str x) a1)) : TE c a (.FormattedValue value (-1) none pos) K := fun t s F H =>
  FormattedValue_plain (wp_mono (h t s F H) fun v s1 ⟨y, a1, F1, H1, cv, x, hy, hl, k⟩ => by
    subst hy; rw [Cv] at cv; obtain ⟨u, rfl⟩ := cv
    exact formatField_str (fun t' tk => ⟨.str x, a1, F1, H1.toks _, by rw [Cv]; exact ⟨_, rfl⟩, k⟩) (by show x.toArray.size ≤ _; rw [List.size_toArray, sizeLine_eq]; omega))
noncomputable def TJ (c : Cx) : AS → List Nat → List Expr → (AV → AS → Prop) → Prop
  | a, out, [], K => K (.str out) a
  | a, out, e :: es, K => TE c a e (fun v a1 => ∃ x, v = .str x ∧ (out ++ x).length ≤ 1000000 ∧ TJ c a1 (out ++ x) es K)
theorem TJ.sound : ∀ {es : List Expr} {a : AS} {out : List Nat}, out.length ≤ 1000000 → TJ c a out es K → ∀ t s F, AtF c a t s F → wpAny c.W.M c.A (joinParts ⟨out.toArray⟩ (evalEach es c.env)) (Post c t K) FE s
  | [], a, out, hl, h, t, s, F, H => joinParts_nil ⟨.str out, a, F, H.toks _, by rw [Cv]; exact ⟨_, rfl⟩, h⟩ (by show out.toArray.size ≤ _; rw [List.size_toArray, sizeLine_eq]; omega)
  | e :: es, a, out, hl, h, t, s, F, H => by
    show wpAny c.W.M c.A (joinParts ⟨out.toArray⟩ (eval e c.env :: evalEach es c.env)) (Post c t K) FE s
    refine joinParts_cons (wp_post (h t s F H) fun v s1 y a1 F1 H1 cv kk => ?_)
    obtain ⟨x, hy, hl2, k⟩ := kk
    subst hy; rw [Cv] at cv; obtain ⟨u, rfl⟩ := cv
    have e1 : (⟨out.toArray⟩ : Str) ++ ⟨x.toArray⟩ = ⟨(out ++ x).toArray⟩ := by
      show (⟨out.toArray ++ x.toArray⟩ : Str) = _
      rw [List.append_toArray]
    show ((⟨out.toArray⟩ : Str) ++ ⟨x.toArray⟩).length ≤ sizeLine ∧ _
    rw [e1]
    exact ⟨by show (out ++ x).toArray.size ≤ _; rw [List.size_toArray, sizeLine_eq]; omega, TJ.sound hl2 k t s1 F1 H1⟩
theorem te_joined {e1 e2 : Expr} {es : List Expr} {pos : Pos} (h : TJ c a [] (e1 :: e2 :: es) K) : TE c a (.JoinedStr (e1 :: e2 :: es) pos) K := fun t s F H =>
  JoinedStr_many (TJ.sound (out := []) (by simp) h t s F H)
theorem cvl_strs {h : Heap} {F : Addr → Prop} : ∀ {l : List (List Nat)} {vs : List Value}, CvL h F (l.map .str) vs → ∃ ts : List (Str × Tok), vs = strValues ts ∧ ts.map (·.1) = l.map fun x => ⟨x.toArray⟩
  | [], vs, e => by rw [List.map_nil, CvL] at e; subst e; exact ⟨[], rfl, rfl⟩
  | x :: l, vs, e => by
    rw [List.map_cons, CvL] at e
    obtain ⟨v, r, rfl, c1, c2⟩ := e
    rw [Cv] at c1; obtain ⟨t, rfl⟩ := c1
    obtain ⟨ts, rfl, h2⟩ := cvl_strs c2
    exact ⟨(⟨x.toArray⟩, t) :: ts, rfl, by simp [h2]⟩
theorem foldl_len (l : List Str) : ∀ n : Nat, l.foldl (fun acc p => acc + p.length + (Str.mk (#[] : Array Nat)).length) n = n + (l.map Str.length).sum := by
  induction l with
  | nil => intro n; simp
  | cons x l ih => intro n; rw [List.foldl_cons, ih]; simp [Str.length]; omega
theorem glued_nil (l : List (List Nat)) : Builtin.Str.glued ⟨#[]⟩ (l.map fun x => ⟨x.toArray⟩) = ⟨l.flatten.toArray⟩ := by
  have key : ∀ (l : List (List Nat)) (acc : List Nat), ((l.map fun x => (⟨x.toArray⟩ : Str)).foldl (fun acc p => acc ++ (#[] : Array Nat) ++ p.cps) acc.toArray) = (acc ++ l.flatten).toArray := by
    intro l
    induction l with
    | nil => intro acc; simp
    | cons x l ih =>
      intro acc
      rw [List.map_cons, List.foldl_cons]
      have : acc.toArray ++ (#[] : Array Nat) ++ x.toArray = (acc ++ x).toArray := by simp
      rw [this, ih]; simp
  unfold Builtin.Str.glued
  cases l with
  | nil => rfl
  | cons x l =>
    show (⟨((l.map fun x => (⟨x.toArray⟩ : Str)).foldl (fun acc p => acc ++ (#[] : Array Nat) ++ p.cps) x.toArray)⟩ : Str) = _
    rw [key]; simp
theorem joinOk_nil {l : List (List Nat)} (h : l.flatten.length ≤ 1000000) : JoinOk ⟨#[]⟩ (l.map fun x => ⟨x.toArray⟩) = true := by
  unfold JoinOk
  have e : ((l.map fun x => (⟨x.toArray⟩ : Str)).toArray.foldl (fun acc p => acc + p.length + (Str.mk (#[] : Array Nat)).length) 0) = l.flatten.length := by
    rw [← Array.foldl_toList, List.toList_toArray, foldl_len]
    simp [List.length_flatten, Function.comp_def, Str.length]
  rw [e]
  unfold Builtin.Str.tooLong
  rw [sizeLine_eq, Bool.not_eq_true', decide_eq_false_iff_not]
  omega
theorem tc_join_lst {l : List (List Nat)} (hl : l.flatten.length ≤ 1000000) (h : K (.str l.flatten) a) : TC c a [.str [], .lst (l.map .str)] (fun vs => call (.builtin "str.join") vs) K := fun t s F vs H cv => by
  rw [CvL] at cv; obtain ⟨v, r, rfl, c1, cv⟩ := cv
  rw [CvL] at cv; obtain ⟨v, r, rfl, c2, cv⟩ := cv
  rw [CvL] at cv; subst cv
  rw [Cv] at c1; rw [Cv] at c2
  obtain ⟨t1, rfl⟩ := c1
  obtain ⟨p, its, rfl, hF, hi, hc⟩ := c2
  obtain ⟨ts, e1, e2⟩ := cvl_strs hc
  have hi' : s.heap.IsList p (strValues ts).toArray := by rw [← e1]; simpa using hi
  refine SC.join (x := ⟨([] : List Nat).toArray⟩) hi' e2 (joinOk_nil hl) fun t' k => ⟨.str l.flatten, a, F, H.toks _, ?_, h⟩
  rw [Cv]; exact ⟨t', by rw [show Txt.join ⟨([] : List Nat).toArray⟩ (l.map fun x => ⟨x.toArray⟩) = _ from glued_nil l]⟩
theorem tc_join_mem {p : Addr} {l : List (List Nat)} (hm : (p, l.map .str) ∈ a.mem) (hl : l.flatten.length ≤ 1000000) (h : K (.str l.flatten) a) : TC c a [.str [], .val (.ref p)] (fun vs => call (.builtin "str.join") vs) K := fun t s F vs H cv => by
  rw [CvL] at cv; obtain ⟨v, r, rfl, c1, cv⟩ := cv
  rw [CvL] at cv; obtain ⟨v, r, rfl, c2, cv⟩ := cv
  rw [CvL] at cv; subst cv
  rw [Cv] at c1; rw [Cv] at c2; subst c2
  obtain ⟨t1, rfl⟩ := c1
  obtain ⟨its, n, ho, hc⟩ := H.mem _ hm
  obtain ⟨ts, e1, e2⟩ := cvl_strs hc
  have hi' : s.heap.IsList p (strValues ts).toArray := by rw [← e1]; exact ⟨_, ho, rfl, n, by simp⟩
  refine SC.join (x := ⟨([] : List Nat).toArray⟩) hi' e2 (joinOk_nil hl) fun t' k => ⟨.str l.flatten, a, F, H.toks _, ?_, h⟩
  rw [Cv]; exact ⟨t', by rw [show Txt.join ⟨([] : List Nat).toArray⟩ (l.map fun x => ⟨x.toArray⟩) = _ from glued_nil l]⟩
/-! lists -/
theorem op_addl {l1 l2 : List AV} (hsz : l1.length + l2.length ≤ 1000000) (h : K (.lst (l1 ++ l2)) a) : T2 c a (.lst l1) (.lst l2) (binaryOp .Add) K := by
  intro t s F u v H c1 c2
  rw [Cv] at c1; rw [Cv] at c2
  obtain ⟨p1, its1, rfl, hF1, hi1, hc1⟩ := c1
  obtain ⟨p2, its2, rfl, hF2, hi2, hc2⟩ := c2
  have e1 : l1.length = its1.size := by have := hc1.length; simpa using this
  have e2 : l2.length = its2.size := by have := hc2.length; simpa using this
  obtain ⟨⟨cls, dd, data, sl⟩, ho, hc', n, hd⟩ := id hi1
  obtain ⟨⟨cls2, dd2, data2, sl2⟩, ho2, hc2', n2, hd2⟩ := id hi2
  simp only at hc' hd hc2' hd2
  subst hc' hd hc2' hd2
  refine concat_meets ⟨_, ho, rfl⟩ ⟨_, ho2, rfl⟩ noFill_list_add seq_list_add PySem.F.slot_list_add PySem.F.entry_list_add (PySem.F.args_list_add_2 _ _) (list_addW p1 p2 its1 its2 n n2 dd dd2 sl sl2 (by rw [sizeLine_eq]; omega)) ⟨ho, ho2, ?_⟩
  have hn : s.heap.get? s.heap.objs.size = none := Heap.get?_none_of_le (Nat.le_refl _)
  refine ⟨.lst (l1 ++ l2), a, _, H.freeze (tk := s.toks) hn (fun b o e => Heap.get?_push_of_some _ e) (Heap.get?_push_size _ rfl), ?_, h⟩
  rw [Cv]
  refine ⟨_, its1 ++ its2, rfl, .inr rfl, ⟨_, Heap.get?_push_size _ rfl, rfl, _, rfl⟩, ?_⟩
  have up : ∀ {l : List AV} {vs : List Value}, CvL s.heap F l vs → CvL (s.heap.push { cls := .type "list", data := .seq (its1 ++ its2) }) (fun b => F b ∨ b = s.heap.objs.size) l vs := fun e => CvL.mono (fun _ e => .inl e) (fun b o _ e => Heap.get?_push_of_some _ e) e
  rw [Array.toList_append]
  exact (up hc1).append (up hc2)
end
end Mine
end
section
namespace Mine
noncomputable def Vw (c : Cx) (a a' : AS) : Prop := ∀ t s F, AtF c a t s F → ∃ F', AtF c a' t s F'
theorem tss_view {c : Cx} {a a' : AS} {sts : List Stmt} {K : AFl → AS → Prop} (v : Vw c a a') (h : TSs c a' sts K) : TSs c a sts K := fun t s F H => let ⟨F', H'⟩ := v t s F H; h t s F' H'
theorem ts_view {c : Cx} {a a' : AS} {st : Stmt} {K : AFl → AS → Prop} (v : Vw c a a') (h : TS c a' st K) : TS c a st K := fun t s F H => let ⟨F', H'⟩ := v t s F H; h t s F' H'
theorem te_view {c : Cx} {a a' : AS} {e : Expr} {K : AV → AS → Prop} (v : Vw c a a') (h : TE c a' e K) : TE c a e K := fun t s F H => let ⟨F', H'⟩ := v t s F H; h t s F' H'
/-- an own list is frozen: the names and the other lists that hold it now tell its items -/
noncomputable def fzV (p : Addr) (l : List AV) (x y : AV) : Prop := x = y ∨ (x = .val (.ref p) ∧ y = .lst l)
inductive FzL (p : Addr) (l : List AV) : List AV → List AV → Prop
  | nil : FzL p l [] []
  | cons {x y xs ys} : fzV p l x y → FzL p l xs ys → FzL p l (x :: xs) (y :: ys)
theorem FzL.refl {p : Addr} {l : List AV} : ∀ xs, FzL p l xs xs
  | [] => .nil
  | _ :: xs => .cons (.inl rfl) (FzL.refl xs)
theorem FzL.append {p : Addr} {l : List AV} : ∀ {xs ys xs' ys' : List AV}, FzL p l xs ys → FzL p l xs' ys' → FzL p l (xs ++ xs') (ys ++ ys')
  | _, _, _, _, .nil, h => h
  | _, _, _, _, .cons a b, h => .cons a (b.append h)
theorem FzL.cvl {h : Heap} {F : Addr → Prop} {p : Addr} {l : List AV} (hp : Cv h F (.lst l) (.ref p)) : ∀ {xs ys : List AV} {vs : List Value}, FzL p l xs ys → CvL h F xs vs → CvL h F ys vs
  | _, _, _, .nil, e => e
  | _, _, _, .cons a b, e => by
    rw [CvL] at e
    obtain ⟨v, r, rfl, c1, c2⟩ := e
    refine CvL.cons ?_ (FzL.cvl hp b c2)
    rcases a with rfl | ⟨rfl, rfl⟩
    · exact c1
    · rw [Cv] at c1; subst c1; exact hp
/-- the other own lists -/
inductive FzM (p : Addr) (l : List AV) : List (Addr × List AV) → List (Addr × List AV) → Prop
  | nil : FzM p l [] []
  | here {r r'} : FzM p l r r' → FzM p l ((p, l) :: r) r'
  | cons {q xs ys r r'} : FzL p l xs ys → FzM p l r r' → FzM p l ((q, xs) :: r) ((q, ys) :: r')
theorem FzM.sub {p : Addr} {l : List AV} : ∀ {r r' : List (Addr × List AV)}, FzM p l r r' → List.Sublist (r'.map (·.1)) (r.map (·.1))
  | _, _, .nil => .slnil
  | _, _, .here h => .cons _ h.sub
  | _, _, .cons _ h => .cons₂ _ h.sub
theorem FzM.back {p : Addr} {l : List AV} : ∀ {r r' : List (Addr × List AV)}, FzM p l r r' → ∀ x ∈ r', ∃ xs, (x.1, xs) ∈ r ∧ FzL p l xs x.2
  | _, _, .nil, x, hx => by cases hx
  | _, _, .here h, x, hx => let ⟨xs, h1, h2⟩ := h.back x hx; ⟨xs, .tail _ h1, h2⟩
  | _, _, .cons e h, x, hx => by
    rcases List.mem_cons.mp hx with rfl | hx
    · exact ⟨_, .head _, e⟩
    · obtain ⟨xs, h1, h2⟩ := h.back x hx; exact ⟨xs, .tail _ h1, h2⟩
noncomputable def FzO (p : Addr) (l : List AV) (xs ys : List (Option AV)) : Prop := ∀ (i : Nat) (y : AV), ys[i]? = some (some y) → ∃ x, xs[i]? = some (some x) ∧ fzV p l x y
theorem FzO.refl {p : Addr} {l : List AV} {xs : List (Option AV)} : FzO p l xs xs := fun i y h => ⟨y, h, .inl rfl⟩
theorem FzO.nil {p : Addr} {l : List AV} : FzO p l [] [] := fun i y h => by simp at h
theorem FzO.none {p : Addr} {l : List AV} {x : Option AV} {xs ys : List (Option AV)} (h : FzO p l xs ys) : FzO p l (x :: xs) (Option.none :: ys) := fun i y e => by
  cases i with
  | zero => simp at e
  | succ i => simpa using h i y (by simpa using e)
theorem FzO.cons {p : Addr} {l : List AV} {x y : AV} {xs ys : List (Option AV)} (hx : fzV p l x y) (h : FzO p l xs ys) : FzO p l (some x :: xs) (some y :: ys) := fun i z e => by
  cases i with
  | zero => simp at e; subst e; exact ⟨x, rfl, hx⟩
  | succ i => simpa using h i z (by simpa using e)
theorem FzO.same {p : Addr} {l : List AV} {x : Option AV} {xs ys : List (Option AV)} (h : FzO p l xs ys) : FzO p l (x :: xs) (x :: ys) := fun i z e => by
  cases i with
  | zero => simp at e; subst e; exact ⟨z, rfl, .inl rfl⟩
  | succ i => simpa using h i z (by simpa using e)
theorem fz_view {c : Cx} {a a' : AS} {p : Addr} {l : List AV} (hp : (p, l) ∈ a.mem) (hloc : FzO p l a.loc a'.loc) (hcel : FzO p l a.cel a'.cel) (hmem : FzM p l a.mem a'.mem) (hno : p ∉ a'.mem.map (·.1)) : Vw c a a' := fun t s F H => by
  obtain ⟨its, n, ho, hc⟩ := H.mem _ hp
  have own := H.own p (mem_owned (x := (p, l)) hp)
  -- first the list is let go
  have hs : List.Sublist (owned c ⟨a.loc, a.cel, []⟩ t) (owned c a t) := List.sublist_append_right _ _
  have hs' : List.Sublist (owned c a' t) (owned c a t) := hmem.sub.append (List.Sublist.refl _)
  have H0 : AtF c ⟨a.loc, a.cel, []⟩ t s F := { H with nod := H.nod.sublist hs, own := fun b hb => H.own b (hs.mem hb), mem := fun x hx => by cases hx }
  have hpo : p ∉ owned c ⟨a.loc, a.cel, []⟩ t := fun h => nodup_append_ne H.nod (List.mem_map_of_mem hp) (show p ∈ t.prot.map (·.1) ++ (c.env.locals :: c.cells.map (·.2)) from h) rfl
  have H1 := H0.freeze0 (D := p) hpo own.2.1 own.2.2 ho
  have cp : Cv s.heap (fun b => F b ∨ b = p) (.lst l) (.ref p) := by
    rw [Cv]; exact ⟨p, its, rfl, .inr rfl, ⟨_, ho, rfl, n, rfl⟩, CvL.mono (fun _ e => .inl e) (fun _ _ _ e => e) hc⟩
  have up : ∀ {x y : AV} {v : Value}, fzV p l x y → Cv s.heap (fun b => F b ∨ b = p) x v → Cv s.heap (fun b => F b ∨ b = p) y v := fun h e => by
    rcases h with rfl | ⟨rfl, rfl⟩
    · exact e
    · rw [Cv] at e; subst e; exact cp
  have hpn : p ∉ owned c a' t := fun h => by
    rcases List.mem_append.mp (show p ∈ a'.mem.map (·.1) ++ (t.prot.map (·.1) ++ (c.env.locals :: c.cells.map (·.2))) from h) with h | h
    · exact hno h
    · exact hpo h
  refine ⟨fun b => F b ∨ b = p, { H1 with nod := H.nod.sublist hs', own := fun b hb => ⟨fun e => ?_, (H.own b (hs'.mem hb)).2⟩, ns := ?_, cel := ?_, mem := ?_ }⟩
  · rcases e with e | rfl
    · exact (H.own b (hs'.mem hb)).1 e
    · exact hpn hb
  · obtain ⟨m, hn, hl⟩ := H1.ns
    refine ⟨m, hn, fun i x av e1 e2 => ?_⟩
    obtain ⟨x0, e3, e4⟩ := hloc i av e2
    obtain ⟨v, e5, e6⟩ := hl i x x0 e1 e3
    exact ⟨v, e5, up e4 e6⟩
  · intro i x e
    obtain ⟨ov, h1, h2⟩ := H1.cel i x e
    refine ⟨ov, h1, fun av e2 => ?_⟩
    obtain ⟨x0, e3, e4⟩ := hcel i av e2
    obtain ⟨v, e5, e6⟩ := h2 x0 e3
    exact ⟨v, e5, up e4 e6⟩
  · intro x hx
    obtain ⟨xs, h1, h2⟩ := hmem.back x hx
    obtain ⟨its', n', ho', hc'⟩ := H.mem _ h1
    exact ⟨its', n', ho', h2.cvl cp (CvL.mono (fun _ e => .inl e) (fun _ _ _ e => e) hc')⟩
/-- what is known is let go -/
noncomputable def Less (xs ys : List (Option AV)) : Prop := ∀ (i : Nat) (y : AV), ys[i]? = some (some y) → xs[i]? = some (some y)
theorem less_view {c : Cx} {a a' : AS} (hloc : Less a.loc a'.loc) (hcel : Less a.cel a'.cel) (hmem : List.Sublist a'.mem a.mem) : Vw c a a' := fun t s F H => by
  have hs' : List.Sublist (owned c a' t) (owned c a t) := (hmem.map _).append (List.Sublist.refl _)
  refine ⟨F, { H with nod := H.nod.sublist hs', own := fun b hb => H.own b (hs'.mem hb), ns := ?_, cel := ?_, mem := fun x hx => H.mem x (hmem.mem hx) }⟩
  · obtain ⟨m, hn, hl⟩ := H.ns
    exact ⟨m, hn, fun i x av e1 e2 => hl i x av e1 (hloc i av e2)⟩
  · intro i x e
    obtain ⟨ov, h1, h2⟩ := H.cel i x e
    exact ⟨ov, h1, fun av e2 => h2 av (hcel i av e2)⟩
section
variable {c : Cx} {a : AS} {K : AV → AS → Prop}
/-! one sign sought in a text -/
theorem subAt1 (x : List Nat) (y i : Nat) : Builtin.Str.subAt ⟨x.toArray⟩ ⟨#[y]⟩ i = true ↔ x[i]? = some y := by
  rw [StrLaws.subAt_eq]
  exact StrLaws.take1_drop
/-- the first place of a sign in a part of a text -/
noncomputable def firstAt (x : List Nat) (y lo hi j : Nat) : Prop := lo ≤ j ∧ j < hi ∧ x[j]? = some y ∧ ∀ i, lo ≤ i → i < j → x[i]? ≠ some y
noncomputable def nowhere (x : List Nat) (y lo hi : Nat) : Prop := ∀ i, lo ≤ i → i < hi → x[i]? ≠ some y
theorem occ1 (x : List Nat) (y lo hi limit : Nat) (hl : 1 ≤ limit) : (Builtin.Str.occurrences ⟨x.toArray⟩ ⟨#[y]⟩ lo hi limit = [] ∧ nowhere x y lo hi) ∨ ∃ j r, Builtin.Str.occurrences ⟨x.toArray⟩ ⟨#[y]⟩ lo hi limit = j :: r ∧ firstAt x y lo hi j := by
  rw [StrLaws.occ_eq]
  have at' : ∀ i, StrLaws.At ⟨x.toArray⟩ ⟨#[y]⟩ hi i ↔ i < hi ∧ x[i]? = some y := fun i => by
    unfold StrLaws.At
    rw [subAt1]
    show (i + 1 ≤ hi ∧ _) ↔ _
    constructor <;> (intro h; exact ⟨by omega, h.2⟩)
  rcases StrLaws.occ_first ⟨x.toArray⟩ ⟨#[y]⟩ hi limit hl (List.range' lo (hi + 1 - lo)) lo (fun i hi' => (List.mem_range'_1.mp hi').1) with ⟨h0, hn⟩ | ⟨pre, j, post, e, h0, hj, hn⟩
  · refine .inl ⟨by rw [h0], fun i h1 h2 h3 => hn i (List.mem_range'_1.mpr ⟨h1, by omega⟩) ((at' i).mpr ⟨h2, h3⟩)⟩
  · refine .inr ?_
    generalize (forIn (List.range' lo (hi + 1 - lo)) ((#[] : Array Nat), lo) (StrLaws.occBody ⟨x.toArray⟩ ⟨#[y]⟩ hi limit)).run.fst = arr at h0
    obtain ⟨l⟩ := arr
    cases l with
    | nil => simp at h0
    | cons z r =>
      have : z = j := by simpa using h0
      subst this
      have hj' := (at' z).mp hj
      have hm : z ∈ List.range' lo (hi + 1 - lo) := by rw [e]; simp
      refine ⟨z, r, rfl, (List.mem_range'_1.mp hm).1, hj'.1, hj'.2, fun i h1 h2 h3 => ?_⟩
      have hi' : i ∈ pre := by
        have hmi : i ∈ List.range' lo (hi + 1 - lo) := List.mem_range'_1.mpr ⟨h1, by have := hj'.1; omega⟩
        rw [e] at hmi
        rcases List.mem_append.mp hmi with h | h
        · exact h
        · exfalso
          have sorted : (List.range' lo (hi + 1 - lo)).Pairwise (· < ·) := List.pairwise_lt_range' ..
          rw [e] at sorted
          rcases List.mem_cons.mp h with h | h
          · omega
          · have := (List.pairwise_cons.mp (List.pairwise_append.mp sorted).2.1).1 i h
            omega
      exact hn i hi' ((at' i).mpr ⟨by omega, h3⟩)
theorem firstAt.unique {x : List Nat} {y lo hi i j : Nat} (a : firstAt x y lo hi i) (b : firstAt x y lo hi j) : i = j := by
  rcases Nat.lt_trichotomy i j with h | h | h
  · exact absurd a.2.2.1 (b.2.2.2 i a.1 h)
  · exact h
  · exact absurd b.2.2.1 (a.2.2.2 j b.1 h)
theorem gives_find4 (x y : Str) (i j : Int) (t u v w : Tok) : Gives (Builtin.«str.find» ⟨[.str x t, .str y u, .int i v, .int j w], []⟩) (.int (match Builtin.Str.occurrences x y (fromIndex x.length i) (min (fromIndex x.length j) x.length) 1 with | k :: _ => (k : Int) | [] => -1)) := by
  show Gives (match Builtin.Str.occurrences x y (fromIndex x.length i) (min (fromIndex x.length j) x.length) 1 with | k :: _ => retInt k | [] => (do rule "str.find.not-found"; retInt (-1))) _
  cases Builtin.Str.occurrences x y (fromIndex x.length i) (min (fromIndex x.length j) x.length) 1 with
  | nil => exact .rule (.of_eq rfl)
  | cons k _ => exact .of_eq rfl
theorem gives_index3 (x y : Str) (i : Int) (t u v : Tok) (k : Nat) (rest : List Nat) (h : Builtin.Str.occurrences x y (fromIndex x.length i) x.length 1 = k :: rest) : Gives (Builtin.«str.index» ⟨[.str x t, .str y u, .int i v], []⟩) (.int k) := by
  show Gives (match Builtin.Str.occurrences x y (fromIndex x.length i) (min x.length x.length) 1 with | i :: _ => retInt i | [] => (do rule "str.index.not-found"; raiseError "ValueError" "substring not found")) _
  rw [Nat.min_self, h]
  exact .of_eq rfl
theorem fromIndex_nat (n i : Nat) : fromIndex n (i : Int) = i := by unfold fromIndex; split <;> omega
theorem tc_find4 {x : List Nat} {y i j : Nat} (hj : j ≤ x.length) {r : Int} (hr : (r = -1 ∧ nowhere x y i j) ∨ ∃ k, r = (k : Nat) ∧ firstAt x y i j k) (h : K (.int r) a) : TC c a [.str x, .str [y], .int i, .int j] (fun vs => call (.builtin "str.find") vs) K := fun t s F vs H cv => by
  rw [CvL] at cv; obtain ⟨v, r1, rfl, c1, cv⟩ := cv
  rw [CvL] at cv; obtain ⟨v, r2, rfl, c2, cv⟩ := cv
  rw [CvL] at cv; obtain ⟨v, r3, rfl, c3, cv⟩ := cv
  rw [CvL] at cv; obtain ⟨v, r4, rfl, c4, cv⟩ := cv
  rw [CvL] at cv; subst cv
  rw [Cv] at c1 c2; rw [Cv] at c3 c4
  obtain ⟨t1, rfl⟩ := c1; obtain ⟨t2, rfl⟩ := c2; obtain ⟨t3, rfl⟩ := c3; obtain ⟨t4, rfl⟩ := c4
  have hmin : min (fromIndex (Str.mk x.toArray).length (j : Int)) (Str.mk x.toArray).length = j := by
    rw [fromIndex_nat]; show min j x.toArray.size = j; rw [List.size_toArray]; omega
  have e : (match Builtin.Str.occurrences (Str.mk x.toArray) ⟨#[y]⟩ (fromIndex (Str.mk x.toArray).length (i : Int)) (min (fromIndex (Str.mk x.toArray).length (j : Int)) (Str.mk x.toArray).length) 1 with | k :: _ => (k : Int) | [] => -1) = r := by
    rw [hmin, fromIndex_nat]
    rcases occ1 x y i j 1 (Nat.le_refl _) with ⟨h0, hn⟩ | ⟨k, r', h0, hk⟩
    · rw [h0]
      rcases hr with ⟨rfl, _⟩ | ⟨k, rfl, hk⟩
      · rfl
      · exact absurd hk.2.2.1 (hn k hk.1 hk.2.1)
    · rw [h0]
      rcases hr with ⟨rfl, hn⟩ | ⟨k', rfl, hk'⟩
      · exact absurd hk.2.2.1 (hn k hk.1 hk.2.1)
      · rw [hk.unique hk']
  refine call_gives PySem.F.slot_str_find (typeIs_str _ _ _) PySem.F.entry_str_find (PySem.F.args_str_find_4 _ _ _ _) (gives_find4 _ _ i j t1 t2 t3 t4) ?_
  show Post c t K (.int _ s.toks) { s with toks := s.toks + 1 }
  exact ⟨.int r, a, F, H.toks _, by rw [Cv]; exact ⟨_, by rw [← e]⟩, h⟩
theorem tc_index3 {x : List Nat} {y i k : Nat} (hk : firstAt x y i x.length k) (h : K (.int k) a) : TC c a [.str x, .str [y], .int i] (fun vs => call (.builtin "str.index") vs) K := fun t s F vs H cv => by
  rw [CvL] at cv; obtain ⟨v, r1, rfl, c1, cv⟩ := cv
  rw [CvL] at cv; obtain ⟨v, r2, rfl, c2, cv⟩ := cv
  rw [CvL] at cv; obtain ⟨v, r3, rfl, c3, cv⟩ := cv
  rw [CvL] at cv; subst cv
  rw [Cv] at c1 c2; rw [Cv] at c3
  obtain ⟨t1, rfl⟩ := c1; obtain ⟨t2, rfl⟩ := c2; obtain ⟨t3, rfl⟩ := c3
  have hlen : (Str.mk x.toArray).length = x.length := by show x.toArray.size = _; rw [List.size_toArray]
  obtain ⟨rest, e⟩ : ∃ rest, Builtin.Str.occurrences (Str.mk x.toArray) ⟨#[y]⟩ (fromIndex (Str.mk x.toArray).length (i : Int)) (Str.mk x.toArray).length 1 = k :: rest := by
    rw [fromIndex_nat, hlen]
    rcases occ1 x y i x.length 1 (Nat.le_refl _) with ⟨h0, hn⟩ | ⟨k', r', h0, hk'⟩
    · exact absurd hk.2.2.1 (hn k hk.1 hk.2.1)
    · exact ⟨r', by rw [h0, hk'.unique hk]⟩
  refine call_gives PySem.F.slot_str_index (typeIs_str _ _ _) PySem.F.entry_str_index (PySem.F.args_str_index_3 _ _ _) (gives_index3 _ _ i t1 t2 t3 k rest e) ?_
  show Post c t K (.int _ s.toks) { s with toks := s.toks + 1 }
  exact ⟨.int k, a, F, H.toks _, by rw [Cv]; exact ⟨_, rfl⟩, h⟩
/-- nothing to be replaced -/
theorem tc_replace {x z : List Nat} {y : Nat} (hn : y ∉ x) (h : K (.str x) a) : TC c a [.str x, .str [y], .str z] (fun vs => call (.builtin "str.replace") vs) K := fun t s F vs H cv => by
  rw [CvL] at cv; obtain ⟨v, r1, rfl, c1, cv⟩ := cv
  rw [CvL] at cv; obtain ⟨v, r2, rfl, c2, cv⟩ := cv
  rw [CvL] at cv; obtain ⟨v, r3, rfl, c3, cv⟩ := cv
  rw [CvL] at cv; subst cv
  rw [Cv] at c1 c2 c3
  obtain ⟨t1, rfl⟩ := c1; obtain ⟨t2, rfl⟩ := c2; obtain ⟨t3, rfl⟩ := c3
  have e : Builtin.Str.occurrences (Str.mk x.toArray) ⟨[y].toArray⟩ 0 (Str.mk x.toArray).length ((Str.mk x.toArray).length + 1) = [] := by
    rcases occ1 x y 0 (Str.mk x.toArray).length ((Str.mk x.toArray).length + 1) (by omega) with ⟨h0, _⟩ | ⟨k, r', h0, hk⟩
    · exact h0
    · exact absurd (List.mem_of_getElem? hk.2.2.1) hn
  have he : ((Builtin.Str.occurrences (Str.mk x.toArray) ⟨[y].toArray⟩ 0 (Str.mk x.toArray).length ((Str.mk x.toArray).length + 1)).isEmpty || ((Str.mk [y].toArray).length == 0 && (Str.mk z.toArray).length == 0)) = true := by rw [e]; rfl
  refine call_gives PySem.F.slot_str_replace (typeIs_str _ _ _) PySem.F.entry_str_replace (PySem.F.args_str_replace_3 _ _ _) (gives_str_replace _ _ _ t1 t2 t3 (fun q => by rw [he] at q; cases q)) ?_
  rw [if_pos he]
  exact ⟨.str x, a, F, H, by rw [Cv]; exact ⟨_, rfl⟩, h⟩
end
end Mine
end
section
namespace Mine
theorem mro_obj : mroOf (.type "object") = pure [.type "object"] := by rw [mroOf_type]; kernel_rfl
theorem lookup_obj_new : typeLookup (.type "object") "__new__" = pure (some (.builtin "object.__new__")) := by rw [typeLookup_type, builtinLookup_eq_fast]; kernel_rfl
theorem called_obj : TypeCalled "object" "object.__new__" "object.__init__" := ⟨by decide +kernel, by decide +kernel, ⟨_, _, mro_obj⟩, madeBy_type mro_obj lookup_obj_new (by decide +kernel), by decide +kernel, by rw [isSubtype_type]; kernel_rfl, PySem.F.slot_object_init⟩
theorem typeCall_obj : checkTypeCall "object" ⟨[], []⟩ = pure () := by kernel_rfl
theorem newCall_obj : checkBuiltinCall "object.__new__" ⟨[.type "object"], []⟩ = pure () := by kernel_rfl
theorem meets_obj_new : Meets (Builtin.«object.__new__» ⟨[.type "object"], []⟩) (fun A R s => R (.ok (.ret (.ref s.heap.objs.size))) { s with heap := s.heap.push { cls := .type "object", data := .plain } }) :=
  Meets.of_wp fun prog w A R s hs => by
    have g1 : Bind.madeHere "object.__new__" (.type "object") = pure () := by
      unfold Bind.madeHere
      have : Bind.madeBy (.type "object") = pure (some "object.__new__") := called_obj.made
      first | rfl | kernel_rfl
    unfold Builtin.«object.__new__»
    repeat (any_goals (first | assumption | wp_step))
    exact ⟨_, rfl, hs⟩
theorem meets_obj_init (b : Addr) : Meets (Builtin.«object.__init__» ⟨[.ref b], []⟩) (fun A R s => R (.ok (.ret .none)) s) :=
  Meets.of_wp fun prog w A R s hs => by
    unfold Builtin.«object.__init__»
    repeat (any_goals (first | assumption | wp_step))
    all_goals exact ⟨_, rfl, hs⟩
theorem args_obj_init (b : Value) : argsOk "object.__init__" ⟨[b], []⟩ := by
  unfold argsOk; rw [signature?_of (id := "object.__init__") (n := ['_', '_', 't', 'i', 'n', 'i', '_', '_']) (o := ['t', 'c', 'e', 'j', 'b', 'o']) (by kernel_rfl) PySem.F.owner_object]; kernel_rfl
theorem call_object {prog : Program} {w : World} {A : Around} {E : Value → Shared → Prop} {s : Shared} {Q : Value → Shared → Prop} (h : Q (.ref s.heap.objs.size) { s with heap := s.heap.push { cls := .type "object", data := .plain } }) :
    wpAny (model prog w) A (call (.type "object") []) Q E s := by
  refine callType_meets (Q₁ := fun v s₁ => v = .ref s.heap.objs.size ∧ s₁ = { s with heap := s.heap.push { cls := .type "object", data := .plain } }) called_obj typeCall_obj newCall_obj PySem.F.entry_object_new PySem.F.entry_object_init meets_obj_new ⟨rfl, rfl⟩ ?_
  rintro obj s₁ ⟨rfl, rfl⟩
  exact ⟨⟨_, Heap.get?_push_size _ rfl, rfl⟩, args_obj_init _, _, meets_obj_init _, rfl, h⟩
section
variable {c : Cx} {a : AS} {K : AV → AS → Prop}
theorem tc_object (h : ∀ p, K (.val (.ref p)) a) : TC c a [] (fun vs => call (.type "object") vs) K := fun t s F vs H cv => by
  rw [CvL] at cv; subst cv
  exact call_object ⟨.val (.ref s.heap.objs.size), a, F, H.push _ _, by rw [Cv], h _⟩
/-! own lists changed -/
theorem Heap.sameBut_update (p : Addr) (h : Heap) (f : Obj → Obj) : Heap.SameBut p h (h.update p f) := Heap.SameBut.update ..
theorem set_mem {p : Addr} {l : List AV} {k : Nat} {x : AV} {mem' : List (Addr × List AV)} (hm : MemAt p l (l.set k x) a.mem mem') (hk : k < l.length) (hsz : l.length ≤ 1000000) {t : Tmp} {s : Shared} {F : Addr → Prop} {v : Value} {u : Tok} (H : AtF c a t s F) (cx : Cv s.heap F x v)
    {Q : Unit → Shared → Prop} (h : ∀ s', AtF c { a with mem := mem' } t s' F → Q () s') : wpAny c.W.M c.A (setItem (.ref p) (.int (k : Int) u) v) Q FE s := by
  obtain ⟨its, n, ho, hc⟩ := H.mem _ hm.mem
  have e : l.length = its.size := by have := hc.length; simpa using this
  refine ki_setAt ho (by omega) (by omega) (by omega) (h _ (H.setMem (tk := s.toks) hm (Heap.SameBut.update ..) (its := its.setIfInBounds k v) (n := if (its.setIfInBounds k v).size == its.size then n else n + 1) ?_ ?_))
  · rw [Heap.get?_update_self _ ho rfl]
    rfl
  · rw [Array.toList_setIfInBounds]
    exact hc.set k cx
theorem ts_setitem {o i value : Expr} {p pos : Pos} {K : AFl → AS → Prop} (h : TE c a value (fun x a1 => TE c a1 o (fun y a2 => TE c a2 i (fun z a3 => ∃ q l mem' k, y = .val (.ref q) ∧ z = .int ((k : Nat) : Int) ∧ MemAt q l (l.set k x) a3.mem mem' ∧ k < l.length ∧ l.length ≤ 1000000 ∧ K .next { a3 with mem := mem' }))))
    (hs : ∀ env, swapsWith value (some (.Subscript o i p)) pos.line env = pure false := by intro _; rfl) : TS c a (.Assign [.Subscript o i p] value pos) K := fun t s F H => by
  refine wpAny_Assign_Subscript (wp_post (h t s F H) fun v s1 x a1 F1 H1 cx k1 => wp_post (k1 _ s1 F1 (H1.pushVal cx)) fun ov s2 y a2 F2 H2 cy k2 => wp_post (k2 _ s2 F2 (H2.pushVal cy)) fun iv s3 z a3 F3 H3 cz kk => ?_) (hs _)
  obtain ⟨q, l, mem', k, hy, hz, hm, hk, hsz, k3⟩ := kk
  obtain ⟨H4, c4⟩ := H3.popVal
  obtain ⟨H5, c5⟩ := H4.popVal
  subst hy; subst hz
  rw [Cv] at c4; subst c4
  rw [Cv] at cz; obtain ⟨u, rfl⟩ := cz
  exact set_mem hm hk hsz H5 c5 fun s' H' => ⟨.next, _, F3, H', cvF_next, k3⟩
theorem ts_delitem {o i : Expr} {p pos : Pos} {K : AFl → AS → Prop} (h : TE c a o (fun y a2 => TE c a2 i (fun z a3 => ∃ q l mem' k, y = .val (.ref q) ∧ z = .int ((k : Nat) : Int) ∧ MemAt q l (l.eraseIdx k) a3.mem mem' ∧ k < l.length ∧ l.length ≤ 1000000 ∧ K .next { a3 with mem := mem' }))) :
    TS c a (.Delete [.Subscript o i p] pos) K := fun t s F H => by
  refine wpAny_Delete ?_
  show wpAny c.W.M c.A (do
    (do let ov ← eval o c.env
        let iv ← holding [ov] (eval i c.env)
        standAt p
        holding [ov, iv] (delItem ov iv)
        release [ov, iv] [])
    deleteEach [] c.env) _ _ _
  refine wpAny_bind (wpAny_bind (wp_post (h t s F H) fun ov s2 y a2 F2 H2 cy k2 => wpAny_bind (wpAny_holding (wp_post (k2 _ s2 F2 (H2.pushVal cy)) fun iv s3 z a3 F3 H3 cz kk => ?_))))
  obtain ⟨q, l, mem', k, hy, hz, hm, hk, hsz, k3⟩ := kk
  obtain ⟨H4, c4⟩ := H3.popVal
  subst hy; subst hz
  rw [Cv] at c4; subst c4
  rw [Cv] at cz; obtain ⟨u, rfl⟩ := cz
  obtain ⟨its, n, ho, hc⟩ := H4.mem _ hm.mem
  have e : l.length = its.size := by have := hc.length; simpa using this
  refine wpAny_bind (wpAny_standAt (wpAny_bind (wpAny_holding ?_)))
  refine PySem.P.delItem_list (n := n) (k := k) ho ?_ ?_ ?_ (by rw [sizeLine_eq]; omega)
  · unfold Builtin.List.listFitsIndex; simp; omega
  · unfold seqIndex?
    rw [if_neg (by omega : ¬ ((k : Int) < 0))]
    simp; omega
  · have H6 : AtF c { a3 with mem := mem' } t { s3 with heap := s3.heap.update q (Obj.mapSeq fun xs => xs.eraseIdxIfInBounds k) } F3 := H4.setMem (tk := s3.toks) hm (Heap.SameBut.update ..) (its := its.eraseIdxIfInBounds k) (n := if (its.eraseIdxIfInBounds k).size == its.size then n else n + 1) (by
      rw [Heap.get?_update_self _ ho rfl]; rfl) (by
      have e2 : (its.eraseIdxIfInBounds k).toList = its.toList.eraseIdx k := by
        unfold Array.eraseIdxIfInBounds
        rw [dif_pos (by omega), Array.toList_eraseIdx]
      rw [e2]
      exact hc.eraseIdx k)
    unfold release
    repeat (any_goals (first | assumption | wp_step))
    all_goals exact ⟨.next, _, F3, H6, cvF_next, k3⟩
/-- a text among texts -/
theorem op_intup {x : List Nat} {l : List (List Nat)} (h : K (.bool (l.any fun y => y == x)) a) : T2 c a (.str x) (.tup (l.map .str)) (compareOp .In) K := by
  intro t s F u v H cx cy
  rw [Cv] at cx; rw [Cv] at cy
  obtain ⟨t1, rfl⟩ := cx
  obtain ⟨p, its, n, rfl, hF, ho, hc⟩ := cy
  obtain ⟨ts, e1, e2⟩ := cvl_strs hc
  let e : Value → Bool := fun v => match v with | .str y _ => y == ⟨x.toArray⟩ | _ => false
  refine PySem.SeqRoads2.in_tuple (n := n) e (fun y hy => ?_) ho ?_
  · have hy' : y ∈ its.toList := by simpa using hy
    rw [e1] at hy'
    obtain ⟨z, hz, rfl⟩ := List.mem_map.mp hy'
    exact eqGives_str _ _ _ _
  · have e3 : its.any e = l.any fun y => y == x := by
      rw [← Array.any_toList, e1]
      have key : ∀ (ts : List (Str × Tok)) (l : List (List Nat)), ts.map (·.1) = l.map (fun x => (⟨x.toArray⟩ : Str)) → (strValues ts).any e = l.any fun y => y == x := by
        intro ts
        induction ts with
        | nil => intro l h; cases l with | nil => rfl | cons _ _ => simp at h
        | cons z ts ih =>
          intro l h
          cases l with
          | nil => simp at h
          | cons y l =>
            simp only [List.map_cons, List.cons.injEq] at h
            show (e (.str z.1 z.2) || (strValues ts).any e) = (y == x || l.any fun y => y == x)
            rw [ih l h.2, h.1]
            congr 1
            show ((⟨y.toArray⟩ : Str) == ⟨x.toArray⟩) = (y == x)
            rw [Bool.eq_iff_iff, beq_iff_eq, beq_iff_eq]
            constructor
            · intro h; injection h with h; simpa using h
            · intro h; rw [h]
      exact key ts l e2
    rw [e3]
    exact ⟨.bool _, a, F, H, by rw [Cv], h⟩
end
end Mine
end
section
namespace Mine
noncomputable abbrev FinK (R : AV → Prop) : AFl → AS → Prop := fun fl a' => match fl with | .ret x => R x | _ => R .none
section
variable {c : Cx} {a : AS}
theorem tl_nil {K : List AV → AS → Prop} (h : K [] a) : TL c a [] K := h
theorem tl_cons {e : Expr} {es : List Expr} {K : List AV → AS → Prop} (h : TE c a e (fun x a1 => TL c a1 es (fun xs a2 => K (x :: xs) a2))) : TL c a (e :: es) K := h
theorem tba_nil {K : Bool → AS → Prop} (h : K true a) : TBAnd c a [] K := h
theorem tba_cons {e : Expr} {es : List Expr} {K : Bool → AS → Prop} (h : TB c a e (fun b a1 => if b = true then TBAnd c a1 es K else K false a1)) : TBAnd c a (e :: es) K := h
theorem tbo_nil {K : Bool → AS → Prop} (h : K false a) : TBOr c a [] K := h
theorem tbo_cons {e : Expr} {es : List Expr} {K : Bool → AS → Prop} (h : TB c a e (fun b a1 => if b = true then K true a1 else TBOr c a1 es K)) : TBOr c a (e :: es) K := h
theorem tea_one {e : Expr} {K : AV → AS → Prop} (h : TE c a e K) : TEAnd c a [e] K := h
theorem tea_cons {e e' : Expr} {es : List Expr} {K : AV → AS → Prop} (h : TE c a e (fun v a1 => Tt c a1 v (fun b a2 => if b = true then TEAnd c a2 (e' :: es) K else K v a2))) : TEAnd c a (e :: e' :: es) K := h
theorem tj_nil {out : List Nat} {K : AV → AS → Prop} (h : K (.str out) a) : TJ c a out [] K := h
theorem tj_cons {out : List Nat} {e : Expr} {es : List Expr} {K : AV → AS → Prop} (h : TE c a e (fun v a1 => ∃ x, v = .str x ∧ (out ++ x).length ≤ 1000000 ∧ TJ c a1 (out ++ x) es K)) : TJ c a out (e :: es) K := h
theorem tas_nil {K : AS → Prop} (h : K a) : TAs c a [] [] K := h
theorem tas_cons {e : Expr} {es : List Expr} {x : AV} {xs : List AV} {K : AS → Prop} (h : TA c a e x (fun a' => TAs c a' es xs K)) : TAs c a (e :: es) (x :: xs) K := h
theorem to_none {K : Option Int → AS → Prop} (h : K none a) : TO c a none K := h
theorem to_some {e : Expr} {K : Option Int → AS → Prop} (h : TE c a e (fun x a' => ∃ i, x = .int i ∧ K (some i) a')) : TO c a (some e) K := h
theorem slc_str {x : List Nat} {lo hi : Option Int} {k : AV → Prop} (hl : x.length ≤ 1000000) (h : k (.str (pyS x lo hi))) : Slc (.str x) lo hi k := ⟨hl, h⟩
theorem slc_lst {x : List AV} {lo hi : Option Int} {k : AV → Prop} (hl : x.length ≤ 1000000) (h : k (.lst (pyS x lo hi))) : Slc (.lst x) lo hi k := ⟨hl, h⟩
theorem tts_nil {K : Bool → AS → Prop} (h : K true a) : TTs c a [] K := h
theorem tts_one {e : Expr} {K : Bool → AS → Prop} (h : TB c a e K) : TTs c a [e] K := h
theorem at_next {rest : List Stmt} {K : AFl → AS → Prop} (h : TSs c a rest K) : andThen c rest K .next a := h
theorem at_ret {rest : List Stmt} {K : AFl → AS → Prop} {x : AV} (h : K (.ret x) a) : andThen c rest K (.ret x) a := h
theorem at_brk {rest : List Stmt} {K : AFl → AS → Prop} (h : K .brk a) : andThen c rest K .brk a := h
theorem tk_next {K : AFl → AS → Prop} {n : AS → Prop} (h : n a) : TurnK c K n .next a := h
theorem tk_brk {K : AFl → AS → Prop} {n : AS → Prop} (h : K .next a) : TurnK c K n .brk a := h
theorem tk_ret {K : AFl → AS → Prop} {n : AS → Prop} {x : AV} (h : K (.ret x) a) : TurnK c K n (.ret x) a := h
theorem fk_ret {R : AV → Prop} {x : AV} (h : R x) : FinK R (.ret x) a := h
theorem fk_next {R : AV → Prop} (h : R .none) : FinK R .next a := h
theorem ts_while' {K : AFl → AS → Prop} {test : Expr} {body orelse : List Stmt} {pos : Pos} (I : Nat → AS → Prop) (n : Nat) (h : I n a)
    (turn : ∀ n a, I n a → TB c a test (fun b a1 => if b = true then TSs c a1 body (TurnK c K (fun a2 => ∃ m, m < n ∧ I m a2)) else TSs c a1 orelse K)) : TS c a (.While test body orelse pos) K :=
  ts_while I n h fun n a hI => by
    have := turn n a hI
    intro t s F H
    refine wp_mono (this t s F H) fun b s' ⟨a', F', H', k⟩ => ⟨a', F', H', ?_⟩
    cases b with
    | true => rw [if_pos rfl] at k ⊢; exact k.mono fun fl a2 hk => by cases fl <;> exact hk
    | false => rw [if_neg (by decide)] at k ⊢; exact k
theorem te_ifT {test body orelse : Expr} {pos : Pos} {K : AV → AS → Prop} (h : TB c a test (fun b a1 => if b = true then TE c a1 body K else TE c a1 orelse K)) : TE c a (.IfExp test body orelse pos) K := te_if h
end
theorem if_t {p : Prop} [Decidable p] {α : Type} {x y : Prop} (hp : p) (h : x) : if p then x else y := by rw [if_pos hp]; exact h
theorem if_f {p : Prop} [Decidable p] {x y : Prop} (hp : ¬ p) (h : y) : if p then x else y := by rw [if_neg hp]; exact h
theorem if_tt {x y : Prop} (h : x) : if true = true then x else y := by rw [if_pos rfl]; exact h
theorem if_ff {x y : Prop} (h : y) : if false = true then x else y := by rw [if_neg (by decide)]; exact h
theorem if_d {p : Prop} [Decidable p] {x y : Prop} (ht : p → x) (hf : ¬ p → y) : if decide p = true then x else y := by
  by_cases hp : p
  · rw [if_pos (by simpa using hp)]; exact ht hp
  · rw [if_neg (by simpa using hp)]; exact hf hp
theorem if_b {b : Bool} {x y : Prop} (ht : b = true → x) (hf : b = false → y) : if b = true then x else y := by
  cases b with
  | true => rw [if_pos rfl]; exact ht rfl
  | false => rw [if_neg (by decide)]; exact hf rfl
end Mine
end
section
namespace Mine
theorem seqIx {i n : Nat} (h : i < n) : seqIndex? (i : Int) n = some i := by
  unfold seqIndex?
  rw [if_neg (by omega : ¬ ((i : Int) < 0))]
  simp; omega
theorem seqIxL {n : Nat} (h : 0 < n) : seqIndex? (-1) n = some (n - 1) := by
  unfold seqIndex?
  rw [if_pos (by decide : (-1 : Int) < 0)]
  simp; omega
section
variable {c : Cx} {a : AS} {K : AV → AS → Prop}
theorem sub_lstN {value slice : Expr} {l : List AV} {k : Int} {x : AV} (i : Nat) (hk : k = i) (hx : l[i]? = some x) (hi : i < 1000000) (h : K x a) (hs : Plain slice := by intro _ _; rfl) : T2 c a (.lst l) (.int k) (subscriptTail value slice) K := by
  subst hk
  exact sub_lst i (seqIx (List.getElem?_eq_some_iff.mp hx).1) hx h (by omega) hs
theorem sub_memN {value slice : Expr} {p : Addr} {l : List AV} {k : Int} {x : AV} (i : Nat) (hm : (p, l) ∈ a.mem) (hk : k = i) (hx : l[i]? = some x) (hi : i < 1000000) (h : K x a) (hs : Plain slice := by intro _ _; rfl) : T2 c a (.val (.ref p)) (.int k) (subscriptTail value slice) K := by
  subst hk
  exact sub_mem i hm (seqIx (List.getElem?_eq_some_iff.mp hx).1) hx h (by omega) hs
theorem sub_memL {value slice : Expr} {p : Addr} {l : List AV} {x : AV} (hm : (p, l ++ [x]) ∈ a.mem) (h : K x a) (hs : Plain slice := by intro _ _; rfl) : T2 c a (.val (.ref p)) (.int (-1)) (subscriptTail value slice) K :=
  sub_mem l.length hm (by rw [seqIxL (by simp)]; simp) (by simp) h (by omega) hs
theorem sub_lstL {value slice : Expr} {l : List AV} {x : AV} (h : K x a) (hs : Plain slice := by intro _ _; rfl) : T2 c a (.lst (l ++ [x])) (.int (-1)) (subscriptTail value slice) K :=
  sub_lst l.length (by rw [seqIxL (by simp)]; simp) (by simp) h (by omega) hs
theorem sub_strN {value slice : Expr} {x : List Nat} {k : Int} {y : Nat} (i : Nat) (hk : k = i) (hx : x[i]? = some y) (hi : i < 1000000) (h : K (.str [y]) a) (hs : Plain slice := by intro _ _; rfl) : T2 c a (.str x) (.int k) (subscriptTail value slice) K := by
  subst hk
  exact sub_str i (seqIx (List.getElem?_eq_some_iff.mp hx).1) hx h (by omega) hs
theorem sub_tupN {value slice : Expr} {l : List AV} {k : Int} {x : AV} (i : Nat) (hk : k = i) (hx : l[i]? = some x) (hi : i < 1000000) (h : K x a) (hs : Plain slice := by intro _ _; rfl) : T2 c a (.tup l) (.int k) (subscriptTail value slice) K := by
  subst hk
  exact sub_tup i (seqIx (List.getElem?_eq_some_iff.mp hx).1) hx h (by omega) hs
theorem size0 (n : Nat) : Builtin.Range.rangeSize 0 (n : Int) 1 = ((n : Nat) : Int) := by
  unfold Builtin.Range.rangeSize
  rw [if_pos (by decide : (1 : Int) > 0)]
  split
  · rw [Int.ediv_one]; omega
  · omega
theorem small0 {n : Nat} (h : n ≤ 1000000) : Builtin.Range.small 0 (n : Int) 1 = true := by
  unfold Builtin.Range.small
  rw [size0]
  simp [Builtin.Range.rangeFitsLong]; omega
theorem ts_for_n {x : Str} {px : Pos} {iter : Expr} {body orelse : List Stmt} {pos : Pos} {K : AFl → AS → Prop} (J : Nat → AS → Prop) (n : Nat) (hn : n ≤ 1000000)
    (h : TE c a iter (fun y a1 => y = .rng 0 n 1 ∧ J 0 a1)) (turn : ∀ (i : Nat) (a : AS), i < n → J i a → TA c a (.Name x px) (.int (i : Nat)) (fun a1 => TSs c a1 body (TurnK c K (J (i + 1))))) (fin : ∀ a, J n a → TSs c a orelse K)
    (hs : ∀ env x, foldedSetIterable iter env x = pure x := by intro _ _; rfl) : TS c a (.For (.Name x px) iter body orelse pos) K :=
  ts_for_rng J (h.mono fun y a1 ⟨hy, h0⟩ => ⟨0, n, 1, n, hy, small0 hn, size0 n, h0, fun i a hi hJ => by
    have := turn i a hi hJ
    rw [show (0 : Int) + (i : Nat) * 1 = (i : Nat) by omega]
    exact this, fin⟩) hs
end
end Mine
namespace Mine
section
variable {c : Cx} {a : AS}
theorem tb_call {f : Expr} {args : List Expr} {kw : List Keyword} {pos : Pos} {K : Bool → AS → Prop} (h : TE c a (.Call f args kw pos) (fun x a1 => Tt c a1 x K)) : TB c a (.Call f args kw pos) K := tb_plain h (by intro _ _; rfl)
theorem tb_name {x : Str} {pos : Pos} {K : Bool → AS → Prop} (h : TE c a (.Name x pos) (fun x a1 => Tt c a1 x K)) : TB c a (.Name x pos) K := tb_plain h (by intro _ _; rfl)
theorem tb_const {k : Const} {n : Nat} {pos : Pos} {K : Bool → AS → Prop} (h : TE c a (.Constant k n pos) (fun x a1 => Tt c a1 x K)) : TB c a (.Constant k n pos) K := tb_plain h (by intro _ _; rfl)
end
end Mine
namespace Mine
section
variable {c : Cx} {a : AS}
theorem ts_for_l {target iter : Expr} {body orelse : List Stmt} {pos : Pos} {K : AFl → AS → Prop} (J : Nat → AS → Prop) {α : Type} (l : List α) (f : α → AV) (hl : l.length ≤ 1000000)
    (h : TE c a iter (fun y a1 => y = .lst (l.map f) ∧ J 0 a1)) (turn : ∀ (i : Nat) (x : α) (a : AS), l[i]? = some x → J i a → TA c a target (f x) (fun a1 => TSs c a1 body (TurnK c K (J (i + 1))))) (fin : ∀ a, J l.length a → TSs c a orelse K)
    (hs : ∀ env x, foldedSetIterable iter env x = pure x := by intro _ _; rfl) : TS c a (.For target iter body orelse pos) K :=
  ts_for_lst J (h.mono fun y a1 ⟨hy, h0⟩ => ⟨l.map f, hy, by simpa using hl, h0, fun i x a hx hJ => by
    rw [List.getElem?_map] at hx
    cases hz : l[i]? with
    | none => rw [hz] at hx; cases hx
    | some z => rw [hz] at hx; cases hx; exact turn i z a hz hJ, fun a hJ => fin a (by simpa using hJ)⟩) hs
theorem ts_for_t {x : Str} {px : Pos} {iter : Expr} {body orelse : List Stmt} {pos : Pos} {K : AFl → AS → Prop} (J : Nat → AS → Prop) {α : Type} (l : List α) (f : α → AV)
    (h : TE c a iter (fun y a1 => y = .tup (l.map f) ∧ J 0 a1)) (turn : ∀ (i : Nat) (y : α) (a : AS), l[i]? = some y → J i a → TA c a (.Name x px) (f y) (fun a1 => TSs c a1 body (TurnK c K (J (i + 1))))) (fin : ∀ a, J l.length a → TSs c a orelse K)
    (hs : ∀ env x, foldedSetIterable iter env x = pure x := by intro _ _; rfl) : TS c a (.For (.Name x px) iter body orelse pos) K :=
  ts_for_tup J (h.mono fun y a1 ⟨hy, h0⟩ => ⟨l.map f, hy, h0, fun i x a hx hJ => by
    rw [List.getElem?_map] at hx
    cases hz : l[i]? with
    | none => rw [hz] at hx; cases hx
    | some z => rw [hz] at hx; cases hx; exact turn i z a hz hJ, fun a hJ => fin a (by simpa using hJ)⟩) hs
theorem pyS_map {α β : Type} (f : α → β) (l : List α) (lo hi : Option Int) : pyS (l.map f) lo hi = (pyS l lo hi).map f := by
  unfold pyS
  rw [List.length_map, List.map_take, List.map_drop]
end
end Mine
namespace Mine
theorem ex_int {i : Int} {K : Int → Prop} (h : K i) : ∃ j, AV.int i = .int j ∧ K j := ⟨i, rfl, h⟩
theorem ex_str {x : List Nat} {K : List Nat → Prop} (h : K x) : ∃ j, AV.str x = .str j ∧ K j := ⟨x, rfl, h⟩
end Mine
end
section
namespace Mine
theorem perm_view {c : Cx} {a a' : AS} (hl : a'.loc = a.loc) (hc : a'.cel = a.cel) (hm : a'.mem.Perm a.mem) : Vw c a a' := fun t s F H => by
  obtain ⟨loc, cel, mem⟩ := a
  obtain ⟨loc', cel', mem'⟩ := a'
  simp only at hl hc hm
  subst hl; subst hc
  have hp : (owned c ⟨loc', cel', mem'⟩ t).Perm (owned c ⟨loc', cel', mem⟩ t) := (hm.map _).append_right _
  exact ⟨F, { H with nod := hp.nodup_iff.mpr H.nod, own := fun b hb => H.own b (hp.mem_iff.mp hb), mem := fun x hx => H.mem x (hm.mem_iff.mp hx) }⟩
theorem Vw.trans {c : Cx} {a a' a'' : AS} (h : Vw c a a') (h' : Vw c a' a'') : Vw c a a'' := fun t s F H => by
  obtain ⟨F', H'⟩ := h t s F H
  exact h' t s F' H'
section
variable {c : Cx} {a : AS} {K : AV → AS → Prop}
theorem cvl_ints {h : Heap} {F : Addr → Prop} : ∀ {l : List Int} {vs : List Value}, CvL h F (l.map .int) vs → ∃ ts : List (Int × Tok), vs = ts.map (fun p => Value.int p.1 p.2) ∧ ts.map (·.1) = l
  | [], vs, e => by rw [List.map_nil, CvL] at e; subst e; exact ⟨[], rfl, rfl⟩
  | x :: l, vs, e => by
    rw [List.map_cons, CvL] at e
    obtain ⟨v, r, rfl, c1, c2⟩ := e
    rw [Cv] at c1; obtain ⟨t, rfl⟩ := c1
    obtain ⟨ts, rfl, h2⟩ := cvl_ints c2
    exact ⟨(x, t) :: ts, rfl, by simp [h2]⟩
theorem op_inint {i : Int} {l : List Int} (h : K (.bool (l.any fun y => y == i)) a) : T2 c a (.int i) (.tup (l.map .int)) (compareOp .In) K := by
  intro t s F u v H cx cy
  rw [Cv] at cx; rw [Cv] at cy
  obtain ⟨t1, rfl⟩ := cx
  obtain ⟨p, its, n, rfl, hF, ho, hc⟩ := cy
  obtain ⟨ts, e1, e2⟩ := cvl_ints hc
  let e : Value → Bool := fun v => match v with | .int y _ => y == i | _ => false
  refine PySem.SeqRoads2.in_tuple (n := n) e (fun y hy => ?_) ho ?_
  · have hy' : y ∈ its.toList := by simpa using hy
    rw [e1] at hy'
    obtain ⟨z, hz, rfl⟩ := List.mem_map.mp hy'
    intro prog w A E s Q hq
    exact wpAny_eqBool_int hq
  · have e3 : its.any e = l.any fun y => y == i := by
      rw [← Array.any_toList, e1, ← e2, List.any_map, List.any_map]
      rfl
    rw [e3]
    exact ⟨.bool _, a, F, H, by rw [Cv], h⟩
end
end Mine
namespace Mine
theorem nr_none {p : Prop} (h : p) : AV.none.nonref = true ∧ p := ⟨rfl, h⟩
end Mine
namespace Mine
theorem if_t' {p : Prop} [Decidable p] {x y : Prop} (hp : p) (h : x) : if p then x else y := by rw [if_pos hp]; exact h
theorem if_f' {p : Prop} [Decidable p] {x y : Prop} (hp : ¬ p) (h : y) : if p then x else y := by rw [if_neg hp]; exact h
end Mine
end
section
namespace Mine
structure ScopeOK (scope : Scope) (x : Str) (gl frees cn : List Str) : Prop where
  a : ∀ y ∈ scope.names, y.2 ≠ .cell
  c : ∀ y ∈ scope.names, y.2 = .local → scope.names.lookup y.1 = some .local
  d : scope.names.lookup x = some .local ∧ (x == ("__debug__" : Str)) = false
  e : ∀ x ∈ gl, scope.names.lookup x = some .globalImplicit ∧ (x == ("__debug__" : Str)) = false
  f : ∀ y ∈ scope.names, y.2 = .free → y.1 ∈ cn
  g : ∀ y ∈ frees, scope.names.lookup y = some .free
theorem CompStat.of {c : Cx} {scope : Scope} {x : Str} {gl frees cn : List Str} (hcn : c.cells.map (·.1) = cn) (hk : scope.kind = .function) (h : ScopeOK scope x gl frees cn) : CompStat c scope x gl frees :=
  ⟨h.a, hk, h.c, h.d, h.e, fun y hy e => by
    have := h.f y hy e
    rw [← hcn] at this
    obtain ⟨z, hz, ez⟩ := List.mem_map.mp this
    exact ⟨z.2, by rw [← ez]; exact hz⟩, h.g⟩
theorem CompStat.of0 {c : Cx} {scope : Scope} {x : Str} {gl : List Str} (hk : scope.kind = .function) (h : ScopeOK scope x gl [] []) : CompStat c scope x gl [] :=
  ⟨h.a, hk, h.c, h.d, h.e, fun y hy e => absurd (h.f y hy e) List.not_mem_nil, h.g⟩
theorem filterMap_some {α β : Type} (f : α → β) (l : List α) : l.filterMap (fun x => some (f x)) = l.map f := by
  induction l with
  | nil => rfl
  | cons x l ih => simp only [List.filterMap_cons, ih, List.map_cons]
section
variable {c : Cx} {a : AS}
/-- a list made of a list, one for one -/
theorem te_map {elt iter : Expr} {x : Str} {px : Pos} {scope : Scope} {pos : Pos} {gl frees : List Str} {K : AV → AS → Prop} {α : Type} (l : List α) (f : α → AV) (g : α → AV) (hlen : l.length ≤ 1000000)
    (C : CompStat c scope x gl frees)
    (h : TE c a iter (fun y a1 => SrcIs y (l.map f) ∧ (∀ (c' : Cx), SubC c a1 x gl frees c' → ∀ z ∈ l, TE c' ⟨[some (f z)], [], []⟩ elt (fun y _ => y = g z)) ∧ K (.lst (l.map g)) a1))
    (hs : ∀ env x, foldedSetIterable iter env x = pure x := by intro _ _; rfl) : TE c a (.ListComp elt [⟨.Name x px, iter, [], 0⟩] scope pos) K :=
  te_comp l f (fun z => some (g z)) hlen C (h.mono fun y a1 ⟨h1, h2, h3⟩ => ⟨h1, fun c' S z hz => tts_nil (if_tt (y := some (g z) = none) ((h2 c' S z hz).mono fun y _ e => by rw [e])), by rw [filterMap_some]; exact h3⟩) hs
theorem ts_setmap {elt iter : Expr} {x y : Str} {px py : Pos} {scope : Scope} {pos spos : Pos} {gl frees : List Str} {K : AFl → AS → Prop} (i : Nat) (hy : c.names[i]? = some y) {α : Type} (l : List α) (f : α → AV) (g : α → AV) (hlen : l.length ≤ 1000000)
    (C : CompStat c scope x gl frees)
    (hsw : ∀ env, env.scope.kind = .function → env.kindOf y = some .local → swapsWith (.ListComp elt [⟨.Name x px, iter, [], 0⟩] scope pos) (some (.Name y py)) spos.line env = pure true)
    (h : TE c a iter (fun z a1 => SrcIs z (l.map f) ∧ (∀ (c' : Cx), SubC c a1 x gl frees c' → ∀ z ∈ l, TE c' ⟨[some (f z)], [], []⟩ elt (fun y _ => y = g z)) ∧ i < a1.loc.length ∧ K .next { a1 with loc := a1.loc.set i (some (.lst (l.map g))) }))
    (hs : ∀ env x, foldedSetIterable iter env x = pure x := by intro _ _; rfl) : TS c a (.Assign [.Name y py] (.ListComp elt [⟨.Name x px, iter, [], 0⟩] scope pos) spos) K :=
  ts_setcomp i hy l f (fun z => some (g z)) hlen C hsw (h.mono fun y a1 ⟨h1, h2, h3⟩ => ⟨h1, fun c' S z hz => tts_nil (if_tt (y := some (g z) = none) ((h2 c' S z hz).mono fun y _ e => by rw [e])), by rw [filterMap_some]; exact h3⟩) hs
end
theorem SubC.name {c c' : Cx} {a : AS} {x : Str} {gl frees : List Str} (S : SubC c a x gl frees c') : c'.names[0]? = some x := by rw [S.names]; rfl
theorem SubC.glob {c c' : Cx} {a : AS} {x : Str} {gl frees : List Str} (S : SubC c a x gl frees c') {y : Str} (h : y ∈ gl) : y ∈ c'.gl := by rw [S.gl]; exact h
end Mine
namespace Mine
theorem swaps_cell {value : Expr} {x : Str} {p : Pos} {line : Nat} {env : Env} (h : env.kindOf x = some .cell) : swapsWith value (some (.Name x p)) line env = pure false := by
  unfold swapsWith
  have e : (env.kindOf x == some NameKind.local) = false := by rw [h]; decide
  cases value <;> first | rfl | (simp only [e, Bool.and_false, Bool.false_and])
section
variable {c : Cx} {a : AS}
theorem ts_cel {x : Str} {ca : Addr} {value : Expr} {p pos : Pos} {K : AFl → AS → Prop} (i : Nat) (hx : c.cells[i]? = some (x, ca)) (h : TE c a value (fun v a' => i < a'.cel.length ∧ K .next { a' with cel := a'.cel.set i (some v) })) : TS c a (.Assign [.Name x p] value pos) K :=
  ts_setc i hx h fun env hk => swaps_cell hk
theorem srcRng (n : Nat) (h : n ≤ 1000000) : SrcIs (.rng 0 n 1) ((List.range n).map fun i => AV.int ((i : Nat) : Int)) := by
  refine .inr (.inr ⟨0, n, 1, n, rfl, small0 h, size0 n, ?_⟩)
  unfold rngL
  refine List.map_congr_left fun i _ => ?_
  congr 1; omega
end
end Mine
namespace Mine
section
variable {c : Cx} {a : AS} {K : AV → AS → Prop}
theorem op_inlst {i : Int} {l : List Int} (h : K (.bool (l.any fun y => y == i)) a) : T2 c a (.int i) (.lst (l.map .int)) (compareOp .In) K := by
  intro t s F u v H cx cy
  rw [Cv] at cx; rw [Cv] at cy
  obtain ⟨t1, rfl⟩ := cx
  obtain ⟨p, its, rfl, hF, hi, hc⟩ := cy
  obtain ⟨ts, e1, e2⟩ := cvl_ints hc
  let e : Value → Bool := fun v => match v with | .int y _ => y == i | _ => false
  refine PySem.SeqAt.in_listAt e hi (fun y hy => ?_) ?_
  · have hy' : y ∈ its.toList := by simpa using hy
    rw [e1] at hy'
    obtain ⟨z, hz, rfl⟩ := List.mem_map.mp hy'
    intro prog w E Q hq
    exact wpAny_eqBool_int hq
  · have e3 : its.any e = l.any fun y => y == i := by
      rw [← Array.any_toList, e1, ← e2, List.any_map, List.any_map]
      rfl
    rw [e3]
    exact ⟨.bool _, a, F, H, by rw [Cv], h⟩
end
end Mine
namespace Mine
section
variable {c : Cx} {a : AS}
/-- a try whose body raises nothing -/
theorem ts_try {body orelse : List Stmt} {h₀ : ExceptHandler} {hs : List ExceptHandler} {pos : Pos} {K : AFl → AS → Prop} (h : TSs c a body (andThen c orelse K)) : TS c a (.Try body (h₀ :: hs) orelse [] pos) K := fun t s F H =>
  wpAny_Try_except (wp_postF (h t s F H) fun fl s1 x a1 F1 H1 cx k1 => by
    cases x with
    | next => rw [CvF] at cx; subst cx; exact k1 t s1 F1 H1
    | brk => rw [CvF] at cx; subst cx; exact ⟨.brk, a1, F1, H1, cvF_brk, k1⟩
    | cont => rw [CvF] at cx; subst cx; exact ⟨.cont, a1, F1, H1, by rw [CvF], k1⟩
    | ret x => rw [CvF] at cx; obtain ⟨v, rfl, e⟩ := cx; exact ⟨.ret x, a1, F1, H1, cvF_ret e, k1⟩)
end
end Mine
namespace Mine
theorem swaps_comp {elt : Expr} {gens : List Comprehension} {scope : Scope} {pos py : Pos} {y : Str} {line : Nat} {env : Env} (h1 : env.scope.kind = .function) (h2 : env.kindOf y = some .local)
    (h3 : (py.line == pos.line && !(scope.names.any fun (n, k) => n == y && (k == .local || k == .cell))) = true) : swapsWith (.ListComp elt gens scope pos) (some (.Name y py)) line env = pure true := by
  have e1 : (env.blockKind == ScopeKind.function) = true := by unfold Env.blockKind; rw [h1]; rfl
  have e2 : (env.kindOf y == some NameKind.local) = true := by rw [h2]; rfl
  show (pure (env.blockKind == ScopeKind.function && env.kindOf y == some NameKind.local && py.line == pos.line && !(scope.names.any fun (n, k) => n == y && (k == .local || k == .cell))) : Sem Bool) = pure true
  rw [e1, e2]
  simp only [Bool.true_and]
  rw [h3]
end Mine
namespace Mine
section
variable {c : Cx} {a : AS}
noncomputable def PK (P : AS → Prop) : AFl → AS → Prop := fun fl a => fl = .next ∧ P a
theorem pk_next {P : AS → Prop} {a : AS} (h : P a) : PK P .next a := ⟨rfl, h⟩
theorem ts_cut {st : Stmt} {K : AFl → AS → Prop} (P : AS → Prop) (h : TS c a st (PK P)) (fin : ∀ a, P a → K .next a) : TS c a st K :=
  h.mono fun fl a' ⟨e, hp⟩ => by subst e; exact fin a' hp
end
end Mine
end
section
namespace Mine
section
variable {prog : Program} {w : World} {A : Around} {E : Value → Shared → Prop} {s : Shared} {d : Addr} {f : Int → Option Value}
theorem tl_found {c : Nat} {y : Str} {u : Tok} {Q : Builtin.Str.Mapped → Shared → Prop} (hm : s.heap.MapOf (intKind prog w) d f) (hv : f (c : Int) = some (.str y u)) (h : ∀ k, Q (.text y) { s with toks := k }) :
    wpAny (model prog w) A (Builtin.Str.tableLookup (.ref d) c) Q E s := by
  unfold Builtin.Str.tableLookup
  refine wpAny_bind (wpAny_attempt ?_)
  refine wpAny_bind (wpAny_mkInt ?_)
  refine wpAny_getItem_of (knd := intKind prog w) (k := (c : Int)) (by simp [intKind, Value.isInt]) (s := { s with toks := s.toks + 1 }) hm hv ?_
  repeat (any_goals (first | assumption | wp_step))
  exact h _
theorem tl_missing {c : Nat} {Q : Builtin.Str.Mapped → Shared → Prop} (hd : (d == sysModules) = false) (hh : A.handled = none) (hm : s.heap.MapOf (intKind prog w) d f) (hv : f (c : Int) = none) (h : ∀ h' k, (∀ b o, s.heap.get? b = some o → h'.get? b = some o) → Q .keep { s with heap := h', toks := k }) :
    wpAny (model prog w) A (Builtin.Str.tableLookup (.ref d) c) Q E s := by
  unfold Builtin.Str.tableLookup
  refine wpAny_bind (wpAny_attempt ?_)
  refine wpAny_bind (wpAny_mkInt ?_)
  refine wpAny_getItem_missing_of (knd := intKind prog w) (k := (c : Int)) (by simp [intKind, Value.isInt]) hd hh (s := { s with toks := s.toks + 1 }) hm hv fun h' e hx => ?_
  have hsub : isSubtype (.type "KeyError") (.type "LookupError") = pure true := by rw [isSubtype_type]; kernel_rfl
  obtain ⟨ob, t, ho, hc, hdd⟩ := hx.there
  repeat (any_goals (first | assumption | wp_step))
  rw [hc]
  repeat (any_goals (first | assumption | wp_step))
  exact h _ _ hx.keeps
theorem call_translate {c : Nat} {t : Tok} {Q : Value → Shared → Prop} {v : Option (Str × Tok)} (hc : c < 128) (hd : (d == sysModules) = false) (hh : A.handled = none) (hm : s.heap.MapOf (intKind prog w) d f) (hv : f (c : Int) = v.map fun y => .str y.1 y.2)
    (hy : ∀ y, v = some y → y.1.length = 2) (h : ∀ h' k t', (∀ b o, s.heap.get? b = some o → h'.get? b = some o) → Q (.str (match v with | none => ⟨#[c]⟩ | some y => y.1) t') { s with heap := h', toks := k }) :
    wpAny (model prog w) A (call (.builtin "str.translate") [.str ⟨#[c]⟩ t, .ref d]) Q E s := by
  refine wpAny_call_entry PySem.F.slot_str_translate (typeIs_str _ _ _) PySem.F.entry_str_translate ?_ (PySem.F.args_str_translate_2 _ _)
  unfold Builtin.«str.translate»
  refine wpAny_bind (wpAny_of_eq (a := (.str ⟨#[c]⟩ t, ⟨#[c]⟩, .ref d)) (by first | rfl | kernel_rfl) ?_)
  have hfast : ((#[c] : Array Nat).all (· < 128)) = true := by simp [hc]
  dsimp only
  refine KFB.if_not (by rfl) ?_
  rw [hfast]
  rw [← Array.forIn_toList, List.forIn_cons]
  refine wpAny_bind (wpAny_bind ?_)
  refine KFB.if_not (by decide +kernel) ?_
  dsimp only [List.lookup_nil]
  refine KFB.if_so rfl ?_
  cases v with
  | none =>
    refine wpAny_bind (tl_missing hd hh hm hv fun h' k hk => ?_)
    dsimp only
    refine wpAny_bind (wpAny_pure ?_)
    dsimp only
    refine wpAny_pure ?_
    dsimp only
    rw [List.forIn_nil]
    refine wpAny_pure ?_
    dsimp only
    refine KFB.if_not (by decide +kernel) ?_
    repeat (any_goals (first | assumption | wp_step))
    refine ⟨_, rfl, ?_⟩
    have e2 : (⟨List.foldl (fun acc (p : Str) => acc ++ p.cps) #[] [⟨#[c]⟩].reverse⟩ : Str) = ⟨#[c]⟩ := by simp
    rw [e2]
    exact h h' (k + 1) k hk
  | some y =>
    refine wpAny_bind (tl_found hm hv fun k => ?_)
    have hl := hy y rfl
    have e : (y.1.length == 1 && y.1.cps.all fun x => decide (x < 128)) = false := by rw [hl]; rfl
    dsimp only
    rw [e]
    simp only [Bool.false_eq_true, if_false]
    refine wpAny_bind (wpAny_pure ?_)
    dsimp only
    refine wpAny_bind (wpAny_rule ?_)
    refine wpAny_bind (tl_found (s := { s with toks := k }) hm hv fun k2 => ?_)
    dsimp only
    refine wpAny_pure ?_
    dsimp only
    rw [List.forIn_nil]
    refine wpAny_pure ?_
    dsimp only
    refine KFB.if_not (by rw [hl]; decide +kernel) ?_
    repeat (any_goals (first | assumption | wp_step))
    have e2 : (⟨List.foldl (fun acc (p : Str) => acc ++ p.cps) #[] [y.1].reverse⟩ : Str) = y.1 := by simp
    rw [e2, if_neg (by rw [hl, sizeLine_eq]; decide)]
    repeat (any_goals (first | assumption | wp_step))
    exact ⟨_, rfl, h s.heap (k2 + 1) k2 fun _ _ e => e⟩
end
end Mine
end
section
namespace Mine
/-- the one table grows -/
theorem AtF.tabStep {c : Cx} {a : AS} {t : Tmp} {s : Shared} {F : Addr → Prop} (H : AtF c a t s F) (hq : c.q = false) {h' : Heap} {tk : Nat} {gs : Array GenState} {ps' : Array Value} (hk : Heap.ExtBut c.W.P s.heap h') (hP : h'.get? c.W.P = some (tabObj ps')) (hok : c.W.tabOk h' F ps') (hb : AllBare gs) :
    AtF c a t { s with heap := h', toks := tk, gens := gs } F := by
  have kF : ∀ b o, F b → s.heap.get? b = some o → h'.get? b = some o := fun b o hb e => hk b o (fun q => H.st.notP (q ▸ hb)) e
  refine H.next ⟨fun b o e => ?_, fun b e => ?_, H.st.notP, ⟨ps', hP, hok⟩, hb⟩ ⟨fun b o hx e => ?_, fun _ e => e, fun _ e => .inl e, rfl, rfl, fun e => by rw [hq] at e; cases e⟩
  · have q := H.st.old b o e; exact ⟨q.1, kF b o q.1 q.2⟩
  · obtain ⟨o, q⟩ := H.st.ex b e; exact ⟨o, kF b o e q⟩
  · rw [hq] at hx
    exact hk b o (hx.elim (fun e => by cases e) id) e
end Mine
end
section
namespace Mine
open Builtin.Re
noncomputable def twin : Array Nat := #[14, 14, 4, 1, 1, 9, 0, 64, 0, 1342177280, 0, 0, 0, 0, 0, 17, 0, 13, 11, 9, 0, 64, 0, 1342177280, 0, 0, 0, 0, 0, 17, 1, 1]
noncomputable def mach (text : Array Nat) : Sre.M := Sre.forSearch twin text 1 0 text.size false
noncomputable def turns : Nat → Sre.M → Nat × Option Bool
  | 0, _ => (0, none)
  | n + 1, m => let m := m.runFor reTurnSteps; if m.outcome.isSome then (1, some (match m.outcome with | some .failed => true | _ => false)) else let r := turns n m; (r.1 + 1, r.2)
theorem drive_of {M : Model} {A : Around} {E : Value → Shared → Prop} {s : Shared} : ∀ (n k : Nat) (m : Sre.M) (Q : Sre.M → Shared → Prop), (turns n m).2 = some true → n ≤ k → (∀ m', m'.outcome = some .failed → Q m' s) → wpAny M A (reDrive k m) Q E s
  | 0, _, m, Q, h, _, _ => by cases h
  | n + 1, 0, m, Q, h, hk, _ => by omega
  | n + 1, k + 1, m, Q, h, hk, hq => by
    unfold reDrive
    unfold turns at h
    dsimp only at h ⊢
    by_cases ho : (m.runFor reTurnSteps).outcome.isSome = true
    · rw [if_pos ho] at h ⊢
      refine wpAny_pure (hq _ ?_)
      have h' : (match (m.runFor reTurnSteps).outcome with | some .failed => true | _ => false) = true := by simpa using h
      split at h'
      · assumption
      · cases h'
    · rw [if_neg ho] at h ⊢
      exact wpAny_bind (wpAny_rule (drive_of n k _ Q h (by omega) hq))
theorem run_of {M : Model} {A : Around} {E : Value → Shared → Prop} {s : Shared} {m : Sre.M} {Q : Option Sre.M → Shared → Prop} (h : (turns 40 m).2 = some true) (hq : Q none s) : wpAny M A (reRunToEnd m) Q E s := by
  unfold reRunToEnd
  refine wpAny_bind (drive_of 40 (2 ^ 64) m _ h (by decide) fun m' hm => ?_)
  have key : ∀ (l : List Nat) (s : Shared) (Q : PUnit → Shared → Prop), Q ⟨⟩ s → wpAny M A (forIn l PUnit.unit fun i _ => (if m'.seen.has i = true then (do rule (Sre.names.getD i ""); pure (ForInStep.yield PUnit.unit)) else pure (ForInStep.yield PUnit.unit) : Sem (ForInStep PUnit))) Q E s := by
    intro l
    induction l with
    | nil => intro s Q h; rw [List.forIn_nil]; exact wpAny_pure h
    | cons i l ih =>
      intro s Q h
      rw [List.forIn_cons]
      refine wpAny_bind ?_
      by_cases hs : m'.seen.has i = true
      · rw [if_pos hs]
        exact wpAny_bind (wpAny_rule (wpAny_pure (ih s Q h)))
      · rw [if_neg hs]
        exact wpAny_pure (ih s Q h)
  refine wpAny_bind (key _ s _ ?_)
  rw [hm]
  exact wpAny_pure hq
noncomputable def stuffs : List (List Nat) := [[97, 98], [33, 97], [], [33], [95, 67], [33, 46], [46]]
theorem turns_all : ∀ t ∈ stuffs, (turns 40 (mach t.toArray)).2 = some true := by decide +kernel
end Mine
end
section
namespace Mine
open Builtin.Re
structure PatAt (h : Heap) : Prop where
  pat : ∃ dd sl, h.get? 43 = some ⟨.type "re.Pattern", dd, .fields #[.str (Str.ofString "([&~|])") 296, .int 32 331, .int 1 0, .none, .none, .ref 42, .int 0 0], sl⟩
  code : ∃ dd sl its n, h.get? 42 = some ⟨.type "tuple", dd, .seq its n, sl⟩ ∧ (its.map reRawOf).map (·.toNat) = twin
theorem next_of {M : Model} {A : Around} {E : Value → Shared → Prop} {s : Shared} {tg : ReTarget} {st : Nat} {m : Sre.M} {Q : Option Sre.M → Shared → Prop} (hm : Sre.forSearch tg.code tg.text tg.groups st tg.lim false = m) (h : (turns 40 m).2 = some true) (hq : Q none s) : wpAny M A (reNextFound tg st false) Q E s := by
  unfold reNextFound; rw [hm]; exact run_of h hq
theorem loop_tree {prog : Program} {w : World} {A : Around} {E : Value → Shared → Prop} {s : Shared} {fn L : Addr} {x : List Nat} {t : Tok} {Q : Fin → Shared → Prop} (P : PatAt s.heap) (hx : (turns 40 (mach x.toArray)).2 = some true) (hL : s.heap.get? L = some (lstObj #[] 0)) (hsz : x.length ≤ 100)
    (h : ∀ h' t' k, (∀ b o, s.heap.get? b = some o → b ≠ L → h'.get? b = some o) → Q (.done (.ret (.str ⟨x.toArray⟩ t'))) { s with heap := h', toks := k }) :
    wpAny (model prog w) A (Builtin.«re.Pattern.sub.loop» ⟨[.ref 43, .str ⟨x.toArray⟩ t, .ref fn, rawInt 1, rawInt 0, rawInt 0, rawInt 0, rawInt 0, .bool false, .ref L, .bool false], []⟩) Q E s := by
  obtain ⟨dd, sl, hpat⟩ := P.pat
  obtain ⟨dd2, sl2, its, n, hcode, hits⟩ := P.code
  unfold Builtin.«re.Pattern.sub.loop»
  dsimp only [rawInt]
  unfold reWholeTarget
  repeat (any_goals (first | assumption | ((with_reducible show wpAny _ _ (reNextFound _ _ _) _ _ _); refine next_of (m := mach x.toArray) (by first | rfl | (simp only [mach, ← hits]; rfl)) hx ?_) | wp_step))
  dsimp only
  cases x with
  | nil =>
    rw [if_neg (by simp)]
    repeat (any_goals (first | assumption | wp_step))
    exact h s.heap _ _ (fun b o e _ => e)
  | cons y x =>
    rw [if_pos (by simp)]
    have hex : ((y :: x).toArray.extract (Int.toNat 0) (y :: x).toArray.size) = (y :: x).toArray := by simp
    unfold reSlice
    rw [hex]
    have hb : ((0 : Nat) == 0) = true := rfl
    have hl : ¬ ((⟨(y :: x).toArray⟩ : Str).length > sizeLine) := by show ¬ ((y :: x).toArray.size > sizeLine); rw [List.size_toArray, sizeLine_eq]; omega
    simp only [hb, if_true]
    refine wpAny_bind (wpAny_mkStr ?_ (by show (y :: x).toArray.size ≤ sizeLine; rw [List.size_toArray, sizeLine_eq]; omega))
    refine wpAny_bind (wpAny_updateSeq hL rfl ?_)
    have e0 : (y :: x).toArray.extract 0 0 = #[] := by simp
    rw [e0]
    refine wpAny_bind (wpAny_mkStr ?_ (by simp [Str.length]))
    have hL2 : (s.heap.update L (Obj.mapSeq fun z => z.push (.str ⟨(y :: x).toArray⟩ s.toks))).get? L = some (lstObj #[.str ⟨(y :: x).toArray⟩ s.toks] 1) := by
      rw [Heap.get?_update_self _ hL rfl]; rfl
    have hil : (s.heap.update L (Obj.mapSeq fun z => z.push (.str ⟨(y :: x).toArray⟩ s.toks))).IsList L (strValues [((⟨(y :: x).toArray⟩ : Str), s.toks)]).toArray := ⟨_, hL2, rfl, _, rfl⟩
    refine wpAny_bind (wpAny_seqItems hL2 rfl ?_)
    refine KFB.if_not (by rfl) ?_
    refine wpAny_bind ?_
    refine SC.join (x := (⟨#[]⟩ : Str)) (D := L) hil rfl ?_ fun t' k => ?_
    · exact joinOk_nil (l := [y :: x]) (by simp; simp at hsz; omega)
    · have ej : Txt.join (⟨#[]⟩ : Str) (List.map (fun z => z.1) [((⟨(y :: x).toArray⟩ : Str), s.toks)]) = ⟨(y :: x).toArray⟩ := rfl
      rw [ej]
      repeat (any_goals (first | assumption | wp_step))
      refine h _ _ _ fun b o e hb => ?_
      exact (Heap.SameBut.update (a := L) (h := s.heap) (f := _)).extBut b o hb e
end Mine
end
section
namespace Mine
open Builtin.Re
theorem args_sub (a b c : Value) : argsOk "re.Pattern.sub" ⟨[a, b, c], []⟩ := by unfold argsOk; kernel_rfl
theorem entry_sub : entryFor table "re.Pattern.sub" = some Builtin.«re.Pattern.sub» := entryFor_of_tree (by kernel_rfl)
theorem entry_sub_loop : entryFor table "re.Pattern.sub.loop" = some Builtin.«re.Pattern.sub.loop» := entryFor_of_tree (by kernel_rfl)
theorem slot_sub : Slot "re.Pattern" "sub" "re.Pattern.sub" := .of (owner := "re.Pattern") (n := "sub") (by rw [typeLookup_type, builtinLookup_eq_fast]; kernel_rfl) (by decide +kernel) (by decide +kernel) (by decide +kernel) (by first | exact .inl (by decide +kernel) | exact .inr (by decide +kernel)) (by rw [isSubtype_type]; kernel_rfl)
theorem type_sub : typeOf (.builtin "re.Pattern.sub") = pure (.type "method_descriptor") := by show builtinType _ = _; rw [builtinType_eq_fast]; kernel_rfl
theorem plain_pat : PlainAttrs "re.Pattern" := ⟨⟨"object.__getattribute__", by rw [typeLookup_type, builtinLookup_eq_fast]; kernel_rfl, by decide +kernel⟩, by rw [typeLookup_type, builtinLookup_eq_fast]; kernel_rfl⟩
theorem fn_call : typeLookup (.type "function") "__call__" = pure (some (.builtin "function.__call__")) := by rw [typeLookup_type, builtinLookup_eq_fast]; kernel_rfl
theorem sub_tree {prog : Program} {w : World} {A : Around} {E : Value → Shared → Prop} {s : Shared} {fn : Addr} {of' : Obj} {x : List Nat} {t : Tok} {Q : Fin → Shared → Prop} (P : PatAt s.heap) (hf : s.heap.get? fn = some of') (hc : of'.cls = .type "function")
    (h : Q (.again (.builtin "re.Pattern.sub.loop" ⟨[.ref 43, .str ⟨x.toArray⟩ t, .ref fn, rawInt 1, rawInt 0, rawInt 0, rawInt 0, rawInt 0, .bool false, .ref s.heap.objs.size, .bool false], []⟩)) { s with heap := s.heap.push (lstObj #[] 0) }) :
    wpAny (model prog w) A (Builtin.«re.Pattern.sub» ⟨[.ref 43, .ref fn, .str ⟨x.toArray⟩ t], []⟩) Q E s := by
  obtain ⟨dd, sl, hpat⟩ := P.pat
  obtain ⟨dd2, sl2, its, n, hcode, hits⟩ := P.code
  have hT : s.TypeIs (.ref fn) "function" := ⟨of', hf, hc⟩
  have g1 := fn_call
  have g2 : isSubtype (.type "str") (.type "bytearray") = pure false := by rw [isSubtype_type]; kernel_rfl
  unfold Builtin.«re.Pattern.sub» reSubstitute
  dsimp only
  refine wpAny_bind (wpAny_of_eq (a := [some (.ref fn), some (.str ⟨x.toArray⟩ t), none]) (by first | rfl | kernel_rfl) ?_)
  unfold reWholeTarget
  repeat (any_goals (first | assumption | wp_step))
  all_goals exact h
theorem quiet_loop {as : Args} : (Code.builtin "re.Pattern.sub.loop" as).quiet = true := Code.quiet_builtin _ (by decide +kernel)
theorem call_sub {prog : Program} {w : World} {A : Around} {E : Value → Shared → Prop} {s : Shared} {fn : Addr} {of' : Obj} {x : List Nat} {t : Tok} {Q : Value → Shared → Prop} (P : PatAt s.heap) (hf : s.heap.get? fn = some of') (hc : of'.cls = .type "function") (hx : (turns 40 (mach x.toArray)).2 = some true) (hsz : x.length ≤ 100)
    (h : ∀ h' t' k, (∀ b o, s.heap.get? b = some o → h'.get? b = some o) → Q (.str ⟨x.toArray⟩ t') { s with heap := h', toks := k }) : wpAny (model prog w) A (call (.builtin "re.Pattern.sub") [.ref 43, .ref fn, .str ⟨x.toArray⟩ t]) Q E s := by
  obtain ⟨dd, sl, hpat⟩ := id P.pat
  refine wpAny_call (codeAny_call_builtin slot_sub.plain entry_sub (slot_sub.check _ _ _ _ _ _ _ _ ⟨_, hpat, rfl⟩ (args_sub _ _ _) ?_))
  refine sub_tree P hf hc ?_
  have up : ∀ b o, s.heap.get? b = some o → (s.heap.push (lstObj #[] 0)).get? b = some o := fun b o e => Heap.get?_push_of_some _ e
  have P2 : PatAt (s.heap.push (lstObj #[] 0)) := by
    obtain ⟨dd2, sl2, its, n, hcode, hits⟩ := P.code
    exact ⟨⟨dd, sl, up _ _ hpat⟩, ⟨dd2, sl2, its, n, up _ _ hcode, hits⟩⟩
  refine ⟨quiet_loop, codeAny_builtin entry_sub_loop (loop_tree (s := { s with heap := s.heap.push (lstObj #[] 0) }) P2 hx (Heap.get?_push_size _ rfl) hsz fun h' t' k hk => ?_)⟩
  exact h h' t' k fun b o e => hk b o (up b o e) (Nat.ne_of_lt (Heap.lt_size e))
end Mine
end
section
namespace Mine
/-- what the two things that make code want: the table, its code, the pattern -/
structure TF (W : Wd) : Prop where
  code : CodeHd W.h0 68 W.P
  tab : ∀ h F ps, W.tabOk h F ps ↔ TriplesOk ps.toList
  bm : W.h0.BuiltinsAt W.mg W.P
  gP : mainGlobals ≠ W.P
  pat : PatAt W.h0
  patd : ∃ o, W.h0.get? 43 = some o ∧ o.cls = .type "re.Pattern" ∧ o.dict = none
section
variable {c : Cx} {a : AS} {K : AV → AS → Prop}
theorem te_lambda {params : Arguments} {body : Expr} {scope : Scope} {pos : Pos} (T : TF c.W) (hq : c.q = false) (hcode : c.env.code = .ref 68) (h : K .fnc a)
    (hdef : ∀ env, defaultsOf params env = ([], []) := by intro _; rfl) (hcl : ∀ env, closureFor scope env = pure [] := by intro _; rfl) : TE c a (.Lambda params body scope pos) K := fun t s F H => by
  refine kla_eval (hdef _) ?_
  obtain ⟨ps, hP, hok⟩ := H.st.tab
  have ht := (T.tab _ _ _).mp hok
  have old : ∀ b o, c.W.h0.get? b = some o → s.heap.get? b = some o := fun b o e => (H.st.old b o e).2
  have hg := c.W.g.keeps old
  have C := T.code.keeps old
  have hb : s.heap.BuiltinsAt c.W.mg c.W.P := by
    obtain ⟨bm, o, e1, e2, e3, e4, e5, r⟩ := T.bm
    exact ⟨bm, o, e1, e2, e3, e4, old _ _ e5, r⟩
  cases hf : codeAmong pos ps.toList with
  | some cv =>
    refine kla_makeFunctionHit (hcl _) c.globals hg hcode C hP ht hf hb fun ctv h' tk hk hsz => ?_
    have hn : s.heap.get? h'.objs.size = none := Heap.get?_none_of_le hsz
    refine ⟨.fnc, a, _, H.freeze (tk := tk) hn (fun b o e => Heap.get?_push_of_some _ (hk b o e)) (Heap.get?_push_size _ rfl), ?_, h⟩
    rw [Cv]; exact ⟨_, _, rfl, .inr rfl, Heap.get?_push_size _ rfl, rfl⟩
  | none =>
    refine kla_makeFunction (hcl _) c.globals hg hcode C hP ht hf T.gP hb fun c' ctv h' tk hx hge hlt hrec htb => ?_
    have H1 := H.tabStep hq (tk := tk) (gs := s.gens) hx htb ((T.tab _ _ _).mpr (by rw [Array.toList_append]; exact TriplesOk_snoc _ _ _ _ ht)) H.st.bare
    have hn : h'.get? h'.objs.size = none := Heap.get?_none_of_le (Nat.le_refl _)
    refine ⟨.fnc, a, _, H1.freeze (tk := tk) hn (fun b o e => Heap.get?_push_of_some _ e) (Heap.get?_push_size _ rfl), ?_, h⟩
    rw [Cv]; exact ⟨_, _, rfl, .inr rfl, Heap.get?_push_size _ rfl, rfl⟩
theorem stuffs_len : ∀ x ∈ stuffs, x.length ≤ 100 := by decide
theorem tc_sub {x : List Nat} (T : TF c.W) (hx : x ∈ stuffs) (h : K (.str x) a) : TC c a [.val (.ref 43), .fnc, .str x] (fun vs => call (.builtin "re.Pattern.sub") vs) K := fun t s F vs H cv => by
  rw [CvL] at cv; obtain ⟨v, r1, rfl, c1, cv⟩ := cv
  rw [CvL] at cv; obtain ⟨v, r2, rfl, c2, cv⟩ := cv
  rw [CvL] at cv; obtain ⟨v, r3, rfl, c3, cv⟩ := cv
  rw [CvL] at cv; subst cv
  rw [Cv] at c1
  rw [Cv] at c2
  rw [Cv] at c3
  subst c1
  obtain ⟨fn, of', rfl, hF, hfn, hcls⟩ := c2
  obtain ⟨t3, rfl⟩ := c3
  have old : ∀ b o, c.W.h0.get? b = some o → s.heap.get? b = some o := fun b o e => (H.st.old b o e).2
  have P2 : PatAt s.heap := by
    obtain ⟨⟨dd, sl, e1⟩, ⟨dd2, sl2, its, n, e2, hits⟩⟩ := T.pat
    exact ⟨⟨dd, sl, old _ _ e1⟩, ⟨dd2, sl2, its, n, old _ _ e2, hits⟩⟩
  refine call_sub P2 hfn hcls (turns_all x hx) (stuffs_len x hx) fun h' t' k hk => ?_
  exact ⟨.str x, a, F, H.keeps ⟨h', k, rfl, hk⟩, by rw [Cv]; exact ⟨_, rfl⟩, h⟩
/-- a method of what is known to be of a type -/
theorem te_methG {value : Expr} {name : Str} {apos pos : Pos} {args : List Expr} (T id : String) (pa : PlainAttrs T) (slot : Slot T name id) (hty : typeOf (.builtin id) = pure (.type "method_descriptor"))
    (h : TE c a value (fun x a1 => (∀ t s F v, AtF c a1 t s F → Cv s.heap F x v → s.TypeIs v T ∧ ∀ b, v = .ref b → ∃ ob, s.heap.get? b = some ob ∧ ob.dict = none) ∧ TL c a1 args (fun xs a2 => TC c a2 (x :: xs) (fun vs => call (.builtin id) vs) K))) (hs : args.all noStar = true := by rfl)
    (hbase : ∀ env, attributeBase value name env (eval value env) = eval value env := by intro _; rfl) (hline : (apos.endLine == pos.line) = true := by rfl) (hfew : args.length < 25 := by decide) :
    TE c a (.Call (.Attribute value name apos) args [] pos) K := fun t s F H => by
  have hall : ∀ args : List Expr, args.all noStar = true → ((backTo pos (starEach args c.env)).all fun x => !x.1) = true := fun args => by
    induction args with
    | nil => intro _; rfl
    | cons e es ih =>
      intro hs
      rw [List.all_cons, Bool.and_eq_true] at hs
      rw [starEach_cons hs.1]
      show (!false && (backTo pos (starEach es c.env)).all fun x => !x.1) = true
      rw [ih hs.2]; rfl
  refine wpAny_Call_method (hbase _) ?_ hline pa slot hty (wp_post (h t s F H) fun v s1 x a1 F1 H1 cx kk => ?_)
  · rw [hall args hs]
    show (true && decide (args.length + 0 + 0 < 30)) = true
    simp; omega
  obtain ⟨hm, k1⟩ := kk
  obtain ⟨h1, h2⟩ := hm t s1 F1 v H1 cx
  refine ⟨h1, h2, ?_⟩
  refine call_genP (t := ⟨(v, x) :: t.vals, t.prot, t.kept⟩) (P := fun _ => True) (fun h _ => ⟨.machine, .inr (.inl rfl), Looks.of_pure rfl⟩) ?_ hs (H1.pushVal cx)
  have key : ∀ (args : List Expr) {a1 : AS} {K' K'' : List AV → AS → Prop}, TL c a1 args K' → (∀ xs a2, K' xs a2 → K'' xs a2) → TL c a1 args K'' := fun args => by
    induction args with
    | nil => intro a1 K' K'' h k; exact k _ _ h
    | cons e es ih => intro a1 K' K'' h k; exact h.mono fun x a2 h2 => ih h2 fun xs a3 h3 => k _ _ h3
  refine key args k1 fun xs a2 h3 s2 F2 vs H2 cvs => ⟨trivial, ?_⟩
  exact h3 t s2 F2 (v :: vs) H2.popVal.1 (CvL.cons H2.popVal.2 cvs)
/-- stuff = _twin_re_1.sub(lambda .., stuff) -/
theorem te_sub_call {np apos pos lp : Pos} {params : Arguments} {body e : Expr} {scope : Scope} {x : List Nat} (T : TF c.W) (hq : c.q = false) (hcode : c.env.code = .ref 68) (hgl : ("_twin_re_1" : Str) ∈ c.gl) (hv : Gv c.W "_twin_re_1" (.ref 43)) (hx : x ∈ stuffs)
    (h : TE c a e (fun y a1 => y = .str x ∧ K (.str x) a1))
    (hdef : ∀ env, defaultsOf params env = ([], []) := by intro _; rfl) (hcl : ∀ env, closureFor scope env = pure [] := by intro _; rfl) (hn : noStar e = true := by rfl) (hline : (apos.endLine == pos.line) = true := by rfl) :
    TE c a (.Call (.Attribute (.Name "_twin_re_1" np) "sub" apos) [.Lambda params body scope lp, e] [] pos) K := by
  refine te_methG "re.Pattern" "re.Pattern.sub" plain_pat slot_sub type_sub ?_ (by show (true && (noStar e && true)) = true; rw [hn]; rfl) (hline := hline) (hfew := by show 2 < 25; decide)
  refine te_glob hgl hv ⟨?_, ?_⟩
  · intro t s F v H cv
    rw [Cv] at cv; subst cv
    obtain ⟨o, e1, e2, e3⟩ := T.patd
    have e1' := (H.st.old _ _ e1).2
    exact ⟨⟨o, e1', e2⟩, fun b eb => by cases eb; exact ⟨o, e1', e3⟩⟩
  · refine tl_cons (te_lambda T hq hcode (tl_cons ?_) hdef hcl)
    refine h.mono fun y a1 ⟨hy, k⟩ => ?_
    subst hy
    exact tl_nil (tc_sub T hx k)
end
end Mine
end
section
namespace Mine
theorem genCode {M : Model} {A : Around} {E : Value → Shared → Prop} {s : Shared} {env : Env} {cc P : Addr} {ps : Array Value} {pos : Pos} {qualname : Str} {scope : Scope} {Q : Value → Shared → Prop}
    (C : CodeHd s.heap cc P) (hP : s.heap.get? P = some (tabObj ps)) (ht : TriplesOk ps.toList) (hc : env.code = .ref cc)
    (hQ : ∀ code h' tk ps', Heap.ExtBut P s.heap h' → s.heap.objs.size ≤ h'.objs.size → h'.get? P = some (tabObj ps') → TriplesOk ps'.toList → Q code { s with heap := h', toks := tk }) :
    wpAny M A (genexprCode env pos qualname scope) Q E s := by
  cases hnf : codeAmong pos ps.toList with
  | none =>
    refine wpAny_genexprCodeX hc (C.code hP ht) (C.tab hP) hnf fun c' h' tk hx hge hlt _ _ htb _ => ?_
    exact hQ _ h' tk _ hx (by omega) htb.2 (by rw [Array.toList_append]; exact TriplesOk_snoc _ _ _ _ ht)
  | some cv =>
    obtain ⟨o, vs, file, tf, flags, tg, inF, text, tt, op, ho, hd, h11, h2, h7, h9, h10, hop, hpd, htr, hne⟩ := C.code hP ht
    unfold genexprCode codeAt
    rw [hc, if_neg (show ¬ ((Value.ref cc == Value.none) = true) from Bool.false_ne_true)]
    refine wpAny_bind (wpAny_fieldsOf ho hd ?_)
    rw [h11]
    refine wpAny_bind (wpAny_fieldsOf hop hpd ?_)
    rw [hnf]
    exact wpAny_pure (hQ cv s.heap s.toks ps (Heap.ExtBut.refl _ _) (Nat.le_refl _) hP ht)
/-- s.replace(y, z) of a text without y -/
theorem repl1 {prog : Program} {w : World} {A : Around} {E : Value → Shared → Prop} {s : Shared} {x z : List Nat} {y : Nat} {t1 t2 t3 : Tok} {Q : Value → Shared → Prop} (hn : y ∉ x) (h : Q (.str ⟨x.toArray⟩ t1) s) :
    wpAny (model prog w) A (call (.builtin "str.replace") [.str ⟨x.toArray⟩ t1, .str ⟨[y].toArray⟩ t2, .str ⟨z.toArray⟩ t3]) Q E s := by
  have e : Builtin.Str.occurrences (Str.mk x.toArray) ⟨[y].toArray⟩ 0 (Str.mk x.toArray).length ((Str.mk x.toArray).length + 1) = [] := by
    rcases occ1 x y 0 (Str.mk x.toArray).length ((Str.mk x.toArray).length + 1) (by omega) with ⟨h0, _⟩ | ⟨k, r', h0, hk⟩
    · exact h0
    · exact absurd (List.mem_of_getElem? hk.2.2.1) hn
  have he : ((Builtin.Str.occurrences (Str.mk x.toArray) ⟨[y].toArray⟩ 0 (Str.mk x.toArray).length ((Str.mk x.toArray).length + 1)).isEmpty || ((Str.mk [y].toArray).length == 0 && (Str.mk z.toArray).length == 0)) = true := by rw [e]; rfl
  refine call_gives PySem.F.slot_str_replace (typeIs_str _ _ _) PySem.F.entry_str_replace (PySem.F.args_str_replace_3 _ _ _) (gives_str_replace _ _ _ t1 t2 t3 (fun q => by rw [he] at q; cases q)) ?_
  rw [if_pos he]
  exact h
/-- e.replace("y", "z") -/
theorem eval_repl {prog : Program} {w : World} {A : Around} {E : Value → Shared → Prop} {s : Shared} {env : Env} {e : Expr} {ys zs : String} {k1 k2 : Nat} {p1 p2 apos pos : Pos} {x : List Nat} {y : Nat} {Q : Value → Shared → Prop}
    (hy : Str.ofString ys = ⟨[y].toArray⟩) (hn : y ∉ x) (he : wpAny (model prog w) A (eval e env) (fun v s' => ∃ t, v = .str ⟨x.toArray⟩ t ∧ ∀ t' k, Q (.str ⟨x.toArray⟩ t') { s' with toks := k }) E s)
    (hbase : attributeBase e "replace" env (eval e env) = eval e env := by rfl) (hline : (apos.endLine == pos.line) = true := by rfl) :
    wpAny (model prog w) A (eval (.Call (.Attribute e "replace" apos) [.Constant (.str (Str.ofString ys)) k1 p1, .Constant (.str (Str.ofString zs)) k2 p2] [] pos) env) Q E s := by
  refine wpAny_Call_method (T := "str") (id := "str.replace") hbase (by rfl) hline PySem.F.plainAttrs_str PySem.F.slot_str_replace PySem.F.type_str_replace (wpAny_mono he (fun v s1 ⟨t, hv, hq⟩ => ?_) fun _ _ q => q)
  subst hv
  refine ⟨typeIs_str _ _ _, (fun b q => by cases q), ?_⟩
  refine callWith_of (P := fun _ => True) (by rfl) (fun h _ => ⟨.machine, .inr (.inl rfl), Looks.of_pure rfl⟩) ?_
  rw [starEach_cons (by rfl), starEach_cons (by rfl)]
  refine Calls.evalArgs_plain ?_
  refine Calls.spliced_cons ?_
  refine wpAny_Constant_str (k := k1) (pos := p1) ?_
  refine Calls.spliced_cons ?_
  refine wpAny_Constant_str (k := k2) (pos := p2) ?_
  refine Calls.spliced_nil ⟨trivial, ?_⟩
  rw [hy, Str.ofString_eq_toList]
  show wpAny _ A (call (.builtin "str.replace") [.str ⟨x.toArray⟩ t, .str ⟨[y].toArray⟩ _, .str ⟨(zs.toList.map Char.toNat).toArray⟩ _]) Q E _
  exact repl1 hn (hq t _)
end Mine
end
section
set_option maxRecDepth 100000
namespace Mine
/-- the element of the one generator expression -/
noncomputable abbrev eltE (q1 q2 q3 q4 q5 q6 q7 q8 q9 : Pos) (n1 n2 n3 n4 : Nat) : Expr :=
  .Call (.Attribute (.Call (.Attribute (.Name "s" q1) "replace" q2) [.Constant (.str (Str.ofString "\\")) n1 q3, .Constant (.str (Str.ofString "\\\\")) n2 q4] [] q5) "replace" q6)
    [.Constant (.str (Str.ofString "-")) n3 q7, .Constant (.str (Str.ofString "\\-")) n4 q8] [] q9
theorem elt_walk {prog : Program} {w : World} {A : Around} {E : Value → Shared → Prop} {s : Shared} {env : Env} {q1 q2 q3 q4 q5 q6 q7 q8 q9 : Pos} {n1 n2 n3 n4 : Nat} {x : List Nat} {t : Tok} {m : Str → Option Value} {Q : Value → Shared → Prop}
    (h1 : (q2.endLine == q5.line) = true) (h2 : (q6.endLine == q9.line) = true)
    (hx : 92 ∉ x) (hx2 : 45 ∉ x) (hk : env.scope.kind = .function) (hs : env.kindOf "s" = some .local) (hn : s.heap.Ns env.locals m) (hv : m "s" = some (.str ⟨x.toArray⟩ t)) (h : ∀ t' k, Q (.str ⟨x.toArray⟩ t') { s with toks := k }) :
    wpAny (model prog w) A (eval (eltE q1 q2 q3 q4 q5 q6 q7 q8 q9 n1 n2 n3 n4) env) Q E s := by
  refine eval_repl (y := 45) (x := x) (by decide +kernel) hx2 ?_ (by rfl) h2
  refine eval_repl (y := 92) (x := x) (by decide +kernel) hx ?_ (by rfl) h1
  refine wpAny_Name (wpAny_loadName_local hk hs hn hv ?_) (by decide +kernel)
  exact ⟨t, rfl, fun t1 k1 => ⟨t1, rfl, fun t' k => h t' k⟩⟩
section
variable {c : Cx} {a : AS} {K : AV → AS → Prop}
theorem te_joingen {q : Addr} {x : List Nat} {kp : Nat} {p0 ap pos gp ip px q1 q2 q3 q4 q5 q6 q7 q8 q9 : Pos} {n1 n2 n3 n4 : Nat} {scope : Scope} (i : Nat) (T : TF c.W) (hq : c.q = false) (hcode : c.env.code = .ref 68)
    (hi : c.names[i]? = some ("chunks" : Str)) (hv : a.loc[i]? = some (some (.val (.ref q)))) (hm : (q, [.str x]) ∈ a.mem) (hx : 92 ∉ x) (hx2 : 45 ∉ x) (hsz : x.length ≤ 1000) (h : K (.str x) a)
    (hl : (ap.endLine == pos.line) = true := by rfl) (h1 : (q2.endLine == q5.line) = true := by rfl) (h2 : (q6.endLine == q9.line) = true := by rfl)
    (hco : scope.isCoroutine = false := by rfl) (hclos : ∀ env, closureFor scope env = pure [] := by intro _; rfl) (hcell : ∀ y ∈ scope.names, y.2 ≠ .cell := by decide +kernel) (h0 : scope.names.lookup (".0" : Str) = some NameKind.local := by decide +kernel)
    (hs : scope.names.lookup ("s" : Str) = some .local := by decide +kernel) (hkind : scope.kind = .function := by rfl) :
    TE c a (.Call (.Attribute (.Constant (.str (Str.ofString "-")) kp p0) "join" ap) [.GeneratorExp (eltE q1 q2 q3 q4 q5 q6 q7 q8 q9 n1 n2 n3 n4) [⟨.Name "s" px, .Name "chunks" ip, [], 0⟩] scope gp] [] pos) K := fun t s F H => by
  refine wpAny_Call_method (T := "str") (id := "str.join") (by rfl) (by rw [starEach_cons (by rfl)]; rfl) hl PySem.F.plainAttrs_str PySem.F.slot_str_join PySem.F.type_str_join (wpAny_Constant_str ⟨typeIs_str _ _ _, (fun b e => by cases e), ?_⟩)
  refine callWith_of (P := fun _ => True) (by rfl) (fun h _ => ⟨.machine, .inr (.inl rfl), Looks.of_pure rfl⟩) ?_
  rw [starEach_cons (by rfl)]
  refine Calls.evalArgs_plain ?_
  refine Calls.spliced_cons ?_
  have H0 := H.toks (s.toks + 1)
  generalize hs0 : ({ s with toks := s.toks + 1 } : Shared) = s0 at H0
  have hroom := c.room
  refine wpAny_GeneratorExp_walksQ (scope := scope) c.handled hco (hclos _) hcell h0 hs hkind (by omega) ?_ (fun _ => rfl)
  have e0 : TE c a (.Name "chunks" ip) (fun w a1 => w = .val (.ref q) ∧ a1 = a) := te_loc i hi hv ⟨rfl, rfl⟩
  refine wp_post (e0 t s0 F H0) fun u s1 w a1 F1 H1 cw kk => ?_
  obtain ⟨hw, ha⟩ := kk
  subst hw; subst ha
  rw [Cv] at cw; subst cw
  obtain ⟨its, n, hlo, hcv⟩ := H1.mem _ hm
  have hcv' := hcv
  rw [CvL] at hcv'
  obtain ⟨v, r, hits, cx, hr⟩ := hcv'
  rw [CvL] at hr; subst hr
  rw [Cv] at cx
  obtain ⟨tx, rfl⟩ := cx
  have hits : its = #[.str ⟨x.toArray⟩ tx] := by rw [← Array.toList_inj]; exact hits
  subst hits
  have hil : s1.heap.IsList q #[.str ⟨x.toArray⟩ tx] := ⟨_, hlo, rfl, _, rfl⟩
  refine wpAny_pyIter_list hil ?_
  have old : ∀ b o, c.W.h0.get? b = some o → s1.heap.get? b = some o := fun b o e => (H1.st.old b o e).2
  have up : ∀ b o, s1.heap.get? b = some o → (s1.heap.push { cls := .type "list_iterator", data := .fields #[.ref q, .int 0 0] }).get? b = some o := fun b o e => Heap.get?_push_of_some _ e
  obtain ⟨ps, hP, hok⟩ := H1.st.tab
  have ht := (T.tab _ _ _).mp hok
  have hlim := c.W.nolimit.keeps fun b o e => up _ _ (old b o e)
  refine ⟨hlim, ?_⟩
  refine genCode (T.code.keeps fun b o e => up _ _ (old b o e)) (up _ _ hP) ht hcode fun code h3 tk3 ps3 hx3 hge3 hP3 ht3 => ?_
  obtain ⟨bm, ob, b1, b2, b3, b4, b5, b6, b7, b8⟩ := T.bm
  have hP1 : c.W.P < s1.heap.objs.size := Heap.lt_size hP
  have keep3 : ∀ b o, b ≠ c.W.P → s1.heap.get? b = some o → h3.get? b = some o := fun b o hb e => hx3 b o hb (up _ _ e)
  have hg3 : h3.Ns c.env.globals c.W.mg := by
    rw [c.globals]
    exact (c.W.g.keeps old).extBut (fun b o hb e => keep3 b o hb e) T.gP
  refine wpAny_builtinsFor (m := c.W.mg) (bm := bm) (o := ob) hg3 b1 b2 (keep3 _ _ b4 (old _ _ b5)) b6 b7 b8 ?_
  have hqlt : q < s1.heap.objs.size := Heap.lt_size hlo
  have hqP : q ≠ c.W.P := (H1.own q (mem_owned (x := (q, [.str x])) hm)).2.2
  have hsz3 : s1.heap.objs.size < h3.objs.size := by
    have : (s1.heap.push { cls := .type "list_iterator", data := .fields #[.ref q, .int 0 0] }).objs.size ≤ h3.objs.size := hge3
    rw [Heap.size_push] at this; omega
  have hsP : s1.heap.objs.size ≠ c.W.P := Ne.symm (Nat.ne_of_lt hP1)
  have hst0 : h3.IsListIter s1.heap.objs.size q 0 ∧ h3.IsList q #[.str ⟨x.toArray⟩ tx] := by
    refine ⟨⟨_, hx3 _ _ hsP (Heap.get?_push_size _ rfl), rfl, rfl⟩, ?_⟩
    exact ⟨_, keep3 _ _ hqP hlo, rfl, _, rfl⟩
  have hcP : cStatics ≠ c.W.P := fun e => by
    obtain ⟨_, hns, _⟩ := hlim
    obtain ⟨o, es, ep, ho, hd, _⟩ := hns
    rw [e, up _ _ hP] at ho; cases ho; cases hd
  have hlim3 : h3.NoLimit := hlim.extBut hx3 hcP
  have hclt : cStatics < s1.heap.objs.size := by
    obtain ⟨_, hns, _⟩ := c.W.nolimit.keeps old
    exact hns.lt
  refine ⟨s1.heap.objs.size, [s1.heap.objs.size, q], [s1.heap.objs.size], 1, (fun i v => (#[Value.str ⟨x.toArray⟩ tx])[i]? = some v), (fun i h => h.IsListIter s1.heap.objs.size q i ∧ h.IsList q #[.str ⟨x.toArray⟩ tx]), (fun _ => true), (fun i v => ∃ t', v = .str ⟨x.toArray⟩ t'), rfl,
    (fun A' hA => Walks.list hA _ _ (Nat.ne_of_lt hqlt) #[.str ⟨x.toArray⟩ tx]), hst0, ?_, hlim3, ?_, ?_, ?_⟩
  · intro b hb
    rcases List.mem_cons.mp hb with rfl | hb
    · exact hsz3
    · rcases List.mem_cons.mp hb with rfl | hb
      · exact Nat.lt_trans hqlt hsz3
      · cases hb
  · intro hb
    rcases List.mem_cons.mp hb with e | hb
    · exact absurd e (Nat.ne_of_lt hclt)
    · cases hb
  · intro href hhref
    refine ⟨fun A' E' i v s2 m2 hA hp hns hmv hk => ?_, fun A' E' i v s2 m2 hA hp _ hns hmv hk => ?_⟩
    · rw [List.forIn_nil]
      exact wpAny_pure ⟨rfl, s2.heap, s2.toks, rfl, fun _ _ e => e⟩
    · have hvv : v = .str ⟨x.toArray⟩ tx := by
        have hp' : (#[Value.str ⟨x.toArray⟩ tx])[i]? = some v := hp
        cases i with
        | zero => simpa using hp'.symm
        | succ i => simp at hp'
      subst hvv
      refine elt_walk (t := tx) h1 h2 hx hx2 hkind hs hns hmv fun t' k => ⟨⟨t', rfl⟩, s2.heap, k, rfl, fun _ _ e => e⟩
  · intro ga h5 tk5 gs hgb hag hsz5 hk5 W hat
    refine Calls.spliced_nil ⟨trivial, ?_⟩
    have W2 := W.in4_2
    have e1 : passing (fun _ => true) 1 0 = [0] := rfl
    refine SC.joinGen W2 (fun i s' st => st.1.typeIs) hat ?_ (List.mem_cons_self ..) (fun j v hv => ?_) (fun s' lt hmv hacc => ?_) (by rw [e1, sizeLine_eq]; decide)
    · intro b hb
      show b < h5.objs.size
      rw [hsz5]
      rcases List.mem_cons.mp hb with rfl | hb
      · exact Nat.lt_succ_self _
      · rcases List.mem_cons.mp hb with rfl | hb
        · exact Nat.lt_succ_of_lt hag
        · exact Nat.lt_succ_of_lt (Nat.lt_trans (List.mem_range.mp hb) hag)
    · obtain ⟨i, _, t', e⟩ := hv
      exact ⟨_, _, e⟩
    · have hlen : lt.length = 1 := by simpa [strValues, e1] using hacc.1
      obtain ⟨y, rfl⟩ : ∃ y, lt = [y] := List.length_eq_one_iff.mp hlen
      obtain ⟨i, _, t', e⟩ := hacc.2 0 (.str y.1 y.2) rfl
      injection e with e2 e3
      have ey : [y].map (·.1) = [(⟨x.toArray⟩ : Str)] := by simp [e2]
      rw [ey]
      have ej : ∀ sep : Str, Txt.join sep [(⟨x.toArray⟩ : Str)] = ⟨x.toArray⟩ := fun _ => rfl
      rw [ej]
      refine ⟨?_, fun tt k => ?_⟩
      · have hd1 : (Str.ofString "-").length = 1 := by decide +kernel
        show (!Builtin.Str.tooLong (0 + (⟨x.toArray⟩ : Str).length + (Str.ofString "-").length)) = true
        rw [hd1]
        unfold Builtin.Str.tooLong
        have : (⟨x.toArray⟩ : Str).length = x.length := by show x.toArray.size = _; simp
        rw [this, sizeLine_eq]
        simp; omega
      · have hheap : ∀ b o, b ≠ c.W.P → s1.heap.get? b = some o → s'.heap.get? b = some o := fun b o hb e => by
          have hlt := Heap.lt_size e
          refine hmv.heap b o ?_ (hk5 _ _ (keep3 _ _ hb e))
          intro hmem
          rcases List.mem_cons.mp hmem with e | hmem
          · exact absurd e (Nat.ne_of_lt (Nat.lt_trans hlt hsz3))
          · rcases List.mem_cons.mp hmem with e | hmem
            · exact absurd e (Nat.ne_of_lt hlt)
            · cases hmem
        have hPs : s'.heap.get? c.W.P = some (tabObj ps3) := by
          refine hmv.heap _ _ ?_ (hk5 _ _ hP3)
          intro hmem
          rcases List.mem_cons.mp hmem with e | hmem
          · exact absurd e (Nat.ne_of_lt (Nat.lt_trans hP1 hsz3))
          · rcases List.mem_cons.mp hmem with e | hmem
            · exact absurd e.symm hsP
            · cases hmem
        have hbare : AllBare s'.gens := hmv.gens.bare (AllBare.push H1.st.bare hgb)
        have H5 := H1.tabStep hq (tk := k) (gs := s'.gens) hheap hPs ((T.tab _ _ _).mpr ht3) hbare
        have es : ({ s' with toks := k } : Shared) = { s1 with heap := s'.heap, toks := k, gens := s'.gens } := by
          have h3 := hmv.drawn
          have h4 := hmv.os
          cases s'
          simp only at h3 h4
          rw [h3, h4]
        rw [es]
        exact ⟨.str x, a1, F1, H5, by rw [Cv]; exact ⟨_, rfl⟩, h⟩
end
end Mine
end
section
open Mine
local macro_rules | `(tactic| k_is) => `(tactic| with_reducible first | exact hK_3 _ | exact hK_37 _ | exact hK_38 _ | exact hK_42 _ | exact hK_43 _ | exact hK_49 _ | exact hK_50 _ | exact hK_52 _ | exact hK_61 _ | exact hK_62 _ | exact hK_68 _ | exact hK_69 _ | exact hK_75 _ | exact hK_76 _ | exact hK_82 _ | exact hK_83 _ | exact hK_87 _ | exact hK_88 _ | exact hK_94 _ | exact hK_95 _ | exact hK_101 _ | exact hK_102 _ | exact hK_106 _ | exact hK_107 _ | exact hK_111 _ | exact hK_112 _ | exact hK_118 _ | exact hK_119 _ | exact hK_125 _ | exact hK_126 _ | exact hK_132 _ | exact hK_133 _ | exact hK_139 _ | exact hK_140 _ | exact hK_146 _ | exact hK_147 _ | exact hK_153 _ | exact hK_154 _ | exact hK_160 _ | exact hK_161 _ | exact hK_165 _ | exact hK_166 _)
local macro_rules | `(tactic| tb_rel) => `(tactic| first
  | with_reducible first
    | refine tss_cons ?_
    | refine tss_nil ?_
    | refine at_next ?_
    | refine at_ret ?_
    | refine at_brk ?_
    | refine tk_next ?_
    | refine tk_ret ?_
    | refine tk_brk ?_
    | refine fk_ret ?_
    | refine pk_next ?_
    | refine ts_if ?_
    | refine ts_ret ?_
    | refine ts_assert ?_
    | refine ts_break ?_
    | refine ts_set _ (by with_reducible assumption) ?_ (by intros; with_unfolding_all rfl)
    | refine ts_aug _ (by with_reducible assumption) (by with_unfolding_all rfl) ?_
    | refine ts_cel _ (by with_reducible assumption) ?_
    | refine ts_settup ?_ (by intros; with_unfolding_all rfl) (by intros; with_unfolding_all rfl)
    | refine ta_tup (by with_unfolding_all rfl) ?_ (by with_unfolding_all rfl)
    | refine ts_expr ?_ (by intros; with_unfolding_all rfl)
    | refine tb_cmp ?_ (by with_unfolding_all rfl)
    | refine tb_not ?_
    | refine tb_call ?_
    | refine tb_name ?_
    | refine tb_const ?_
    | refine te_and ?_
    | refine tea_one ?_
    | refine tea_cons ?_
    | refine tb_and ?_
    | refine tb_or ?_
    | refine tba_cons ?_
    | refine tba_nil ?_
    | refine tbo_cons ?_
    | refine tbo_nil ?_
    | refine tl_cons ?_
    | refine tl_nil ?_
    | refine te_none ?_
    | refine te_bool ?_
    | refine te_int ?_
    | refine te_str ?_
    | refine te_loc _ (by with_reducible assumption) (by with_unfolding_all rfl) ?_
    | refine te_cel _ (by with_reducible assumption) (by with_unfolding_all rfl) ?_
    | refine te_free (by with_reducible assumption) ?_
    | refine te_glob (by with_reducible assumption) (by with_reducible assumption) ?_
    | refine te_bin ?_
    | refine te_cmp ?_ (by with_unfolding_all rfl)
    | refine te_slice ?_
    | refine te_sub ?_
    | refine slc_str (by tb_start) ?_
    | refine slc_lst (by tb_start) ?_
    | refine ex_int ?_
    | refine nr_none ?_
    | refine ex_str ?_
    | refine to_none ?_
    | refine to_some ?_
    | refine te_ifT ?_
    | refine te_joined ?_
    | refine tj_cons ?_
    | refine tj_nil ?_
    | refine te_fmt ?_
    | refine te_tup ?_ (by with_unfolding_all rfl)
    | refine te_neg ?_
    | refine op_add ?_
    | refine op_sub ?_
    | refine op_iadd ?_
    | refine op_lt ?_
    | refine op_le ?_
    | refine op_gt ?_
    | refine op_ge ?_
    | refine op_eq ?_
    | refine op_ne ?_
    | refine op_eqb ?_
    | refine op_neb ?_
    | refine op_eqs ?_
    | refine op_nes ?_
    | refine op_in1 ?_
    | refine op_notin1 ?_
    | refine op_isN ?_
    | refine op_isnot_strref ?_
    | refine op_isnot_self ?_
    | refine op_is_self ?_
  | ((with_reducible show T2 _ _ (AV.int _) (AV.tup [AV.int 0, AV.int 2]) (compareOp CmpOp.In) _); refine op_inint (l := [0, 2]) ?_)
  | ((with_reducible show T2 _ _ (AV.int _) (AV.tup [AV.int 1, AV.int 2]) (compareOp CmpOp.In) _); refine op_inint (l := [1, 2]) ?_)
  | with_reducible first
    | refine op_isnotN ?_
    | refine tt_bool ?_
    | refine if_tt ?_
    | refine if_ff ?_
    | refine te_call (by with_reducible assumption) (by with_reducible assumption) (by with_reducible assumption) ?_ (by with_unfolding_all rfl)
    | refine tc_len_str (by w_left) ?_
    | refine tc_len_lst (by w_left) ?_
    | refine tc_len_mem (by first | assumption | exact .head _ | exact .tail _ (.head _)) (by w_left) ?_
    | refine tc_range1 ?_
    | refine ta_loc _ (by with_reducible assumption) (by simp) ?_
    | refine sub_lstN (k := 0) 0 (by with_unfolding_all rfl) (by with_unfolding_all rfl) (by decide) ?_ (by intro _ _; with_unfolding_all rfl)
    | refine sub_lstN (k := 1) 1 (by with_unfolding_all rfl) (by with_unfolding_all rfl) (by decide) ?_ (by intro _ _; with_unfolding_all rfl)
    | refine sub_tup (k := 0) 0 (by with_unfolding_all rfl) (by with_unfolding_all rfl) ?_ (by decide) (by intro _ _; with_unfolding_all rfl)
    | refine sub_tup (k := 1) 1 (by with_unfolding_all rfl) (by with_unfolding_all rfl) ?_ (by decide) (by intro _ _; with_unfolding_all rfl)
    | refine ta_cel _ (by with_reducible assumption) (by simp) ?_
    | refine tas_cons ?_
    | refine tts_one ?_
    | refine tt_lst (by w_left) ?_
    | refine tas_nil ?_
    | refine And.intro (by tb_start) ?_
    | refine if_t' (by decide) ?_
    | refine if_f' (by decide) ?_)
local macro_rules | `(tactic| w_left) => `(tactic| first | exact blt_lt rfl | exact Nat.le_of_ble_eq_true rfl | omega | (simp only [List.length_map, List.length_set, List.length_cons, List.length_nil, List.length_append, List.length_singleton, List.length_replicate] at *; omega) | (simp; done) | (simp; omega))
local macro_rules | `(tactic| tb_start) => `(tactic| first | exact blt_lt rfl | exact Nat.le_of_ble_eq_true rfl | omega | (simp only [List.length_map, List.length_set, List.length_cons, List.length_nil, List.length_append, List.length_singleton, List.length_replicate] at *; omega))
local macro_rules | `(tactic| top_args) => `(tactic| first | with_reducible refine if_t' (by with_unfolding_all exact rfl) ?_ | with_reducible refine if_f' (by with_unfolding_all exact Bool.false_ne_true) ?_)
section
namespace Mine
set_option maxRecDepth 100000
theorem blt_lt {i n : Nat} (h : Nat.blt i n = true) : i < n := by simpa [Nat.blt_eq] using h
structure PF (W : Wd) : Prop where
  K : (hK W.w.params).In W.h0
  b : ∀ x : Str, x ≠ "__name__" → W.mb x = bootBuiltins x
theorem bind0 {fd : FuncData} (h : bindArgs fd ⟨[], []⟩ = pure []) (vs : List Value) (hl : vs.length = ([] : List Str).length) : bindArgs fd ⟨vs, []⟩ = pure (([] : List Str).zip vs) := by
  have e : vs = [] := List.length_eq_zero_iff.mp hl
  rw [e]; exact h
theorem bind1 {fd : FuncData} {x : Str} (h : ∀ v, bindArgs fd ⟨[v], []⟩ = pure [(x, v)]) (vs : List Value) (hl : vs.length = [x].length) : bindArgs fd ⟨vs, []⟩ = pure ([x].zip vs) := by
  obtain ⟨v, rfl⟩ := List.length_eq_one_iff.mp hl
  exact h v
theorem bind2 {fd : FuncData} {x y : Str} (h : ∀ u v, bindArgs fd ⟨[u, v], []⟩ = pure [(x, u), (y, v)]) (vs : List Value) (hl : vs.length = [x, y].length) : bindArgs fd ⟨vs, []⟩ = pure ([x, y].zip vs) := by
  obtain ⟨u, r, rfl⟩ := List.exists_cons_of_length_eq_add_one hl
  obtain ⟨v, rfl⟩ := List.length_eq_one_iff.mp (Nat.succ.inj hl)
  exact h u v
theorem bind3 {fd : FuncData} {x y z : Str} (h : ∀ u v w, bindArgs fd ⟨[u, v, w], []⟩ = pure [(x, u), (y, v), (z, w)]) (vs : List Value) (hl : vs.length = [x, y, z].length) : bindArgs fd ⟨vs, []⟩ = pure ([x, y, z].zip vs) := by
  obtain ⟨u, r, rfl⟩ := List.exists_cons_of_length_eq_add_one hl
  obtain ⟨v, r, rfl⟩ := List.exists_cons_of_length_eq_add_one (Nat.succ.inj hl)
  obtain ⟨w, rfl⟩ := List.length_eq_one_iff.mp (Nat.succ.inj (Nat.succ.inj hl))
  exact h u v w
theorem Fc.introK {W : Wd} (hp : PF W) {q : Bool} {lvl : Nat} {f : Addr} {oc : Value} {od : Option Addr} {sl : Array (Option Value)} {fd : FuncData} {body : List Stmt} {args : List AV} {R : AV → Prop} (params more gl : List Str)
    (ho : (hK W.w.params).lookup f = some ⟨oc, od, .func fd, sl⟩) (hc : codeIn (hK W.w.params) fd.code fd.qualname = true) (hbd : fd.body = .stmts body)
    (hb : ∀ vs : List Value, vs.length = params.length → bindArgs fd ⟨vs, []⟩ = pure (params.zip vs)) (pl : fd.scope.isCoroutine = false ∧ fd.scope.isGenerator = false ∧ fd.scope.kind = .function) (gg : fd.globals = mainGlobals ∧ fd.builtins = builtinsNs)
    (nd : (params ++ more).Nodup) (nk : ∀ x ∈ params ++ more, fd.scope.names.lookup x = some .local ∧ (x == ("__debug__" : Str)) = false) (gk : ∀ x ∈ gl, fd.scope.names.lookup x = some .globalImplicit ∧ (x == ("__debug__" : Str)) = false)
    (hcell : ∀ x ∈ fd.scope.names, x.2 ≠ .cell) (hn : args.length = params.length)
    (h : ∀ c : Cx, c.W = W → c.names = params ++ more → c.gl = gl → c.q = q → c.lvl = lvl →
      TSs c (.start args more.length) body (FinK R)) : Fc W q (lvl + 1) (.ref f) args R :=
  Fc.intro (D := ⟨⟨_, _, _, hp.K _ _ ho⟩, codeRec_of hp.K hc, hbd, hb, pl, gg, ⟨more, rfl⟩, nd, nk, gk⟩) hcell hn fun c h1 h2 h3 _ h5 h6 => by
    have := h c h1 h2 h3 h5 h6
    rw [show (params ++ more).length - params.length = more.length by simp]
    exact this
theorem Fc.introKX {W : Wd} (hp : PF W) {q : Bool} {lvl : Nat} {f : Addr} {oc : Value} {od : Option Addr} {sl : Array (Option Value)} {fd : FuncData} {body : List Stmt} {args : List AV} {R : AV → Prop} (params more gl : List Str)
    (ho : (hK W.w.params).lookup f = some ⟨oc, od, .func fd, sl⟩) (hc : codeIn (hK W.w.params) fd.code fd.qualname = true) (hbd : fd.body = .stmts body)
    (hb : ∀ vs : List Value, vs.length = params.length → bindArgs fd ⟨vs, []⟩ = pure (params.zip vs)) (pl : fd.scope.isCoroutine = false ∧ fd.scope.isGenerator = false ∧ fd.scope.kind = .function) (gg : fd.globals = mainGlobals ∧ fd.builtins = builtinsNs)
    (nd : (params ++ more).Nodup) (nk : ∀ x ∈ params ++ more, fd.scope.names.lookup x = some .local ∧ (x == ("__debug__" : Str)) = false) (gk : ∀ x ∈ gl, fd.scope.names.lookup x = some .globalImplicit ∧ (x == ("__debug__" : Str)) = false)
    (hcell : ∀ x ∈ fd.scope.names, x.2 ≠ .cell) (hn : args.length = params.length)
    (h : ∀ c : Cx, c.W = W → c.names = params ++ more → c.gl = gl → c.q = q → c.lvl = lvl → c.env.code = fd.code →
      TSs c (.start args more.length) body (FinK R)) : Fc W q (lvl + 1) (.ref f) args R :=
  Fc.introX (D := ⟨⟨_, _, _, hp.K _ _ ho⟩, codeRec_of hp.K hc, hbd, hb, pl, gg, ⟨more, rfl⟩, nd, nk, gk⟩) hcell hn fun c h1 h2 h3 _ h5 h6 h7 => by
    have := h c h1 h2 h3 h5 h6 h7
    rw [show (params ++ more).length - params.length = more.length by simp]
    exact this
theorem Fc.introKC {W : Wd} (hp : PF W) {q : Bool} {lvl : Nat} {f : Addr} {oc : Value} {od : Option Addr} {sl : Array (Option Value)} {fd : FuncData} {body : List Stmt} {args : List AV} {R : AV → Prop} (params names cnames gl : List Str) (lsrc csrc : List (Option Nat))
    (ho : (hK W.w.params).lookup f = some ⟨oc, od, .func fd, sl⟩) (hc : codeIn (hK W.w.params) fd.code fd.qualname = true) (hbd : fd.body = .stmts body)
    (hb : ∀ vs : List Value, vs.length = params.length → bindArgs fd ⟨vs, []⟩ = pure (params.zip vs)) (pl : fd.scope.isCoroutine = false ∧ fd.scope.isGenerator = false ∧ fd.scope.kind = .function) (gg : fd.globals = mainGlobals ∧ fd.builtins = builtinsNs)
    (hclo : fd.closure = []) (nd : names.Nodup ∧ params.Nodup ∧ cnames.Nodup) (nk : ∀ x ∈ names, fd.scope.names.lookup x = some .local ∧ (x == ("__debug__" : Str)) = false) (gk : ∀ x ∈ gl, fd.scope.names.lookup x = some .globalImplicit ∧ (x == ("__debug__" : Str)) = false)
    (ck : ∀ x ∈ cnames, fd.scope.names.lookup x = some .cell ∧ (x == ("__debug__" : Str)) = false) (hpk : ∀ x ∈ params, x ∈ names ∨ x ∈ cnames)
    (hcn : ∀ n, (cellsFrom n fd.scope.names []).map (·.1) = cnames)
    (hl : ∀ (i : Nat) (x : Str) (j : Nat), names[i]? = some x → lsrc[i]? = some (some j) → params[j]? = some x) (hcs : ∀ (i : Nat) (x : Str) (j : Nat), cnames[i]? = some x → csrc[i]? = some (some j) → params[j]? = some x) (hn : args.length = params.length)
    (h : ∀ c : Cx, c.W = W → c.names = names → c.gl = gl → c.cells.map (·.1) = cnames → c.q = q → c.lvl = lvl →
      TSs c ⟨srcs args lsrc, srcs args csrc, []⟩ body (FinK R)) : Fc W q (lvl + 1) (.ref f) args R :=
  Fc.introC (hp.K _ _ ho) (codeRec_of hp.K hc) hbd hb pl gg hclo nd.1 nd.2.1 nd.2.2 nk gk ck hpk hcn hl hcs hn h
theorem gv_main {W : Wd} (hp : PF W) {oc : Value} {od : Option Addr} {es : Array DictEntry} {ep : Nat} {sl : Array (Option Value)} (ho : (hK W.w.params).lookup mainGlobals = some ⟨oc, od, .dict es ep, sl⟩) {x : Str} {v : Option Value} (h : nsFind es x = v) : W.mg x = v := by
  obtain ⟨o, es', ep', e1, e2, e3, e4⟩ := W.g
  rw [hp.K _ _ ho] at e1; cases e1
  cases e2
  rw [← e4, h]
theorem kept_f {W : Wd} (hp : PF W) {f : Addr} {oc : Value} {od : Option Addr} {sl : Array (Option Value)} {fd : FuncData} (ho : (hK W.w.params).lookup f = some ⟨oc, od, .func fd, sl⟩) : KeptV W (.ref f) := ⟨oc, od, fd, sl, hp.K _ _ ho⟩
theorem gf__build_localename {W : Wd} (hp : PF W) : Gv W "_build_localename" (.ref 38) ∧ KeptV W (.ref 38) := ⟨.inl (gv_main hp (hK_3 _) (by kernel_rfl)), kept_f hp (by k_is)⟩
theorem gf_translate {W : Wd} (hp : PF W) : Gv W "translate" (.ref 50) ∧ KeptV W (.ref 50) := ⟨.inl (gv_main hp (hK_3 _) (by kernel_rfl)), kept_f hp (by k_is)⟩
theorem gf_escape {W : Wd} (hp : PF W) : Gv W "escape" (.ref 62) ∧ KeptV W (.ref 62) := ⟨.inl (gv_main hp (hK_3 _) (by kernel_rfl)), kept_f hp (by k_is)⟩
theorem gf__translate {W : Wd} (hp : PF W) : Gv W "_translate" (.ref 69) ∧ KeptV W (.ref 69) := ⟨.inl (gv_main hp (hK_3 _) (by kernel_rfl)), kept_f hp (by k_is)⟩
theorem gf__join_translated_parts {W : Wd} (hp : PF W) : Gv W "_join_translated_parts" (.ref 76) ∧ KeptV W (.ref 76) := ⟨.inl (gv_main hp (hK_3 _) (by kernel_rfl)), kept_f hp (by k_is)⟩
theorem gf__law_table {W : Wd} (hp : PF W) : Gv W "_law_table" (.ref 83) ∧ KeptV W (.ref 83) := ⟨.inl (gv_main hp (hK_3 _) (by kernel_rfl)), kept_f hp (by k_is)⟩
theorem gf__law_numbers {W : Wd} (hp : PF W) : Gv W "_law_numbers" (.ref 88) ∧ KeptV W (.ref 88) := ⟨.inl (gv_main hp (hK_3 _) (by kernel_rfl)), kept_f hp (by k_is)⟩
theorem gf__law_items {W : Wd} (hp : PF W) : Gv W "_law_items" (.ref 95) ∧ KeptV W (.ref 95) := ⟨.inl (gv_main hp (hK_3 _) (by kernel_rfl)), kept_f hp (by k_is)⟩
theorem gf__law_word {W : Wd} (hp : PF W) : Gv W "_law_word" (.ref 102) ∧ KeptV W (.ref 102) := ⟨.inl (gv_main hp (hK_3 _) (by kernel_rfl)), kept_f hp (by k_is)⟩
theorem gf__law_pattern {W : Wd} (hp : PF W) : Gv W "_law_pattern" (.ref 107) ∧ KeptV W (.ref 107) := ⟨.inl (gv_main hp (hK_3 _) (by kernel_rfl)), kept_f hp (by k_is)⟩
theorem gf__law_means {W : Wd} (hp : PF W) : Gv W "_law_means" (.ref 112) ∧ KeptV W (.ref 112) := ⟨.inl (gv_main hp (hK_3 _) (by kernel_rfl)), kept_f hp (by k_is)⟩
theorem gf__law_told {W : Wd} (hp : PF W) : Gv W "_law_told" (.ref 119) ∧ KeptV W (.ref 119) := ⟨.inl (gv_main hp (hK_3 _) (by kernel_rfl)), kept_f hp (by k_is)⟩
theorem gf__law_item {W : Wd} (hp : PF W) : Gv W "_law_item" (.ref 126) ∧ KeptV W (.ref 126) := ⟨.inl (gv_main hp (hK_3 _) (by kernel_rfl)), kept_f hp (by k_is)⟩
theorem gf__law_read {W : Wd} (hp : PF W) : Gv W "_law_read" (.ref 133) ∧ KeptV W (.ref 133) := ⟨.inl (gv_main hp (hK_3 _) (by kernel_rfl)), kept_f hp (by k_is)⟩
theorem gf__law_fits {W : Wd} (hp : PF W) : Gv W "_law_fits" (.ref 140) ∧ KeptV W (.ref 140) := ⟨.inl (gv_main hp (hK_3 _) (by kernel_rfl)), kept_f hp (by k_is)⟩
theorem gf__law_takes {W : Wd} (hp : PF W) : Gv W "_law_takes" (.ref 147) ∧ KeptV W (.ref 147) := ⟨.inl (gv_main hp (hK_3 _) (by kernel_rfl)), kept_f hp (by k_is)⟩
theorem gf__law_parts {W : Wd} (hp : PF W) : Gv W "_law_parts" (.ref 154) ∧ KeptV W (.ref 154) := ⟨.inl (gv_main hp (hK_3 _) (by kernel_rfl)), kept_f hp (by k_is)⟩
theorem gf__law_wish {W : Wd} (hp : PF W) : Gv W "_law_wish" (.ref 161) ∧ KeptV W (.ref 161) := ⟨.inl (gv_main hp (hK_3 _) (by kernel_rfl)), kept_f hp (by k_is)⟩
theorem gf__twin_re_1 {W : Wd} (hp : PF W) : Gv W "_twin_re_1" (.ref 43) := .inl (gv_main hp (hK_3 _) (by kernel_rfl))
theorem gf__special_chars_map {W : Wd} (hp : PF W) : Gv W "_special_chars_map" (.ref 52) := .inl (gv_main hp (hK_3 _) (by kernel_rfl))
theorem gf_len {W : Wd} (hp : PF W) : Gv W "len" (.builtin "len") := .inr ⟨gv_main hp (hK_3 _) (by kernel_rfl), (hp.b _ (by decide +kernel)).trans (by kernel_rfl)⟩
theorem gf_isinstance {W : Wd} (hp : PF W) : Gv W "isinstance" (.builtin "isinstance") := .inr ⟨gv_main hp (hK_3 _) (by kernel_rfl), (hp.b _ (by decide +kernel)).trans (by kernel_rfl)⟩
theorem gf_range {W : Wd} (hp : PF W) : Gv W "range" (.type "range") := .inr ⟨gv_main hp (hK_3 _) (by kernel_rfl), (hp.b _ (by decide +kernel)).trans (by kernel_rfl)⟩
theorem gf_object {W : Wd} (hp : PF W) : Gv W "object" (.type "object") := .inr ⟨gv_main hp (hK_3 _) (by kernel_rfl), (hp.b _ (by decide +kernel)).trans (by kernel_rfl)⟩
theorem gf_zip {W : Wd} (hp : PF W) : Gv W "zip" (.type "zip") := .inr ⟨gv_main hp (hK_3 _) (by kernel_rfl), (hp.b _ (by decide +kernel)).trans (by kernel_rfl)⟩
theorem gf_str {W : Wd} (hp : PF W) : Gv W "str" (.type "str") := .inr ⟨gv_main hp (hK_3 _) (by kernel_rfl), (hp.b _ (by decide +kernel)).trans (by kernel_rfl)⟩
end Mine
end
section
namespace Mine
set_option maxRecDepth 100000
noncomputable abbrev It := Int × List Nat
noncomputable abbrev itAV (x : It) : AV := .tup [.int x.1, .str x.2]
noncomputable abbrev rowAV (r : List It) : AV := .lst (r.map itAV)
noncomputable abbrev rowsAV (r : List (List It)) : AV := .lst (r.map rowAV)
noncomputable def itOK (x : It) (y : Nat) : Bool := decide (y ∈ x.2) == decide (x.1 = 1)
noncomputable def fitsB (row : List It) (name : List Nat) (at' : Nat) : Bool := decide (at' + row.length ≤ name.length) && (List.range row.length).all fun k => match row[k]?, name[at' + k]? with | some x, some y => itOK x y | _, _ => true
theorem law_fits {W : Wd} (hp : PF W) (row : List It) (name : List Nat) (at' : Nat) (h1 : row.length ≤ 1000) (h2 : name.length ≤ 1000) : Fc W true 1 (.ref 140) [rowAV row, .str name, .int at'] (fun r => r = .bool (fitsB row name at')) := by
  refine' Fc.introK hp ["row", "name", "at"] ["k"] ["len", "range"] ?ho ?hc ?bd (bind3 ?hb) ?pl ?gg ?nd ?nk ?gk ?cell rfl ?body
  case ho => k_is
  case bd => (conv => lhs; whnf; arg 1; whnf) <;> rfl
  case hc => kernel_rfl
  case pl => exact ⟨rfl, rfl, rfl⟩
  case gg => exact ⟨rfl, rfl⟩
  case hb => intro u v w; rfl
  case nd => decide +kernel
  case nk => decide +kernel
  case gk => decide +kernel
  case cell => decide +kernel
  case body =>
    intro c hW hn hg hq hl
    have n0 : c.names[0]? = some ("row" : Str) := by rw [hn]; rfl
    have n1 : c.names[1]? = some ("name" : Str) := by rw [hn]; rfl
    have n2 : c.names[2]? = some ("at" : Str) := by rw [hn]; rfl
    have n3 : c.names[3]? = some ("k" : Str) := by rw [hn]; rfl
    have g0 : ("len" : Str) ∈ c.gl := by rw [hg]; decide
    have g1 : ("range" : Str) ∈ c.gl := by rw [hg]; decide
    have v0 := gf_len (hW ▸ hp)
    have v1 := gf_range (hW ▸ hp)
    have kv0 : KeptV c.W (.builtin "len") := trivial
    have kv1 : KeptV c.W (.type "range") := trivial
    repeat tb_rel
    refine if_d (fun hgt => ?_) (fun hle => ?_)
    · repeat tb_rel
      show _ = _
      unfold fitsB
      rw [decide_eq_false (by simp at hgt; omega)]; rfl
    repeat tb_rel
    have hle' : at' + row.length ≤ name.length := by simp at hle; omega
    refine ts_for_n (fun i a => (∃ k, a = ⟨[some (rowAV row), some (.str name), some (.int at'), k], [], []⟩) ∧ ∀ j, j < i → (match row[j]?, name[at' + j]? with | some x, some y => itOK x y | _, _ => true) = true) row.length (by omega) ?_ ?_ ?_
    · repeat tb_rel
      exact ⟨by simp, ⟨_, rfl⟩, fun j hj => by omega⟩
    · rintro i a hi ⟨⟨k, rfl⟩, hJ⟩
      obtain ⟨x, hx⟩ : ∃ x, row[i]? = some x := ⟨_, List.getElem?_eq_getElem hi⟩
      obtain ⟨y, hy⟩ : ∃ y, name[at' + i]? = some y := ⟨_, List.getElem?_eq_getElem (by omega)⟩
      repeat tb_rel
      refine sub_strN (at' + i) (by omega) hy (by omega) ?_
      repeat tb_rel
      refine sub_lstN (l := row.map itAV) (x := itAV x) i rfl (by rw [List.getElem?_map, hx]; rfl) (by omega) ?_
      repeat tb_rel
      refine sub_lstN (l := row.map itAV) (x := itAV x) i rfl (by rw [List.getElem?_map, hx]; rfl) (by omega) ?_
      repeat tb_rel
      refine if_b (fun hb => ?_) (fun hb => ?_)
      · repeat tb_rel
        show _ = _
        have : fitsB row name at' = false := by
          unfold fitsB
          rw [Bool.and_eq_false_iff]
          refine .inr (List.all_eq_false.mpr ⟨i, List.mem_range.mpr hi, ?_⟩)
          rw [hx, hy]
          simpa [itOK] using hb
        rw [this]
      · repeat tb_rel
        refine ⟨⟨_, rfl⟩, fun j hj => ?_⟩
        rcases Nat.lt_succ_iff_lt_or_eq.mp hj with hj | rfl
        · exact hJ j hj
        · rw [hx, hy]
          simpa [itOK] using hb
    · rintro a ⟨⟨k, rfl⟩, hJ⟩
      repeat tb_rel
      show _ = _
      have : fitsB row name at' = true := by
        unfold fitsB
        rw [decide_eq_true hle', Bool.true_and, List.all_eq_true]
        exact fun j hj => hJ j (List.mem_range.mp hj)
      rw [this]
end Mine
end
section
namespace Mine
set_option maxRecDepth 100000
set_option maxHeartbeats 8000000
theorem clip_nat {n i : Nat} : clipAt n (i : Int) = min i n := by
  unfold clipAt; rw [if_neg (by omega)]; omega
theorem pyS_at {α : Type} (l : List α) (i k : Nat) (h : i ≤ l.length) : pyS l (some (i : Int)) (some ((i : Int) + (k : Int))) = (l.drop i).take k := by
  unfold pyS
  simp only [Option.elim_some]
  rw [show ((i : Int) + (k : Int)) = ((i + k : Nat) : Int) by omega, clip_nat, clip_nat, Nat.min_eq_left h]
  by_cases hk : i + k ≤ l.length
  · rw [Nat.min_eq_left hk]; congr 1; omega
  · rw [Nat.min_eq_right (by omega), List.take_of_length_le (by simp), List.take_of_length_le (by simp; omega)]
theorem pyS_to {α : Type} (l : List α) (i j : Nat) (h : i ≤ j) (hj : j ≤ l.length) : pyS l (some (i : Int)) (some (j : Int)) = (l.drop i).take (j - i) := by
  unfold pyS
  simp only [Option.elim_some]
  rw [clip_nat, clip_nat, Nat.min_eq_left hj, Nat.min_eq_left (by omega)]
noncomputable def closeAt (text : List Nat) (at' : Nat) : Nat := at' + (text.drop at').idxOf 93
theorem closeAt_first {text : List Nat} {at' : Nat} (h : 93 ∈ text.drop at') : firstAt text 93 at' text.length (closeAt text at') := by
  have hlt := List.idxOf_lt_length_of_mem h
  unfold closeAt
  refine ⟨Nat.le_add_right _ _, by simp at hlt; omega, ?_, fun i h1 h2 e => ?_⟩
  · have := List.getElem_idxOf hlt
    rw [List.getElem?_eq_getElem (by simp at hlt; omega)]
    rw [List.getElem_drop] at this
    rw [this]
  · have h3 : i - at' < (text.drop at').idxOf 93 := by omega
    have h4 : (text.drop at')[i - at']? = some 93 := by rw [List.getElem?_drop, show at' + (i - at') = i by omega]; exact e
    obtain ⟨h5, h6⟩ := List.getElem?_eq_some_iff.mp h4
    have q := List.not_of_lt_findIdx (p := (· == 93)) (xs := text.drop at') (i := i - at') (by simpa [List.idxOf] using h3)
    rw [h6] at q
    simp at q
noncomputable def specials : List Nat := chars "()*+?{}|^$"
/-- what the reader of one piece of a text gives: how long, and what it means -/
noncomputable def itemF (text : List Nat) (at' : Nat) : Nat × Option It :=
  let r := text.drop at'
  if r.take 4 = chars "(?!)" then (4, some (1, []))
  else if r[0]? = some 46 then (1, some (2, []))
  else if r[0]? = some 92 then (2, some (1, [r[1]?.getD 0]))
  else if r.take 2 = chars "[^" then (closeAt text at' + 1 - at', some (2, (text.drop (at' + 2)).take (closeAt text at' - (at' + 2))))
  else if r[0]? = some 91 then (closeAt text at' + 1 - at', some (1, (text.drop (at' + 1)).take (closeAt text at' - (at' + 1))))
  else if (r[0]?.getD 0) ∈ specials then (1, none)
  else (1, some (1, [r[0]?.getD 0]))
noncomputable def itO : Option It → AV
  | none => .none
  | some x => itAV x
theorem law_item {W : Wd} (hp : PF W) (text : List Nat) (at' : Nat) (h1 : text.length ≤ 100000) (h2 : at' < text.length) (h3 : text[at']? = some 92 → at' + 1 < text.length) (h4 : text[at']? = some 91 → 93 ∈ text.drop at') :
    Fc W true 1 (.ref 126) [.str text, .int at'] (fun r => r = .tup [.int (itemF text at').1, itO (itemF text at').2]) := by
  refine' Fc.introK hp ["text", "at"] ["close"] [] ?ho ?hc ?bd (bind2 ?hb) ?pl ?gg ?nd ?nk ?gk ?cell rfl ?body
  case ho => k_is
  case bd => (conv => lhs; whnf; arg 1; whnf) <;> rfl
  case hc => kernel_rfl
  case pl => exact ⟨rfl, rfl, rfl⟩
  case gg => exact ⟨rfl, rfl⟩
  case hb => intro u v; rfl
  case nd => decide +kernel
  case nk => decide +kernel
  case gk => decide +kernel
  case cell => decide +kernel
  case body =>
  intro c hW hn hg hq hl
  subst hW
  have n0 : c.names[0]? = some ("text" : Str) := by rw [hn]; rfl
  have n1 : c.names[1]? = some ("at" : Str) := by rw [hn]; rfl
  have n2 : c.names[2]? = some ("close" : Str) := by rw [hn]; rfl
  clear hn hg
  obtain ⟨x, hx⟩ : ∃ x, text[at']? = some x := ⟨_, List.getElem?_eq_getElem h2⟩
  have hx0 : (text.drop at')[0]? = some x := by rw [List.getElem?_drop]; exact hx
  have e4 : pyS text (some (at' : Int)) (some ((at' : Int) + 4)) = (text.drop at').take 4 := pyS_at text at' 4 (by omega)
  have e2 : pyS text (some (at' : Int)) (some ((at' : Int) + 2)) = (text.drop at').take 2 := pyS_at text at' 2 (by omega)
  have c1 : chars "." = [46] := by decide +kernel
  have c2 : chars "\\" = [92] := by decide +kernel
  have c3 : chars "[" = [91] := by decide +kernel
  have c4 : chars "]" = [93] := by decide +kernel
  have c5 : chars "[^" = [91, 94] := by decide +kernel
  have c6 : chars "" = [] := by decide +kernel
  repeat tb_rel
  rw [e4]
  refine if_b (fun hb => ?_) (fun hb1 => ?_)
  · have hb : (text.drop at').take 4 = chars "(?!)" := by simpa using hb
    repeat tb_rel
    show _ = _
    simp only [itemF, if_pos hb, itO, itAV, AV.lit, c6]; rfl
  have hb1 : ¬ (text.drop at').take 4 = chars "(?!)" := by simpa using hb1
  repeat tb_rel
  refine sub_strN at' rfl hx (by omega) ?_
  repeat tb_rel
  rw [c1]
  refine if_b (fun hb => ?_) (fun hb2 => ?_)
  · have hb : x = 46 := by simpa using hb
    subst hb
    repeat tb_rel
    show _ = _
    simp only [itemF, if_neg hb1, hx0, if_true, itO, itAV, AV.lit, c6]; rfl
  have hb2 : ¬ x = 46 := by simpa using hb2
  repeat tb_rel
  refine sub_strN at' rfl hx (by omega) ?_
  repeat tb_rel
  rw [c2]
  refine if_b (fun hb => ?_) (fun hb3 => ?_)
  · have hb : x = 92 := by simpa using hb
    subst hb
    have h3' := h3 hx
    obtain ⟨y, hy⟩ : ∃ y, text[at' + 1]? = some y := ⟨_, List.getElem?_eq_getElem h3'⟩
    repeat tb_rel
    refine sub_strN (at' + 1) (by omega) hy (by omega) ?_
    repeat tb_rel
    show _ = _
    have hy0 : (text.drop at')[1]? = some y := by rw [List.getElem?_drop]; exact hy
    simp only [itemF, if_neg hb1, hx0, hy0, itO, itAV, AV.lit]
    simp
  have hb3 : ¬ x = 92 := by simpa using hb3
  repeat tb_rel
  rw [e2]
  refine if_b (fun hb => ?_) (fun hb4 => ?_)
  · have hb : (text.drop at').take 2 = chars "[^" := by simpa using hb
    have hd : text.drop at' = x :: text.drop (at' + 1) := List.drop_eq_getElem_cons h2 ▸ by
      have := (List.getElem?_eq_some_iff.mp hx).2
      rw [this]
    have hx91 : x = 91 := by rw [hd, c5] at hb; simp at hb; exact hb.1
    have hy94 : text[at' + 1]? = some 94 := by
      have : ((text.drop at').take 2)[1]? = some 94 := by rw [hb, c5]; rfl
      rw [List.getElem?_take_of_lt (by decide), List.getElem?_drop] at this
      exact this
    have hf := closeAt_first (h4 (by rw [hx, hx91]))
    have hge : at' + 2 ≤ closeAt text at' := by
      rcases Nat.lt_or_ge (closeAt text at') (at' + 2) with h | h
      · exfalso
        have h1 := hf.1
        rcases Nat.lt_or_ge at' (closeAt text at') with h2 | h2
        · have e := hf.2.2.1
          rw [show closeAt text at' = at' + 1 by omega, hy94] at e; cases e
        · have e := hf.2.2.1
          rw [show closeAt text at' = at' by omega, hx, hx91] at e; cases e
      · exact h
    have hlt := hf.2.1
    have ec : pyS text (some ((at' : Int) + 2)) (some ((closeAt text at' : Nat) : Int)) = (text.drop (at' + 2)).take (closeAt text at' - (at' + 2)) := pyS_to text (at' + 2) (closeAt text at') hge (by omega)
    repeat tb_rel
    refine te_meth "str" "str.index" PySem.F.plainAttrs_str PySem.F.slot_str_index PySem.F.type_str_index ?_
    repeat tb_rel
    refine ⟨.str _, ?_⟩
    repeat tb_rel
    rw [show AV.lit "]" = .str [93] by rw [AV.lit, c4]]
    refine tc_index3 hf ?_
    repeat tb_rel
    rw [ec]
    repeat tb_rel
    show _ = _
    simp only [itemF, if_neg hb1, hx0, hb, itO, itAV, AV.lit]
    rw [if_neg (by simpa using hb2), if_neg (by simpa using hb3)]
    simp
    omega
  have hb4 : ¬ (text.drop at').take 2 = chars "[^" := by simpa using hb4
  repeat tb_rel
  refine sub_strN at' rfl hx (by omega) ?_
  repeat tb_rel
  rw [c3]
  refine if_b (fun hb => ?_) (fun hb5 => ?_)
  · have hb : x = 91 := by simpa using hb
    subst hb
    have hf := closeAt_first (h4 hx)
    have hge : at' + 1 ≤ closeAt text at' := by
      rcases Nat.lt_or_ge (closeAt text at') (at' + 1) with h | h
      · exfalso
        have h1 := hf.1
        have e := hf.2.2.1
        rw [show closeAt text at' = at' by omega, hx] at e; cases e
      · exact h
    have hlt := hf.2.1
    have ec : pyS text (some ((at' : Int) + 1)) (some ((closeAt text at' : Nat) : Int)) = (text.drop (at' + 1)).take (closeAt text at' - (at' + 1)) := pyS_to text (at' + 1) (closeAt text at') hge (by omega)
    repeat tb_rel
    refine te_meth "str" "str.index" PySem.F.plainAttrs_str PySem.F.slot_str_index PySem.F.type_str_index ?_
    repeat tb_rel
    refine ⟨.str _, ?_⟩
    repeat tb_rel
    rw [show AV.lit "]" = .str [93] by rw [AV.lit, c4]]
    refine tc_index3 hf ?_
    repeat tb_rel
    rw [ec]
    repeat tb_rel
    show _ = _
    simp only [itemF, if_neg hb1, hx0, if_neg hb4, itO, itAV, AV.lit]
    simp
    omega
  have hb5 : ¬ x = 91 := by simpa using hb5
  repeat tb_rel
  refine sub_strN at' rfl hx (by omega) ?_
  repeat tb_rel
  refine if_b (fun hb => ?_) (fun hb6 => ?_)
  · have hb : x ∈ specials := of_decide_eq_true hb
    repeat tb_rel
    show _ = _
    simp only [itemF, if_neg hb1, hx0, if_neg hb4, itO, itAV, AV.lit, Option.getD_some, if_pos hb]
    rw [if_neg (by simpa using hb2), if_neg (by simpa using hb3), if_neg (by simpa using hb5)]
    rfl
  · have hb6 : ¬ x ∈ specials := of_decide_eq_false hb6
    repeat tb_rel
    refine sub_strN at' rfl hx (by omega) ?_
    repeat tb_rel
    show _ = _
    simp only [itemF, if_neg hb1, hx0, if_neg hb4, itO, itAV, AV.lit, Option.getD_some, if_neg hb6]
    rw [if_neg (by simpa using hb2), if_neg (by simpa using hb3), if_neg (by simpa using hb5)]
    rfl
end Mine
end
section
namespace Mine
set_option maxRecDepth 100000
set_option maxHeartbeats 8000000
noncomputable abbrev Tk := List Nat × It
/-- the pieces of a text, and what each means -/
noncomputable def tkTab : List Tk := [([46], (2, [])), ([97], (1, [97])), ([98], (1, [98])), ([95], (1, [95])), ([67], (1, [67])), ([91, 97, 98, 93], (1, [97, 98])), ([91, 94, 97, 93], (2, [97])), ([40, 63, 33, 41], (1, [])),
  ([91, 95, 67, 93], (1, [95, 67])), ([91, 94, 46, 93], (2, [46])), ([91, 46, 93], (1, [46])), ([92, 36], (1, [36])), ([92, 46], (1, [46]))]
inductive Sy where
  | tk (t : Tk)
  | grp
  | fin
  | cls
noncomputable def rend : Sy → List Nat
  | .tk t => t.1
  | .grp => [40, 63, 62, 46, 42, 63]
  | .fin => [46, 42]
  | .cls => [41]
noncomputable def Sy.ok : Sy → Prop
  | .tk t => t ∈ tkTab
  | _ => True
noncomputable def tailT : List Nat := [41, 92, 90]
noncomputable def rendS (ss : List Sy) : List Nat := ss.flatMap rend ++ tailT
theorem tk_item {t : Tk} (ht : t ∈ tkTab) {text : List Nat} {at' : Nat} {rest : List Nat} (h : text.drop at' = t.1 ++ rest) : itemF text at' = (t.1.length, some t.2) ∧ (text[at']? = some 92 → at' + 1 < text.length) ∧ (text[at']? = some 91 → 93 ∈ text.drop at') := by
  have c0 : chars "(?!)" = [40, 63, 33, 41] := by decide +kernel
  have c5 : chars "[^" = [91, 94] := by decide +kernel
  have csp : specials = [40, 41, 42, 43, 63, 123, 125, 124, 94, 36] := by decide +kernel
  have d : ∀ k, text.drop (at' + k) = (t.1 ++ rest).drop k := fun k => by rw [← h, List.drop_drop]
  have hx : text[at']? = (t.1 ++ rest)[0]? := by rw [← h, List.getElem?_drop]; rfl
  have hlen : text.length - at' = (t.1 ++ rest).length := by rw [← h, List.length_drop]
  unfold itemF closeAt
  rw [d 1, d 2, h, c0, c5, csp, hx]
  simp only [tkTab, List.mem_cons, List.not_mem_nil, or_false] at ht
  rcases ht with rfl | rfl | rfl | rfl | rfl | rfl | rfl | rfl | rfl | rfl | rfl | rfl | rfl <;>
    (simp [List.idxOf_cons] at hlen ⊢; try omega)
/-- what stands first is no star -/
theorem rend_head {s : Sy} (hs : s.ok) : ∃ x r, rend s = x :: r ∧ x ≠ 42 := by
  cases s with
  | tk t =>
    have ht : t ∈ tkTab := hs
    simp only [tkTab, List.mem_cons, List.not_mem_nil, or_false] at ht
    rcases ht with rfl | rfl | rfl | rfl | rfl | rfl | rfl | rfl | rfl | rfl | rfl | rfl | rfl <;> exact ⟨_, _, rfl, by decide⟩
  | _ => exact ⟨_, _, rfl, by decide⟩
theorem rendS_head {ss : List Sy} (hs : ∀ s ∈ ss, s.ok) : ∃ x r, rendS ss = x :: r ∧ x ≠ 42 := by
  cases ss with
  | nil => exact ⟨_, _, rfl, by decide⟩
  | cons s ss =>
    obtain ⟨x, r, e, h⟩ := rend_head (hs s (.head _))
    refine ⟨x, r ++ rendS ss, ?_, h⟩
    unfold rendS; rw [List.flatMap_cons, e]; simp
theorem tk_heads {t : Tk} (ht : t ∈ tkTab) {rest : List Nat} (hr : ∃ x r, rest = x :: r ∧ x ≠ 42) : (t.1 ++ rest).take 6 ≠ [40, 63, 62, 46, 42, 63] ∧ (t.1 ++ rest).take 2 ≠ [46, 42] ∧ (t.1 ++ rest)[0]? ≠ some 41 ∧ 0 < t.1.length := by
  obtain ⟨x, r, rfl, hx⟩ := hr
  simp only [tkTab, List.mem_cons, List.not_mem_nil, or_false] at ht
  rcases ht with rfl | rfl | rfl | rfl | rfl | rfl | rfl | rfl | rfl | rfl | rfl | rfl | rfl <;> simp [hx]
noncomputable def readS : Nat → List (List It) → List It → List Sy → Option (List (List It))
  | st, done, cur, [] => if st = 1 ∨ st = 2 then none else some (done ++ [cur])
  | st, done, cur, .tk t :: r => if st = 2 then none else readS st done (cur ++ [t.2]) r
  | st, done, cur, .grp :: r => if st = 0 ∨ st = 2 then readS 1 (done ++ [cur]) [] r else none
  | st, done, cur, .fin :: r => if st = 0 ∨ st = 2 then readS 3 (done ++ [cur]) [] r else none
  | st, done, cur, .cls :: r => if st = 1 then readS 2 done cur r else none
theorem readS_len : ∀ {ss : List Sy} {st : Nat} {done : List (List It)} {cur : List It} {rows : List (List It)}, readS st done cur ss = some rows → done.length ≤ rows.length ∧ done.length + 1 ≤ ss.length + done.length + 1 ∧ rows.length ≤ done.length + 1 + ss.length
  | [], st, done, cur, rows, h => by
    unfold readS at h
    split at h
    · cases h
    · cases h; simp
  | s :: ss, st, done, cur, rows, h => by
    cases s <;> (unfold readS at h; split at h <;> first | cases h | (have := readS_len h; simp at this ⊢; omega))
theorem rend_len {s : Sy} (hs : s.ok) : (rend s).length ≤ 6 ∧ 0 < (rend s).length := by
  cases s with
  | tk t =>
    have ht : t ∈ tkTab := hs
    simp only [tkTab, List.mem_cons, List.not_mem_nil, or_false] at ht
    rcases ht with rfl | rfl | rfl | rfl | rfl | rfl | rfl | rfl | rfl | rfl | rfl | rfl | rfl <;> simp [rend]
  | _ => simp [rend]
theorem rendS_len : ∀ {ss : List Sy}, (∀ s ∈ ss, s.ok) → (rendS ss).length ≤ 6 * ss.length + 3 ∧ 3 ≤ (rendS ss).length ∧ (ss ≠ [] → 3 < (rendS ss).length)
  | [], _ => by simp [rendS, tailT]
  | s :: ss, h => by
    have h1 := rend_len (h s (.head _))
    have h2 := rendS_len fun s hs => h s (.tail _ hs)
    have e : rendS (s :: ss) = rend s ++ rendS ss := by unfold rendS; rw [List.flatMap_cons, List.append_assoc]
    rw [e, List.length_append, List.length_cons]
    refine ⟨by omega, by omega, fun _ => by omega⟩
theorem rendS_cons (s : Sy) (ss : List Sy) : rendS (s :: ss) = rend s ++ rendS ss := by unfold rendS; rw [List.flatMap_cons, List.append_assoc]
theorem law_read {W : Wd} (hp : PF W) (ss : List Sy) (hok : ∀ s ∈ ss, s.ok) (hlen : ss.length ≤ 500) (rows : List (List It)) (hr : readS 0 [] [] ss = some rows) (text : List Nat) (htext : text = [40, 63, 115, 58] ++ rendS ss) : Fc W true 2 (.ref 133) [.str text] (fun r => r = rowsAV rows) := by
  refine' Fc.introK hp ["text"] ["rows", "state", "at", "end", "size", "item"] ["len", "_law_item"] ?ho ?hc ?bd (bind1 ?hb) ?pl ?gg ?nd ?nk ?gk ?cell rfl ?body
  case ho => k_is
  case bd => (conv => lhs; whnf; arg 1; whnf) <;> rfl
  case hc => kernel_rfl
  case pl => exact ⟨rfl, rfl, rfl⟩
  case gg => exact ⟨rfl, rfl⟩
  case hb => intro u; rfl
  case nd => decide +kernel
  case nk => decide +kernel
  case gk => decide +kernel
  case cell => decide +kernel
  case body =>
  intro c hW hn hg hq hl
  subst hW
  have n0 : c.names[0]? = some ("text" : Str) := by rw [hn]; rfl
  have n1 : c.names[1]? = some ("rows" : Str) := by rw [hn]; rfl
  have n2 : c.names[2]? = some ("state" : Str) := by rw [hn]; rfl
  have n3 : c.names[3]? = some ("at" : Str) := by rw [hn]; rfl
  have n4 : c.names[4]? = some ("end" : Str) := by rw [hn]; rfl
  have n5 : c.names[5]? = some ("size" : Str) := by rw [hn]; rfl
  have n6 : c.names[6]? = some ("item" : Str) := by rw [hn]; rfl
  have g0 : ("len" : Str) ∈ c.gl := by rw [hg]; decide +kernel
  have v0 := gf_len hp
  have kv0 : KeptV c.W (.builtin "len") := trivial
  have g1 : ("_law_item" : Str) ∈ c.gl := by rw [hg]; decide +kernel
  have v1 := (gf__law_item hp).1
  have kv1 := (gf__law_item hp).2
  clear hn hg
  have hL := rendS_len hok
  have htl : text.length = 4 + (rendS ss).length := by rw [htext]; simp; omega
  have htb : text.length ≤ 4000 := by omega
  have cA : chars "(?s:" = [40, 63, 115, 58] := by decide +kernel
  have cB : chars ")\\Z" = [41, 92, 90] := by decide +kernel
  have cC : chars "(?>.*?" = [40, 63, 62, 46, 42, 63] := by decide +kernel
  have cD : chars ".*" = [46, 42] := by decide +kernel
  have cE : chars ")" = [41] := by decide +kernel
  have eT : text.drop (text.length - 3) = [41, 92, 90] := by
    have e : text = ([40, 63, 115, 58] ++ ss.flatMap rend) ++ [41, 92, 90] := by rw [htext]; unfold rendS tailT; simp
    rw [e, List.length_append]
    exact List.drop_left' (by simp)
  have e1 : pyS text none (some 4) = [40, 63, 115, 58] := by
    unfold pyS
    simp only [Option.elim_none, Option.elim_some, List.drop_zero, Nat.sub_zero]
    rw [show (4 : Int) = ((4 : Nat) : Int) from rfl, clip_nat, Nat.min_eq_left (by omega), htext]; rfl
  have e2 : pyS text (some (((text.length - 3 : Nat)) : Int)) none = [41, 92, 90] := by
    unfold pyS
    simp only [Option.elim_none, Option.elim_some]
    rw [clip_nat, Nat.min_eq_left (by omega), eT, List.take_of_length_le (by simp; omega)]
  have e3 : ((text.length : Int) - 3) = ((text.length - 3 : Nat) : Int) := by omega
  repeat tb_rel
  refine te_listM ?_ (by rfl)
  repeat tb_rel
  refine te_listM ?_ (by rfl)
  repeat tb_rel
  intro q _
  repeat tb_rel
  intro p hpq
  have hpq : q ≠ p := hpq _ (.head _)
  repeat tb_rel
  rw [e1, cA]
  refine if_f' (by simp) ?_
  repeat tb_rel
  rw [e3, e2, cB]
  refine if_f' (by simp) ?_
  repeat tb_rel
  refine ts_while' (fun n a => ∃ (done : List (List It)) (cur : List It) (st : Nat) (rem : List Sy) (pre : List Nat) (p q : Addr) (sz it : Option AV), text = pre ++ rendS rem ∧ (∀ s ∈ rem, s.ok) ∧ readS st done cur rem = some rows ∧ n = rem.length ∧ p ≠ q ∧ st ≤ 3 ∧ done.length + cur.length + rem.length ≤ 500 ∧
    a = ⟨[some (.str text), some (.val (.ref p)), some (.int (st : Nat)), some (.int (pre.length : Nat)), some (.int ((text.length - 3 : Nat) : Int)), sz, it], [], [(p, done.map rowAV ++ [.val (.ref q)]), (q, cur.map itAV)]⟩) ss.length
    ⟨[], [], 0, ss, [40, 63, 115, 58], p, q, none, none, htext, hok, hr, rfl, Ne.symm hpq, by decide, by simp; omega, rfl⟩ ?_
  clear hr hpq hok hL htl htext
  rintro n a ⟨done, cur, st, rem, pre, p, q, sz, it, hcut, hok2, hrd, rfl, hpq, hst, hb, rfl⟩
  have hR := rendS_len hok2
  have hplen : text.length = pre.length + (rendS rem).length := by rw [hcut]; simp
  have hdrop : text.drop pre.length = rendS rem := by rw [hcut]; simp
  have s6 : pyS text (some (pre.length : Int)) (some ((pre.length : Int) + 6)) = (rendS rem).take 6 := by rw [← hdrop]; exact pyS_at text pre.length 6 (by omega)
  have s2 : pyS text (some (pre.length : Int)) (some ((pre.length : Int) + 2)) = (rendS rem).take 2 := by rw [← hdrop]; exact pyS_at text pre.length 2 (by omega)
  have hx0 : text[pre.length]? = (rendS rem)[0]? := by rw [← hdrop, List.getElem?_drop]; rfl
  cases rem with
  | nil =>
    have hend : text.length - 3 = pre.length := by rw [hplen]; simp [rendS, tailT]
    repeat tb_rel
    refine if_f' (by simp; omega) ?_
    unfold readS at hrd
    split at hrd
    · cases hrd
    rename_i hst12
    have e : rows = done ++ [cur] := (Option.some.inj hrd).symm
    refine tss_view (a' := ⟨[some (.str text), some (.val (.ref p)), some (.int (st : Nat)), some (.int (pre.length : Nat)), some (.int ((text.length - 3 : Nat) : Int)), sz, it], [], [(p, done.map rowAV ++ [rowAV cur])]⟩)
      (fz_view (p := q) (l := cur.map itAV) (.tail _ (.head _)) FzO.refl FzO.refl (.cons (FzL.append (FzL.refl _) (.cons (.inr ⟨rfl, rfl⟩) .nil)) (.here .nil)) (by simpa using Ne.symm hpq)) ?_
    refine tss_view (a' := ⟨[some (.str text), some (.lst (done.map rowAV ++ [rowAV cur])), some (.int (st : Nat)), some (.int (pre.length : Nat)), some (.int ((text.length - 3 : Nat) : Int)), sz, it], [], []⟩)
      (fz_view (p := p) (l := done.map rowAV ++ [rowAV cur]) (.head _) (.same (.cons (.inr ⟨rfl, rfl⟩) FzO.refl)) FzO.refl (.here .nil) (by simp)) ?_
    repeat tb_rel
    refine if_f' (by simp; omega) ?_
    repeat tb_rel
    show _ = _
    rw [e]; simp
  | cons s rem =>
    have hlt : pre.length < text.length - 3 := by have := hR.2.2 (by simp); omega
    have hok3 : ∀ s ∈ rem, s.ok := fun s hs => hok2 s (.tail _ hs)
    have hs0 := hok2 s (.head _)
    repeat tb_rel
    refine if_t' (by simp; omega) ?_
    cases s with
    | grp =>
      have hrd' : (st = 0 ∨ st = 2) ∧ readS 1 (done ++ [cur]) [] rem = some rows := by
        unfold readS at hrd
        split at hrd
        · exact ⟨by assumption, hrd⟩
        · cases hrd
      obtain ⟨hst02, hrd'⟩ := hrd'
      rw [rendS_cons] at s6 s2 hx0 hdrop
      have k6 : (rend .grp ++ rendS rem).take 6 = [40, 63, 62, 46, 42, 63] := rfl
      repeat tb_rel
      refine if_t' (by rcases hst02 with rfl | rfl <;> decide) ?_
      repeat tb_rel
      rw [s6, k6, cC]
      refine if_t' (by decide) ?_
      repeat tb_rel
      refine te_meth "list" "list.append" PySem.F.plainAttrs_list slot_list_append type_list_append ?_
      repeat tb_rel
      refine ⟨.mem (.head _), ?_⟩
      repeat tb_rel
      refine te_listM ?_ (by rfl)
      repeat tb_rel
      intro q' hq'
      have hq1 : p ≠ q' := hq' (p, done.map rowAV ++ [.val (.ref q)]) (.head _)
      have hq2 : q ≠ q' := hq' (q, cur.map itAV) (.tail _ (.head _))
      repeat tb_rel
      refine tc_append (.tail .head) (by simp; omega) ?_
      refine nr_none ?_
      refine at_next ?_
      refine tss_view (a' := ⟨[some (.str text), some (.val (.ref p)), some (.int (st : Nat)), some (.int (pre.length : Nat)), some (.int ((text.length - 3 : Nat) : Int)), sz, it], [], [(q', []), (p, (done ++ [cur]).map rowAV ++ [.val (.ref q')])]⟩)
        (fz_view (p := q) (l := cur.map itAV) (.tail _ (.tail _ (.head _))) FzO.refl FzO.refl (.cons (FzL.refl _) (.cons (by rw [List.map_append]; exact FzL.append (FzL.append (FzL.refl _) (.cons (.inr ⟨rfl, rfl⟩) .nil)) (FzL.refl _)) (.here .nil))) (by simp; exact ⟨hq2, Ne.symm hpq⟩)) ?_
      refine tss_view (a' := ⟨[some (.str text), some (.val (.ref p)), some (.int (st : Nat)), some (.int (pre.length : Nat)), some (.int ((text.length - 3 : Nat) : Int)), sz, it], [], [(p, (done ++ [cur]).map rowAV ++ [.val (.ref q')]), (q', [])]⟩)
        (perm_view rfl rfl (.swap _ _ _)) ?_
      refine tss_cons ?_
      refine ts_swap2 2 3 n2 n3 (sw_of (by decide +kernel) (by rfl) (by rfl) (by rfl) (by rfl)) ?_
      repeat tb_rel
      refine ⟨rem.length, by simp, done ++ [cur], [], 1, rem, pre ++ rend .grp, p, q', sz, it, by rw [hcut, rendS_cons, List.append_assoc], hok3, hrd', rfl, hq1, by decide, by simp at hb ⊢; omega, ?_⟩
      simp [rend]
    | fin =>
      have hrd' : (st = 0 ∨ st = 2) ∧ readS 3 (done ++ [cur]) [] rem = some rows := by
        unfold readS at hrd
        split at hrd
        · exact ⟨by assumption, hrd⟩
        · cases hrd
      obtain ⟨hst02, hrd'⟩ := hrd'
      rw [rendS_cons] at s6 s2 hx0 hdrop
      have k6 : (rend .fin ++ rendS rem).take 6 ≠ [40, 63, 62, 46, 42, 63] := by simp [rend]
      have k2 : (rend .fin ++ rendS rem).take 2 = [46, 42] := rfl
      repeat tb_rel
      refine if_t' (by rcases hst02 with rfl | rfl <;> decide) ?_
      repeat tb_rel
      rw [s6, cC]
      refine if_f' (by simpa using k6) ?_
      repeat tb_rel
      refine if_t' (by rcases hst02 with rfl | rfl <;> decide) ?_
      repeat tb_rel
      rw [s2, k2, cD]
      refine if_t' (by decide) ?_
      repeat tb_rel
      refine te_meth "list" "list.append" PySem.F.plainAttrs_list slot_list_append type_list_append ?_
      repeat tb_rel
      refine ⟨.mem (.head _), ?_⟩
      repeat tb_rel
      refine te_listM ?_ (by rfl)
      repeat tb_rel
      intro q' hq'
      have hq1 : p ≠ q' := hq' (p, done.map rowAV ++ [.val (.ref q)]) (.head _)
      have hq2 : q ≠ q' := hq' (q, cur.map itAV) (.tail _ (.head _))
      repeat tb_rel
      refine tc_append (.tail .head) (by simp; omega) ?_
      refine nr_none ?_
      refine at_next ?_
      refine tss_view (a' := ⟨[some (.str text), some (.val (.ref p)), some (.int (st : Nat)), some (.int (pre.length : Nat)), some (.int ((text.length - 3 : Nat) : Int)), sz, it], [], [(q', []), (p, (done ++ [cur]).map rowAV ++ [.val (.ref q')])]⟩)
        (fz_view (p := q) (l := cur.map itAV) (.tail _ (.tail _ (.head _))) FzO.refl FzO.refl (.cons (FzL.refl _) (.cons (by rw [List.map_append]; exact FzL.append (FzL.append (FzL.refl _) (.cons (.inr ⟨rfl, rfl⟩) .nil)) (FzL.refl _)) (.here .nil))) (by simp; exact ⟨hq2, Ne.symm hpq⟩)) ?_
      refine tss_view (a' := ⟨[some (.str text), some (.val (.ref p)), some (.int (st : Nat)), some (.int (pre.length : Nat)), some (.int ((text.length - 3 : Nat) : Int)), sz, it], [], [(p, (done ++ [cur]).map rowAV ++ [.val (.ref q')]), (q', [])]⟩)
        (perm_view rfl rfl (.swap _ _ _)) ?_
      refine tss_cons ?_
      refine ts_swap2 2 3 n2 n3 (sw_of (by decide +kernel) (by rfl) (by rfl) (by rfl) (by rfl)) ?_
      repeat tb_rel
      refine ⟨rem.length, by simp, done ++ [cur], [], 3, rem, pre ++ rend .fin, p, q', sz, it, by rw [hcut, rendS_cons, List.append_assoc], hok3, hrd', rfl, hq1, by decide, by simp at hb ⊢; omega, ?_⟩
      simp [rend]
    | cls =>
      have hrd' : st = 1 ∧ readS 2 done cur rem = some rows := by
        unfold readS at hrd
        split at hrd
        · exact ⟨by assumption, hrd⟩
        · cases hrd
      obtain ⟨rfl, hrd'⟩ := hrd'
      rw [rendS_cons] at s6 s2 hx0 hdrop
      have hx : text[pre.length]? = some 41 := by rw [hx0]; rfl
      repeat tb_rel
      refine sub_strN pre.length rfl hx (by omega) ?_
      repeat tb_rel
      refine ts_swap2 2 3 n2 n3 (sw_of (by decide +kernel) (by rfl) (by rfl) (by rfl) (by rfl)) ?_
      repeat tb_rel
      refine ⟨rem.length, by simp, done, cur, 2, rem, pre ++ rend .cls, p, q, sz, it, by rw [hcut, rendS_cons, List.append_assoc], hok3, hrd', rfl, hpq, by decide, by simp at hb ⊢; omega, ?_⟩
      simp [rend]
    | tk t =>
      have ht : t ∈ tkTab := hs0
      have hhd := tk_heads ht (rendS_head hok3)
      rw [rendS_cons] at s6 s2 hx0 hdrop
      have hit := tk_item ht hdrop
      have hrd' : st ≠ 2 ∧ readS st done (cur ++ [t.2]) rem = some rows := by
        unfold readS at hrd
        split at hrd
        · cases hrd
        · exact ⟨by assumption, hrd⟩
      obtain ⟨hst2, hrd'⟩ := hrd'
      obtain ⟨x, hx⟩ : ∃ x, text[pre.length]? = some x := ⟨_, List.getElem?_eq_getElem (by omega)⟩
      have hx41 : x ≠ 41 := fun e => hhd.2.2.1 (by rw [← e, ← hx, hx0]; rfl)
      have hst3 : st = 0 ∨ st = 1 ∨ st = 3 := by omega
      rcases hst3 with rfl | rfl | rfl
      · repeat tb_rel
        rw [s6, cC]
        refine if_f' (by simpa [rend] using hhd.1) ?_
        repeat tb_rel
        rw [s2, cD]
        refine if_f' (by simpa [rend] using hhd.2.1) ?_
        repeat tb_rel
        refine tc_fn (law_item hp text pre.length (by omega) (by omega) hit.2.1 hit.2.2) (fun _ => rfl) (by omega) (fun r hr => ?_)
        subst hr
        rw [hit.1]
        repeat tb_rel
        refine if_f' (by simp [itO, itAV, AV.isNone]) ?_
        repeat tb_rel
        refine te_meth "list" "list.append" PySem.F.plainAttrs_list slot_list_append type_list_append ?_
        repeat tb_rel
        refine sub_memL (.head _) ?_
        refine ⟨.mem (.tail _ (.head _)), ?_⟩
        repeat tb_rel
        refine tc_append (.tail .head) (by simp; omega) ?_
        repeat tb_rel
        refine ⟨rem.length, by simp, done, cur ++ [t.2], 0, rem, pre ++ t.1, p, q, some (.int t.1.length), some (itAV t.2), by rw [hcut, rendS_cons]; simp [rend], fun s hs => hok2 s (.tail _ hs), hrd', rfl, hpq, by simp, by simp at hb ⊢; omega, ?_⟩
        simp [itO]
      · repeat tb_rel
        refine sub_strN pre.length rfl hx (by omega) ?_
        repeat tb_rel
        rw [cE]
        refine if_f' (by simpa using hx41) ?_
        repeat tb_rel
        refine tc_fn (law_item hp text pre.length (by omega) (by omega) hit.2.1 hit.2.2) (fun _ => rfl) (by omega) (fun r hr => ?_)
        subst hr
        rw [hit.1]
        repeat tb_rel
        refine if_f' (by simp [itO, itAV, AV.isNone]) ?_
        repeat tb_rel
        refine te_meth "list" "list.append" PySem.F.plainAttrs_list slot_list_append type_list_append ?_
        repeat tb_rel
        refine sub_memL (.head _) ?_
        refine ⟨.mem (.tail _ (.head _)), ?_⟩
        repeat tb_rel
        refine tc_append (.tail .head) (by simp; omega) ?_
        repeat tb_rel
        refine ⟨rem.length, by simp, done, cur ++ [t.2], 1, rem, pre ++ t.1, p, q, some (.int t.1.length), some (itAV t.2), by rw [hcut, rendS_cons]; simp [rend], fun s hs => hok2 s (.tail _ hs), hrd', rfl, hpq, by simp, by simp at hb ⊢; omega, ?_⟩
        simp [itO]
      · repeat tb_rel
        refine tc_fn (law_item hp text pre.length (by omega) (by omega) hit.2.1 hit.2.2) (fun _ => rfl) (by omega) (fun r hr => ?_)
        subst hr
        rw [hit.1]
        repeat tb_rel
        refine if_f' (by simp [itO, itAV, AV.isNone]) ?_
        repeat tb_rel
        refine te_meth "list" "list.append" PySem.F.plainAttrs_list slot_list_append type_list_append ?_
        repeat tb_rel
        refine sub_memL (.head _) ?_
        refine ⟨.mem (.tail _ (.head _)), ?_⟩
        repeat tb_rel
        refine tc_append (.tail .head) (by simp; omega) ?_
        repeat tb_rel
        refine ⟨rem.length, by simp, done, cur ++ [t.2], 3, rem, pre ++ t.1, p, q, some (.int t.1.length), some (itAV t.2), by rw [hcut, rendS_cons]; simp [rend], fun s hs => hok2 s (.tail _ hs), hrd', rfl, hpq, by simp, by simp at hb ⊢; omega, ?_⟩
        simp [itO]
end Mine
end
section
namespace Mine
set_option maxRecDepth 100000
set_option maxHeartbeats 8000000
noncomputable def seekB (row : List It) (name : List Nat) (at' : Nat) : Option Nat := (List.range (name.length + 1)).find? fun k => decide (at' ≤ k) && fitsB row name k
theorem seekB_some {row : List It} {name : List Nat} {at' k : Nat} (h1 : at' ≤ k) (h2 : k ≤ name.length) (h3 : fitsB row name k = true) (h4 : ∀ j, at' ≤ j → j < k → fitsB row name j = false) : seekB row name at' = some k := by
  unfold seekB
  rw [List.find?_range_eq_some]
  refine ⟨?_, by simp; omega, fun j hj => ?_⟩
  · simp [h1, h3]
  · by_cases h : at' ≤ j
    · simp [h4 j h hj]
    · simp [h]
theorem seekB_none {row : List It} {name : List Nat} {at' : Nat} (h4 : ∀ j, at' ≤ j → j ≤ name.length → fitsB row name j = false) : seekB row name at' = none := by
  unfold seekB
  rw [List.find?_range_eq_none]
  intro j hj
  by_cases h : at' ≤ j
  · simp [h4 j h (by omega)]
  · simp [h]
noncomputable def midB : List (List It) → List Nat → Nat → Option Nat
  | [], _, at' => some at'
  | r :: rs, name, at' => match seekB r name at' with | none => none | some k => midB rs name (k + r.length)
theorem midB_snoc (r : List It) (name : List Nat) : ∀ (rs : List (List It)) (at' : Nat), midB (rs ++ [r]) name at' = match midB rs name at' with | none => none | some k => (match seekB r name k with | none => none | some k => some (k + r.length))
  | [], at' => by simp [midB]
  | x :: rs, at' => by
    show (match seekB x name at' with | none => none | some k => midB (rs ++ [r]) name (k + x.length)) = _
    simp only [midB]
    cases seekB x name at' with
    | none => rfl
    | some k => exact midB_snoc r name rs _
theorem midB_fail {name : List Nat} {rs rs' : List (List It)} {at' : Nat} (h : midB rs name at' = none) : midB (rs ++ rs') name at' = none := by
  induction rs generalizing at' with
  | nil => simp [midB] at h
  | cons x rs ih =>
    rw [List.cons_append]
    unfold midB at h ⊢
    cases hs : seekB x name at' with
    | none => rfl
    | some k => rw [hs] at h; exact ih h
noncomputable def takesB (rows : List (List It)) (name : List Nat) : Bool := match rows with
  | [] => false
  | [r] => decide (r.length = name.length) && fitsB r name 0
  | r0 :: r1 :: rest => fitsB r0 name 0 && (match midB ((r1 :: rest).dropLast) name r0.length with
    | none => false
    | some at' => decide (at' + ((r1 :: rest).getLast (by simp)).length ≤ name.length) && fitsB ((r1 :: rest).getLast (by simp)) name (name.length - ((r1 :: rest).getLast (by simp)).length))
theorem pyS_mid {α : Type} (x : α) (xs : List α) : pyS (x :: xs) (some 1) (some (-1)) = xs.dropLast := by
  unfold pyS clipAt
  simp only [Option.elim_some, List.length_cons]
  have e1 : (max 0 (min (if (1 : Int) < 0 then (1 : Int) + ((xs.length + 1 : Nat) : Int) else 1) ((xs.length + 1 : Nat) : Int))).toNat = 1 := by rw [if_neg (by decide)]; omega
  have e2 : (max 0 (min (if (-1 : Int) < 0 then (-1 : Int) + ((xs.length + 1 : Nat) : Int) else -1) ((xs.length + 1 : Nat) : Int))).toNat = xs.length := by rw [if_pos (by decide)]; omega
  rw [e1, e2, List.drop_succ_cons, List.drop_zero, List.dropLast_eq_take]
theorem fitsB_le {row : List It} {name : List Nat} {k : Nat} (h : fitsB row name k = true) : k + row.length ≤ name.length := by
  unfold fitsB at h
  simp only [Bool.and_eq_true, decide_eq_true_eq] at h
  exact h.1
theorem law_takes {W : Wd} (hp : PF W) (rows : List (List It)) (name : List Nat) (h0 : rows ≠ []) (h1 : rows.length ≤ 1000) (h2 : ∀ r ∈ rows, r.length ≤ 1000) (h3 : name.length ≤ 1000) : Fc W true 2 (.ref 147) [rowsAV rows, .str name] (fun r => r = .bool (takesB rows name)) := by
  refine' Fc.introK hp ["rows", "name"] ["at", "row", "last"] ["len", "_law_fits"] ?ho ?hc ?bd (bind2 ?hb) ?pl ?gg ?nd ?nk ?gk ?cell rfl ?body
  case ho => k_is
  case bd => (conv => lhs; whnf; arg 1; whnf) <;> rfl
  case hc => kernel_rfl
  case pl => exact ⟨rfl, rfl, rfl⟩
  case gg => exact ⟨rfl, rfl⟩
  case hb => intro u v; rfl
  case nd => decide +kernel
  case nk => decide +kernel
  case gk => decide +kernel
  case cell => decide +kernel
  case body =>
  intro c hW hn hg hq hl
  subst hW
  have n0 : c.names[0]? = some ("rows" : Str) := by rw [hn]; rfl
  have n1 : c.names[1]? = some ("name" : Str) := by rw [hn]; rfl
  have n2 : c.names[2]? = some ("at" : Str) := by rw [hn]; rfl
  have n3 : c.names[3]? = some ("row" : Str) := by rw [hn]; rfl
  have n4 : c.names[4]? = some ("last" : Str) := by rw [hn]; rfl
  have g0 : ("len" : Str) ∈ c.gl := by rw [hg]; decide +kernel
  have v0 := gf_len hp
  have kv0 : KeptV c.W (.builtin "len") := trivial
  have g1 : ("_law_fits" : Str) ∈ c.gl := by rw [hg]; decide +kernel
  have v1 := (gf__law_fits hp).1
  have kv1 := (gf__law_fits hp).2
  clear hn hg
  obtain ⟨r0, rest, rfl⟩ := List.exists_cons_of_ne_nil h0
  have hr0 := h2 r0 (by simp)
  repeat tb_rel
  refine if_d (fun h => ?_) (fun h => ?_)
  · have hr : rest = [] := by simp at h; exact List.length_eq_zero_iff.mp (by omega)
    subst hr
    repeat tb_rel
    refine if_d (fun h => ?_) (fun h => ?_)
    · repeat tb_rel
      refine tc_fn (law_fits hp r0 name 0 hr0 h3) (fun _ => rfl) (by omega) (fun r hr => ?_)
      subst hr
      repeat tb_rel
      show _ = _
      have h : r0.length = name.length := by simp at h; omega
      simp [takesB, h]
    · repeat tb_rel
      show _ = _
      simp at h
      have : ¬ (r0.length = name.length) := by omega
      simp [takesB, this]; omega
  · have hrest : rest ≠ [] := fun e => by subst e; simp at h
    obtain ⟨r1, rest, rfl⟩ := List.exists_cons_of_ne_nil hrest
    repeat tb_rel
    refine tc_fn (law_fits hp r0 name 0 hr0 h3) (fun _ => rfl) (by omega) (fun r hr => ?_)
    subst hr
    repeat tb_rel
    refine if_b (fun hb => ?_) (fun hb => ?_)
    · have hb : fitsB r0 name 0 = false := by simpa using hb
      repeat tb_rel
      show _ = _
      simp [takesB, hb]
    have hb : fitsB r0 name 0 = true := by simpa using hb
    repeat tb_rel
    have hb' := fitsB_le hb
    refine ts_for_l (fun i a => ∃ at' x, midB ((r1 :: rest).dropLast.take i) name r0.length = some at' ∧ at' ≤ name.length ∧ a = ⟨[some (rowsAV (r0 :: r1 :: rest)), some (.str name), some (.int (at' : Nat)), x, none], [], []⟩) (r1 :: rest).dropLast rowAV (by simp at h1 ⊢; omega) ?_ ?_ ?_
    · repeat tb_rel
      refine ⟨by rw [show List.map rowAV (r0 :: r1 :: rest) = rowAV r0 :: List.map rowAV (r1 :: rest) from rfl, pyS_mid, List.map_dropLast], r0.length, none, rfl, by omega, ?_⟩
      simp [AS.start]
    · rintro i row a hi ⟨at', x, hmid, hle, rfl⟩
      have hrow : row.length ≤ 1000 := h2 row (.tail _ (List.dropLast_subset _ (List.mem_of_getElem? hi)))
      have htake : (r1 :: rest).dropLast.take (i + 1) = (r1 :: rest).dropLast.take i ++ [row] := by rw [List.take_add_one, hi]; rfl
      repeat tb_rel
      refine ts_while' (fun n a => ∃ k, at' ≤ k ∧ k ≤ name.length + 1 ∧ n = name.length + 1 - k ∧ (∀ j, at' ≤ j → j < k → fitsB row name j = false) ∧ a = ⟨[some (rowsAV (r0 :: r1 :: rest)), some (.str name), some (.int (k : Nat)), some (rowAV row), none], [], []⟩) (name.length + 1 - at') ⟨at', Nat.le_refl _, by omega, rfl, fun j h1 h2 => by omega, rfl⟩ ?_
      rintro n a ⟨k, hk1, hk2, rfl, hk3, rfl⟩
      repeat tb_rel
      refine if_d (fun hle1 => ?_) (fun hgt => ?_)
      · repeat tb_rel
        refine tc_fn (law_fits hp row name k hrow h3) (fun _ => rfl) (by omega) (fun r hr => ?_)
        subst hr
        repeat tb_rel
        refine if_b (fun hf => ?_) (fun hf => ?_)
        · have hf : fitsB row name k = false := by simpa using hf
          repeat tb_rel
          refine ⟨name.length + 1 - (k + 1), by omega, k + 1, by omega, by omega, rfl, fun j h1 h2 => ?_, rfl⟩
          by_cases hj : j < k
          · exact hk3 j h1 hj
          · rw [show j = k by omega]; exact hf
        · have hf : fitsB row name k = true := by simpa using hf
          have hs := seekB_some hk1 (by omega) hf hk3
          have hfl := fitsB_le hf
          repeat tb_rel
          refine if_d (fun hgt => by omega) (fun _ => ?_)
          repeat tb_rel
          refine ⟨k + row.length, some (rowAV row), by rw [htake, midB_snoc, hmid]; simp only [hs], by omega, ?_⟩
          simp
      · repeat tb_rel
        refine if_d (fun _ => ?_) (fun hle1 => by omega)
        repeat tb_rel
        show _ = _
        have hs : seekB row name at' = none := seekB_none fun j h1 h2 => hk3 j h1 (by omega)
        have hm : midB (r1 :: rest).dropLast name r0.length = none := by
          have e : (r1 :: rest).dropLast = (r1 :: rest).dropLast.take (i + 1) ++ (r1 :: rest).dropLast.drop (i + 1) := (List.take_append_drop ..).symm
          rw [e]
          refine midB_fail ?_
          rw [htake, midB_snoc, hmid]; simp only [hs]
        simp only [takesB, hm, Bool.and_false]
    · rintro a ⟨at', x, hmid, hle, rfl⟩
      rw [List.take_of_length_le (Nat.le_refl _)] at hmid
      have hlast := List.dropLast_concat_getLast (l := r1 :: rest) (by simp)
      generalize hL : (r1 :: rest).getLast (by simp) = lastrow at hlast
      have hrows : r0 :: r1 :: rest = (r0 :: (r1 :: rest).dropLast) ++ [lastrow] := by rw [List.cons_append, hlast]
      have hlr : lastrow.length ≤ 1000 := h2 lastrow (by rw [hrows]; simp)
      have e : rowsAV (r0 :: r1 :: rest) = AV.lst (((r0 :: (r1 :: rest).dropLast).map rowAV) ++ [rowAV lastrow]) := by unfold rowsAV; rw [hrows]; simp
      rw [e]
      repeat tb_rel
      refine sub_lstL ?_
      repeat tb_rel
      have key : takesB (r0 :: r1 :: rest) name = (decide (at' + lastrow.length ≤ name.length) && fitsB lastrow name (name.length - lastrow.length)) := by
        simp only [takesB, hb, hmid, hL, Bool.true_and]
      rw [key]
      refine if_d (fun hge => ?_) (fun hlt => ?_)
      · have hge : at' + lastrow.length ≤ name.length := by simp at hge; omega
        repeat tb_rel
        refine sub_lstL ?_
        repeat tb_rel
        have e2 : (AV.int ((name.length : Int) - ((lastrow.map itAV).length : Int))) = .int ((name.length - lastrow.length : Nat) : Int) := by
          congr 1; simp; omega
        rw [e2]
        refine tc_fn (law_fits hp lastrow name (name.length - lastrow.length) hlr h3) (fun _ => rfl) (by omega) (fun r hr => ?_)
        subst hr
        repeat tb_rel
        show _ = _
        simp [hge]
      · repeat tb_rel
        show _ = _
        have : ¬ (at' + lastrow.length ≤ name.length) := by simp at hlt; omega
        simp [this]; simp at hlt; omega
end Mine
end
section
namespace Mine
set_option maxRecDepth 100000
set_option maxHeartbeats 2000000
section
variable {c : Cx} {a : AS} {K : AV → AS → Prop}
theorem op_modE {i j : Int} (r : Nat) (hr : i.fmod j = (r : Int)) (hj : j ≠ 0) (h : K (.int (r : Int)) a) : T2 c a (.int i) (.int j) (binaryOp .Mod) K := op_mod hj (by rw [hr]; exact h)
theorem op_divE {i j : Int} (r : Nat) (hr : i.fdiv j = (r : Int)) (hj : j ≠ 0) (hs : j.natAbs < 1073741824) (h : K (.int (r : Int)) a) : T2 c a (.int i) (.int j) (binaryOp .FloorDiv) K := op_div hj hs (by rw [hr]; exact h)
end
theorem fmodN (n k : Nat) : (n : Int).fmod (k : Int) = ((n % k : Nat) : Int) := by
  rw [Int.fmod_eq_emod_of_nonneg _ (by omega)]; omega
theorem fdivN (n k : Nat) : (n : Int).fdiv (k : Int) = ((n / k : Nat) : Int) := by
  rw [Int.fdiv_eq_ediv_of_nonneg _ (by omega)]; omega
noncomputable abbrev R3 := List Nat × Int × List Nat
noncomputable abbrev r3AV (x : R3) : AV := .tup [.str x.1, .int x.2.1, .str x.2.2]
noncomputable def tab : List R3 := [(chars "*", 0, chars ""), (chars "?", 2, chars ""), (chars "a", 1, chars "a"), (chars "b", 1, chars "b"), (chars "_", 1, chars "_"), (chars "C", 1, chars "C"), (chars "[ab]", 1, chars "ab"), (chars "[!a]", 2, chars "a"), (chars "[b-a]", 1, chars ""), (chars "[!b-a]", 2, chars ""), (chars "[_b-aC]", 1, chars "_C"), (chars "[!.]", 2, chars "."), (chars "[.]", 1, chars "."), (chars "$", 1, chars "$"), (chars "*", 0, chars ""), (chars "*", 0, chars "")]
noncomputable abbrev itemsAV (l : List R3) : AV := .lst (l.map r3AV)
noncomputable def optAV {α : Type} (f : α → AV) : Option α → AV
  | none => .none
  | some x => f x
theorem law_table {W : Wd} (hp : PF W) : Fc W true 1 (.ref 83) [] (fun r => r = itemsAV tab) := by
  refine' Fc.introK hp [] [] [] ?ho ?hc ?bd (bind0 ?hb) ?pl ?gg ?nd ?nk ?gk ?cell rfl ?body
  case ho => k_is
  case bd => (conv => lhs; whnf; arg 1; whnf) <;> rfl
  case hc => kernel_rfl
  case pl => exact ⟨rfl, rfl, rfl⟩
  case gg => exact ⟨rfl, rfl⟩
  case hb => rfl
  case nd => decide +kernel
  case nk => decide +kernel
  case gk => decide +kernel
  case cell => decide +kernel
  case body =>
  intro c hW hn hg hq hl
  subst hW
  clear hn hg
  repeat tb_rel
  with_reducible refine te_listF ?_ (by with_unfolding_all rfl)
  repeat tb_rel
  show _ = _
  simp only [itemsAV, tab, List.map_cons, List.map_nil, r3AV, AV.lit]
noncomputable def at3 (l : Nat) : R3 := tab[l % 16]?.getD ([], 0, [])
theorem at3_get (l : Nat) : (tab.map r3AV)[l % 16]? = some (r3AV (at3 l)) := by
  have h : l % 16 < tab.length := Nat.mod_lt _ (by decide)
  unfold at3
  rw [List.getElem?_map, List.getElem?_eq_getElem h]; rfl
noncomputable def itemsP (n : Nat) : Option (List R3) := if n % 5 = 4 then none else some ([at3 (n / 5), at3 (n / 5 / 16), at3 (n / 5 / 256)].take (n % 5))
theorem pyS_upto {α : Type} (l : List α) (k : Nat) : pyS l none (some (k : Int)) = l.take k := by
  unfold pyS
  simp only [Option.elim_none, Option.elim_some, List.drop_zero, Nat.sub_zero]
  unfold clipAt
  rw [if_neg (by omega)]
  by_cases h : k ≤ l.length
  · congr 1; omega
  · rw [List.take_of_length_le (by omega), List.take_of_length_le (by omega)]
theorem law_items {W : Wd} (hp : PF W) (n : Nat) : Fc W true 2 (.ref 95) [.int n] (fun r => r = optAV itemsAV (itemsP n)) := by
  refine' Fc.introK hp ["number"] ["table", "left"] ["_law_table"] ?ho ?hc ?bd (bind1 ?hb) ?pl ?gg ?nd ?nk ?gk ?cell rfl ?body
  case ho => k_is
  case bd => (conv => lhs; whnf; arg 1; whnf) <;> rfl
  case hc => kernel_rfl
  case pl => exact ⟨rfl, rfl, rfl⟩
  case gg => exact ⟨rfl, rfl⟩
  case hb => intro u; rfl
  case nd => decide +kernel
  case nk => decide +kernel
  case gk => decide +kernel
  case cell => decide +kernel
  case body =>
  intro c hW hn hg hq hl
  subst hW
  have n0 : c.names[0]? = some ("number" : Str) := by rw [hn]; rfl
  have n1 : c.names[1]? = some ("table" : Str) := by rw [hn]; rfl
  have n2 : c.names[2]? = some ("left" : Str) := by rw [hn]; rfl
  have g0 : ("_law_table" : Str) ∈ c.gl := by rw [hg]; decide +kernel
  have v0 := (gf__law_table hp).1
  have kv0 := (gf__law_table hp).2
  clear hn hg
  repeat tb_rel
  refine op_modE (n % 5) (fmodN n 5) (by decide) ?_
  repeat tb_rel
  refine if_d (fun h => ?_) (fun h => ?_)
  · repeat tb_rel
    show _ = _
    rw [itemsP, if_pos (by omega)]; rfl
  repeat tb_rel
  refine tc_fn (law_table hp) (fun _ => rfl) (by omega) (fun r hr => ?_)
  subst hr
  repeat tb_rel
  refine op_divE (n / 5) (fdivN n 5) (by decide) (by decide) ?_
  repeat tb_rel
  refine te_listF ?_ (by rfl)
  repeat tb_rel
  refine op_modE (n / 5 % 16) (fmodN _ 16) (by decide) ?_
  refine sub_lstN (l := tab.map r3AV) (x := r3AV (at3 (n / 5))) (n / 5 % 16) rfl (at3_get _) (by omega) ?_
  repeat tb_rel
  refine op_divE (n / 5 / 16) (fdivN _ 16) (by decide) (by decide) ?_
  repeat tb_rel
  refine op_modE (n / 5 / 16 % 16) (fmodN _ 16) (by decide) ?_
  refine sub_lstN (l := tab.map r3AV) (x := r3AV (at3 (n / 5 / 16))) (n / 5 / 16 % 16) rfl (at3_get _) (by omega) ?_
  repeat tb_rel
  refine op_divE (n / 5 / 256) (fdivN _ 256) (by decide) (by decide) ?_
  repeat tb_rel
  refine op_modE (n / 5 / 256 % 16) (fmodN _ 16) (by decide) ?_
  refine sub_lstN (l := tab.map r3AV) (x := r3AV (at3 (n / 5 / 256))) (n / 5 / 256 % 16) rfl (at3_get _) (by omega) ?_
  repeat tb_rel
  refine op_modE (n % 5) (fmodN n 5) (by decide) ?_
  repeat tb_rel
  show _ = _
  rw [pyS_upto, itemsP, if_neg (by omega)]
  simp only [optAV, itemsAV, List.map_take, List.map_cons, List.map_nil]
noncomputable def signs : List Nat := chars "ab_C-$"
theorem signs_get (l : Nat) : signs[l % 6]? = some (signs[l % 6]?.getD 0) := by
  have h : l % 6 < signs.length := Nat.mod_lt _ (by decide +kernel)
  rw [List.getElem?_eq_getElem h]; rfl
noncomputable def sg (l : Nat) : Nat := signs[l % 6]?.getD 0
noncomputable def wordP (n : Nat) : Option (List Nat) := if n % 5 = 4 then none else some ([sg (n / 5), sg (n / 5 / 6), sg (n / 5 / 36)].take (n % 5))
theorem law_word {W : Wd} (hp : PF W) (n : Nat) : Fc W true 1 (.ref 102) [.int n] (fun r => r = optAV .str (wordP n)) := by
  refine' Fc.introK hp ["number"] ["left", "signs"] [] ?ho ?hc ?bd (bind1 ?hb) ?pl ?gg ?nd ?nk ?gk ?cell rfl ?body
  case ho => k_is
  case bd => (conv => lhs; whnf; arg 1; whnf) <;> rfl
  case hc => kernel_rfl
  case pl => exact ⟨rfl, rfl, rfl⟩
  case gg => exact ⟨rfl, rfl⟩
  case hb => intro u; rfl
  case nd => decide +kernel
  case nk => decide +kernel
  case gk => decide +kernel
  case cell => decide +kernel
  case body =>
  intro c hW hn hg hq hl
  subst hW
  have n0 : c.names[0]? = some ("number" : Str) := by rw [hn]; rfl
  have n1 : c.names[1]? = some ("left" : Str) := by rw [hn]; rfl
  have n2 : c.names[2]? = some ("signs" : Str) := by rw [hn]; rfl
  clear hn hg
  repeat tb_rel
  refine op_modE (n % 5) (fmodN n 5) (by decide) ?_
  repeat tb_rel
  refine if_d (fun h => ?_) (fun h => ?_)
  · repeat tb_rel
    show _ = _
    rw [wordP, if_pos (by omega)]; rfl
  repeat tb_rel
  refine op_divE (n / 5) (fdivN n 5) (by decide) (by decide) ?_
  repeat tb_rel
  refine op_modE (n / 5 % 6) (fmodN _ 6) (by decide) ?_
  refine sub_strN (x := signs) (n / 5 % 6) rfl (signs_get _) (by omega) ?_
  repeat tb_rel
  refine op_divE (n / 5 / 6) (fdivN _ 6) (by decide) (by decide) ?_
  repeat tb_rel
  refine op_modE (n / 5 / 6 % 6) (fmodN _ 6) (by decide) ?_
  refine sub_strN (x := signs) (n / 5 / 6 % 6) rfl (signs_get _) (by omega) ?_
  refine op_adds (by simp) ?_
  repeat tb_rel
  refine op_divE (n / 5 / 36) (fdivN _ 36) (by decide) (by decide) ?_
  repeat tb_rel
  refine op_modE (n / 5 / 36 % 6) (fmodN _ 6) (by decide) ?_
  refine sub_strN (x := signs) (n / 5 / 36 % 6) rfl (signs_get _) (by omega) ?_
  refine op_adds (by simp) ?_
  repeat tb_rel
  refine op_modE (n % 5) (fmodN n 5) (by decide) ?_
  repeat tb_rel
  show _ = _
  rw [pyS_upto, wordP, if_neg (by omega)]
  rfl
end Mine
end
section
namespace Mine
set_option maxRecDepth 100000
set_option maxHeartbeats 2000000
theorem flatten_le {l : List (List Nat)} {k : Nat} (h : ∀ x ∈ l, x.length ≤ k) : l.flatten.length ≤ k * l.length := by
  induction l with
  | nil => simp
  | cons x l ih =>
    have h1 := h x (.head _)
    have h2 := ih fun y hy => h y (.tail _ hy)
    rw [List.flatten_cons, List.length_append, List.length_cons, Nat.mul_add]
    omega
theorem law_pattern {W : Wd} (hp : PF W) (o : Option (List R3)) (ho : ∀ l, o = some l → l.length ≤ 100 ∧ ∀ x ∈ l, x.1.length ≤ 100) : Fc W true 1 (.ref 107) [optAV itemsAV o] (fun r => r = optAV .str (o.map fun l => (l.map (·.1)).flatten)) := by
  refine' Fc.introK hp ["items"] [] [] ?ho ?hc ?bd (bind1 ?hb) ?pl ?gg ?nd ?nk ?gk ?cell rfl ?body
  case ho => k_is
  case bd => (conv => lhs; whnf; arg 1; whnf) <;> rfl
  case hc => kernel_rfl
  case pl => exact ⟨rfl, rfl, rfl⟩
  case gg => exact ⟨rfl, rfl⟩
  case hb => intro u; rfl
  case nd => decide +kernel
  case nk => decide +kernel
  case gk => decide +kernel
  case cell => decide +kernel
  case body =>
  intro c hW hn hg hq hl
  subst hW
  have n0 : c.names[0]? = some ("items" : Str) := by rw [hn]; rfl
  clear hn hg
  cases o with
  | none =>
    repeat tb_rel
    exact rfl
  | some l =>
    have hl := ho l rfl
    repeat tb_rel
    refine if_f' (by simp [optAV, AV.isNone]) ?_
    repeat tb_rel
    refine te_meth "str" "str.join" PySem.F.plainAttrs_str PySem.F.slot_str_join PySem.F.type_str_join ?_
    repeat tb_rel
    refine ⟨.str _, ?_⟩
    repeat tb_rel
    refine te_map l r3AV (fun x => .str x.1) (by omega) (CompStat.of0 (gl := []) rfl (by constructor <;> decide +kernel)) ?_
    repeat tb_rel
    refine ⟨.inl rfl, fun c' S z hz => ?_, ?_⟩
    · have m0 := S.name
      repeat tb_rel
      exact rfl
    · repeat tb_rel
      have e1 : (l.map fun x : R3 => AV.str x.1) = (l.map (·.1)).map .str := by rw [List.map_map]; rfl
      have e2 : AV.lit "" = .str [] := by rw [AV.lit, show chars "" = [] by decide +kernel]
      rw [e1, e2]
      refine tc_join_lst ?_ ?_
      · have := flatten_le (l := l.map (·.1)) (k := 100) (fun x hx => by
          obtain ⟨y, hy, rfl⟩ := List.mem_map.mp hx
          exact hl.2 y hy)
        rw [List.length_map] at this
        have h1 := hl.1
        have : 100 * l.length ≤ 100 * 100 := Nat.mul_le_mul_left _ h1
        omega
      · repeat tb_rel
        exact rfl
end Mine
end
section
namespace Mine
set_option maxRecDepth 100000
set_option maxHeartbeats 2000000
noncomputable abbrev plAV (l : List Nat) : AV := .lst (l.map fun p => .int ((p : Nat) : Int))
noncomputable def gtP : List Nat → Nat → Bool
  | [], _ => false
  | q :: _, p => decide (q ≤ p)
noncomputable def nxP (word : List Nat) (x : R3) (p : Nat) : Option Nat := match word[p]? with
  | none => none
  | some y => if (decide (y ∈ x.2.2) == decide (x.2.1 = 1)) = true then some (p + 1) else none
theorem filterMap_if {α β : Type} (b : α → Bool) (f : α → β) (l : List α) : l.filterMap (fun x => if b x = true then some (f x) else none) = (l.filter b).map f := by
  induction l with
  | nil => rfl
  | cons x l ih =>
    rw [List.filterMap_cons, List.filter_cons]
    cases b x <;> simp [ih]
theorem filterMap_map2 {α β γ : Type} (g : α → Option β) (f : β → γ) (l : List α) : l.filterMap (fun x => (g x).map f) = (l.filterMap g).map f := by
  induction l with
  | nil => rfl
  | cons x l ih =>
    rw [List.filterMap_cons, List.filterMap_cons]
    cases g x <;> simp [ih]
noncomputable def stepP (word : List Nat) (places : List Nat) (x : R3) : List Nat :=
  if x.2.1 = 0 then (List.range (word.length + 1)).filter (gtP places)
  else places.filterMap (nxP word x)
noncomputable def placesP (word : List Nat) (l : List R3) : List Nat := l.foldl (stepP word) [0]
noncomputable def meansB : Option (List R3) → List Nat → Bool
  | none, word => decide (word = [67])
  | some l, word => decide (word.length ∈ placesP word l)
theorem stepP_le {word places : List Nat} {x : R3} (h : ∀ p ∈ places, p ≤ word.length) (hn : places.length ≤ word.length + 1) : (∀ p ∈ stepP word places x, p ≤ word.length) ∧ (stepP word places x).length ≤ word.length + 1 := by
  unfold stepP
  split
  · refine ⟨fun p hp => ?_, ?_⟩
    · have := (List.mem_filter.mp hp).1
      simp at this; omega
    · exact Nat.le_trans (List.length_filter_le _ _) (by simp)
  · refine ⟨fun p hp => ?_, Nat.le_trans (List.length_filterMap_le _ _) hn⟩
    obtain ⟨q, hq, e⟩ := List.mem_filterMap.mp hp
    unfold nxP at e
    cases hw : word[q]? with
    | none => rw [hw] at e; cases e
    | some y =>
      rw [hw] at e
      have := (List.getElem?_eq_some_iff.mp hw).1
      simp only at e
      split at e
      · cases e; omega
      · cases e
theorem law_means {W : Wd} (hp : PF W) (o : Option (List R3)) (word : List Nat) (ho : ∀ l, o = some l → l.length ≤ 100) (hw : word.length ≤ 100) : Fc W true 1 (.ref 112) [optAV itemsAV o, .str word] (fun r => r = .bool (meansB o word)) := by
  refine' Fc.introKC hp ["items", "word"] ["items", "text"] ["signs", "kind", "places", "word"] ["range", "len"] [some 0, none] [none, none, none, some 1] ?ho ?hc ?bd (bind2 ?hb) ?pl ?gg ?clo ?nd ?nk ?gk ?ck ?pk ?cn ?lr ?cr rfl ?body
  case ho => k_is
  case bd => (conv => lhs; whnf; arg 1; whnf) <;> rfl
  case hc => kernel_rfl
  case pl => exact ⟨rfl, rfl, rfl⟩
  case gg => exact ⟨rfl, rfl⟩
  case hb => intro u v; rfl
  case nd => decide +kernel
  case nk => decide +kernel
  case gk => decide +kernel
  case clo => rfl
  case ck => decide +kernel
  case pk => decide +kernel
  case cn => intro n; rfl
  case lr =>
    intro i x j h1 h2
    match i, h1, h2 with
    | 0, h1, h2 => cases h1; cases h2; rfl
    | 1, h1, h2 => cases h2
    | n + 2, h1, h2 => simp at h1
  case cr =>
    intro i x j h1 h2
    match i, h1, h2 with
    | 0, h1, h2 => cases h2
    | 1, h1, h2 => cases h2
    | 2, h1, h2 => cases h2
    | 3, h1, h2 => cases h1; cases h2; rfl
    | n + 4, h1, h2 => simp at h1
  case body =>
  intro c hW hn hg hcl hq hl
  subst hW
  have n0 : c.names[0]? = some ("items" : Str) := by rw [hn]; rfl
  have n1 : c.names[1]? = some ("text" : Str) := by rw [hn]; rfl
  obtain ⟨ca0, c0⟩ := cel_get (x := "signs") 0 hcl rfl
  obtain ⟨ca1, c1⟩ := cel_get (x := "kind") 1 hcl rfl
  obtain ⟨ca2, c2⟩ := cel_get (x := "places") 2 hcl rfl
  obtain ⟨ca3, c3⟩ := cel_get (x := "word") 3 hcl rfl
  have g0 : ("range" : Str) ∈ c.gl := by rw [hg]; decide +kernel
  have v0 := gf_range hp
  have kv0 : KeptV c.W (.type "range") := trivial
  have g1 : ("len" : Str) ∈ c.gl := by rw [hg]; decide +kernel
  have v1 := gf_len hp
  have kv1 : KeptV c.W (.builtin "len") := trivial
  clear hn hg
  cases o with
  | none =>
    repeat tb_rel
    show _ = _
    have e : chars "C" = [67] := by decide +kernel
    rw [e]
    simp only [meansB]
    congr 1
    rw [Bool.eq_iff_iff, beq_iff_eq, decide_eq_true_eq]
  | some l =>
    have hl := ho l rfl
    repeat tb_rel
    refine if_f' (by simp [optAV, AV.isNone]) ?_
    repeat tb_rel
    with_reducible refine te_listF ?_ (by with_unfolding_all rfl)
    repeat tb_rel
    have clen : c.cells.length = 4 := by have := congrArg List.length hcl; simpa using this
    refine ts_for_l (fun i a => ∃ tx sg kd, a = ⟨[some (itemsAV l), tx], [sg, kd, some (plAV (placesP word (l.take i))), some (.str word)], []⟩) l r3AV (by omega) ?_ ?_ ?_
    · repeat tb_rel
      exact ⟨rfl, _, _, _, rfl⟩
    · rintro i ⟨text, kind, sgs⟩ a hi ⟨tx, sg, kd, rfl⟩
      have hpl : (∀ p ∈ placesP word (l.take i), p ≤ word.length) ∧ (placesP word (l.take i)).length ≤ word.length + 1 := by
        unfold placesP
        have key : ∀ (l : List R3) (pl : List Nat), (∀ p ∈ pl, p ≤ word.length) → pl.length ≤ word.length + 1 → (∀ p ∈ l.foldl (stepP word) pl, p ≤ word.length) ∧ (l.foldl (stepP word) pl).length ≤ word.length + 1 := by
          intro l
          induction l with
          | nil => intro pl h1 h2; exact ⟨h1, h2⟩
          | cons x l ih => intro pl h1 h2; have := stepP_le (x := x) h1 h2; exact ih _ this.1 this.2
        exact key _ [0] (by simp) (by simp)
      have hnext : placesP word (l.take (i + 1)) = stepP word (placesP word (l.take i)) (text, kind, sgs) := by
        unfold placesP
        rw [List.take_add_one, hi, Option.toList_some, List.foldl_append]; rfl
      generalize placesP word (l.take i) = pl at hpl hnext ⊢
      refine ta_tup rfl ?_ rfl
      repeat tb_rel
      refine if_d (fun hk => ?_) (fun hk => ?_)
      · subst hk
        repeat tb_rel
        refine te_comp (List.range (word.length + 1)) (fun i => .int ((i : Nat) : Int)) (fun p => if gtP pl p = true then some (.int ((p : Nat) : Int)) else none) (by simp; omega) (CompStat.of (frees := ["places"]) (gl := []) hcl rfl (by constructor <;> decide +kernel)) ?_
        repeat tb_rel
        refine ⟨srcRng (word.length + 1) (by omega), fun c' S p hz => ?_, ?_⟩
        · have m0 := S.name
          have f0 := S.free 2 _ _ _ c2 rfl (.head _)
          repeat tb_rel
          cases pl with
          | nil =>
            refine if_f' (by simp) ?_
            repeat tb_rel
            simp [gtP]
          | cons q pl =>
            refine if_t' (by simp) ?_
            repeat tb_rel
            refine if_d (fun h => ?_) (fun h => ?_)
            · repeat tb_rel
              have : q ≤ p := by omega
              simp [gtP, this]
            · repeat tb_rel
              have : ¬ q ≤ p := by omega
              simp [gtP, this]
        · repeat tb_rel
          refine ⟨some (.str text), some (.str sgs), some (.int 0), ?_⟩
          rw [filterMap_if, hnext, stepP]
          simp
      · repeat tb_rel
        refine te_comp pl (fun i => .int ((i : Nat) : Int)) (fun p => (nxP word (text, kind, sgs) p).map fun i => .int ((i : Nat) : Int)) (by omega) (CompStat.of (frees := ["word", "signs", "kind"]) (gl := ["len"]) hcl rfl (by constructor <;> decide +kernel)) ?_
        repeat tb_rel
        refine ⟨.inl rfl, fun c' S p hz => ?_, ?_⟩
        · have m0 := S.name
          have f1 := S.free 3 _ _ _ c3 rfl (by simp)
          have f2 := S.free 0 _ _ _ c0 rfl (by simp)
          have f3 := S.free 1 _ _ _ c1 rfl (by simp)
          have mg : ("len" : Str) ∈ c'.gl := S.glob (by simp)
          have mv : Gv c'.W "len" (.builtin "len") := by rw [S.W]; exact v1
          have mk : KeptV c'.W (.builtin "len") := trivial
          repeat tb_rel
          refine if_d (fun h => ?_) (fun h => ?_)
          · obtain ⟨y, hy⟩ : ∃ y, word[p]? = some y := ⟨_, List.getElem?_eq_getElem (by omega)⟩
            repeat tb_rel
            refine sub_strN p rfl hy (by omega) ?_
            repeat tb_rel
            refine if_b (fun h => ?_) (fun h => ?_)
            · repeat tb_rel
              simp only [nxP, hy]
              rw [if_pos h]; simp
            · repeat tb_rel
              simp only [nxP, hy]
              rw [if_neg (by rw [h]; decide)]; rfl
          · repeat tb_rel
            have : word[p]? = none := List.getElem?_eq_none (by omega)
            simp only [nxP, this]; rfl
        · repeat tb_rel
          refine ⟨some (.str text), some (.str sgs), some (.int kind), ?_⟩
          rw [filterMap_map2, hnext, stepP, if_neg (by simpa using hk)]
          simp
    · rintro a ⟨tx, sg, kd, rfl⟩
      rw [List.take_of_length_le (Nat.le_refl _)]
      repeat tb_rel
      rw [show plAV (placesP word l) = .lst (((placesP word l).map fun p : Nat => (p : Int)).map .int) by rw [List.map_map]; rfl]
      refine op_inlst ?_
      repeat tb_rel
      show _ = _
      congr 1
      simp only [meansB]
      rw [Bool.eq_iff_iff, List.any_eq_true, decide_eq_true_eq]
      constructor
      · rintro ⟨x, hx, e⟩
        obtain ⟨y, hy, rfl⟩ := List.mem_map.mp hx
        have e' : ((y : Nat) : Int) = word.length := by simpa using e
        have : y = word.length := by omega
        rw [← this]; exact hy
      · intro h
        exact ⟨_, List.mem_map.mpr ⟨_, h, rfl⟩, by simp⟩
end Mine
end
section
namespace Mine
set_option maxRecDepth 100000
set_option maxHeartbeats 2000000
noncomputable abbrev Wish := Option (List R3) × Option (List R3)
noncomputable abbrev Loc := Option (List Nat) × Option (List Nat)
noncomputable abbrev wishAV (w : Wish) : AV := .tup [optAV itemsAV w.1, optAV itemsAV w.2]
noncomputable abbrev locAV (l : Loc) : AV := .tup [optAV .str l.1, optAV .str l.2]
noncomputable def langOf (l : Loc) : List Nat := l.1.getD [67]
noncomputable def toldB (w : Wish) (l : Loc) : Bool := match w.2, l.2 with
  | none, none => meansB w.1 (langOf l)
  | none, some e => meansB w.1 (langOf l ++ [46] ++ e)
  | some _, none => false
  | some l1, some e => meansB w.1 (langOf l) && meansB (some l1) e
theorem law_told {W : Wd} (hp : PF W) (w : Wish) (l : Loc) (h1 : ∀ x, w.1 = some x → x.length ≤ 100) (h2 : ∀ x, w.2 = some x → x.length ≤ 100) (h3 : ∀ x, l.1 = some x → x.length ≤ 30) (h4 : ∀ x, l.2 = some x → x.length ≤ 30) : Fc W true 2 (.ref 119) [wishAV w, locAV l] (fun r => r = .bool (toldB w l)) := by
  refine' Fc.introK hp ["wish", "locale"] ["language", "encoding"] ["_law_means"] ?ho ?hc ?bd (bind2 ?hb) ?pl ?gg ?nd ?nk ?gk ?cell rfl ?body
  case ho => k_is
  case bd => (conv => lhs; whnf; arg 1; whnf) <;> rfl
  case hc => kernel_rfl
  case pl => exact ⟨rfl, rfl, rfl⟩
  case gg => exact ⟨rfl, rfl⟩
  case hb => intro u v; rfl
  case nd => decide +kernel
  case nk => decide +kernel
  case gk => decide +kernel
  case cell => decide +kernel
  case body =>
  intro c hW hn hg hq hl
  subst hW
  have n0 : c.names[0]? = some ("wish" : Str) := by rw [hn]; rfl
  have n1 : c.names[1]? = some ("locale" : Str) := by rw [hn]; rfl
  have n2 : c.names[2]? = some ("language" : Str) := by rw [hn]; rfl
  have n3 : c.names[3]? = some ("encoding" : Str) := by rw [hn]; rfl
  have g0 : ("_law_means" : Str) ∈ c.gl := by rw [hg]; decide +kernel
  have v0 := (gf__law_means hp).1
  have kv0 := (gf__law_means hp).2
  clear hn hg
  have cC : AV.lit "C" = .str [67] := by rw [AV.lit, show chars "C" = [67] by decide +kernel]
  have cD : AV.lit "." = .str [46] := by rw [AV.lit, show chars "." = [46] by decide +kernel]
  obtain ⟨w0, w1⟩ := w
  obtain ⟨lang, enc⟩ := l
  simp only at h1 h2 h3 h4
  cases enc with
  | none =>
    cases lang with
    | none =>
      cases w1 with
      | none =>
        repeat (first | tb_rel | top_args)
        first | rw [cC] | skip
        refine tc_fn (law_means hp w0 [67] h1 (by first | omega | (simp; done) | (simp; omega))) (fun _ => rfl) (by omega) (fun r hr => ?_)
        subst hr
        repeat (first | tb_rel | top_args)
        exact rfl
      | some l1 =>
        repeat (first | tb_rel | top_args)
        exact rfl
    | some x =>
      have k3 := h3 x rfl
      cases w1 with
      | none =>
        repeat (first | tb_rel | top_args)
        first | rw [cC] | skip
        refine tc_fn (law_means hp w0 x h1 (by first | omega | (simp; done) | (simp; omega))) (fun _ => rfl) (by omega) (fun r hr => ?_)
        subst hr
        repeat (first | tb_rel | top_args)
        exact rfl
      | some l1 =>
        repeat (first | tb_rel | top_args)
        exact rfl
  | some e =>
    have k4 := h4 e rfl
    cases lang with
    | none =>
      cases w1 with
      | none =>
        repeat (first | tb_rel | top_args)
        first | rw [cC, cD] | rw [cD]
        refine op_adds (by first | omega | (simp; done) | (simp; omega)) ?_
        repeat (first | tb_rel | top_args)
        refine op_adds (by first | omega | (simp; done) | (simp; omega)) ?_
        repeat (first | tb_rel | top_args)
        refine tc_fn (law_means hp w0 ([67] ++ [46] ++ e) h1 (by simp; omega)) (fun _ => rfl) (by omega) (fun r hr => ?_)
        subst hr
        repeat (first | tb_rel | top_args)
        exact rfl
      | some l1 =>
        repeat (first | tb_rel | top_args)
        first | rw [cC] | skip
        refine tc_fn (law_means hp w0 [67] h1 (by first | omega | (simp; done) | (simp; omega))) (fun _ => rfl) (by omega) (fun r hr => ?_)
        subst hr
        repeat (first | tb_rel | top_args)
        refine if_b (fun hb => ?_) (fun hb => ?_)
        · repeat (first | tb_rel | top_args)
          refine tc_fn (law_means hp (some l1) e h2 (by omega)) (fun _ => rfl) (by omega) (fun r hr => ?_)
          subst hr
          repeat (first | tb_rel | top_args)
          show _ = _
          simp only [toldB, langOf, Option.getD_none, Option.getD_some, hb, Bool.true_and]
        · repeat (first | tb_rel | top_args)
          show _ = _
          simp only [toldB, langOf, Option.getD_none, Option.getD_some, hb, Bool.false_and]
    | some x =>
      have k3 := h3 x rfl
      cases w1 with
      | none =>
        repeat (first | tb_rel | top_args)
        first | rw [cC, cD] | rw [cD]
        refine op_adds (by first | omega | (simp; done) | (simp; omega)) ?_
        repeat (first | tb_rel | top_args)
        refine op_adds (by first | omega | (simp; done) | (simp; omega)) ?_
        repeat (first | tb_rel | top_args)
        refine tc_fn (law_means hp w0 (x ++ [46] ++ e) h1 (by simp; omega)) (fun _ => rfl) (by omega) (fun r hr => ?_)
        subst hr
        repeat (first | tb_rel | top_args)
        exact rfl
      | some l1 =>
        repeat (first | tb_rel | top_args)
        first | rw [cC] | skip
        refine tc_fn (law_means hp w0 x h1 (by first | omega | (simp; done) | (simp; omega))) (fun _ => rfl) (by omega) (fun r hr => ?_)
        subst hr
        repeat (first | tb_rel | top_args)
        refine if_b (fun hb => ?_) (fun hb => ?_)
        · repeat (first | tb_rel | top_args)
          refine tc_fn (law_means hp (some l1) e h2 (by omega)) (fun _ => rfl) (by omega) (fun r hr => ?_)
          subst hr
          repeat (first | tb_rel | top_args)
          show _ = _
          simp only [toldB, langOf, Option.getD_none, Option.getD_some, hb, Bool.true_and]
        · repeat (first | tb_rel | top_args)
          show _ = _
          simp only [toldB, langOf, Option.getD_none, Option.getD_some, hb, Bool.false_and]
end Mine
end
section
namespace Mine
set_option maxRecDepth 100000
set_option maxHeartbeats 2000000
noncomputable def optAV' : Option (List Nat) → AV
  | none => .none
  | some x => .str x
noncomputable def nameP (l : Option (List Nat) × Option (List Nat)) : List Nat := match l.2 with
  | none => l.1.getD [67]
  | some e => l.1.getD [67] ++ [46] ++ e
theorem build_localename {W : Wd} (hp : PF W) (l : Option (List Nat) × Option (List Nat)) (h3 : ∀ x, l.1 = some x → x.length ≤ 1000) (h4 : ∀ x, l.2 = some x → x.length ≤ 1000) : Fc W true 1 (.ref 38) [.tup [optAV' l.1, optAV' l.2]] (fun r => r = .str (nameP l)) := by
  refine' Fc.introK hp ["localetuple"] ["language", "encoding"] [] ?ho ?hc ?bd (bind1 ?hb) ?pl ?gg ?nd ?nk ?gk ?cell rfl ?body
  case ho => k_is
  case bd => (conv => lhs; whnf; arg 1; whnf) <;> rfl
  case hc => kernel_rfl
  case pl => exact ⟨rfl, rfl, rfl⟩
  case gg => exact ⟨rfl, rfl⟩
  case hb => intro u; rfl
  case nd => decide +kernel
  case nk => decide +kernel
  case gk => decide +kernel
  case cell => decide +kernel
  case body =>
  intro c hW hn hg hq hl
  subst hW
  have n0 : c.names[0]? = some ("localetuple" : Str) := by rw [hn]; rfl
  have n1 : c.names[1]? = some ("language" : Str) := by rw [hn]; rfl
  have n2 : c.names[2]? = some ("encoding" : Str) := by rw [hn]; rfl
  clear hn hg
  have cC : AV.lit "C" = .str [67] := by rw [AV.lit, show chars "C" = [67] by decide +kernel]
  have cD : AV.lit "." = .str [46] := by rw [AV.lit, show chars "." = [46] by decide +kernel]
  obtain ⟨lang, enc⟩ := l
  simp only at h3 h4
  cases enc with
  | none =>
    cases lang with
    | none =>
      repeat tb_rel
      refine ts_try ?_
      repeat (first | tb_rel | top_args)
      exact cC
    | some x =>
      repeat tb_rel
      refine ts_try ?_
      repeat (first | tb_rel | top_args)
      exact rfl
  | some e =>
    have k4 := h4 e rfl
    cases lang with
    | none =>
      repeat tb_rel
      refine ts_try ?_
      repeat (first | tb_rel | top_args)
      rw [cC, cD]
      refine op_adds (by simp) ?_
      repeat (first | tb_rel | top_args)
      refine op_adds (by simp; omega) ?_
      repeat (first | tb_rel | top_args)
      exact rfl
    | some x =>
      have k3 := h3 x rfl
      repeat tb_rel
      refine ts_try ?_
      repeat (first | tb_rel | top_args)
      rw [cD]
      refine op_adds (by simp; omega) ?_
      repeat (first | tb_rel | top_args)
      refine op_adds (by simp; omega) ?_
      repeat (first | tb_rel | top_args)
      exact rfl
theorem pyS_uptoL {α : Type} (l : List α) (k : Nat) : pyS l none (some (k : Int)) = l.take k := by
  unfold pyS
  simp only [Option.elim_none, Option.elim_some, List.drop_zero, Nat.sub_zero]
  unfold clipAt
  rw [if_neg (by omega)]
  by_cases h : k ≤ l.length
  · congr 1; omega
  · rw [List.take_of_length_le (by omega), List.take_of_length_le (by omega)]
theorem pyS_from {α : Type} (l : List α) (k : Nat) (h : k ≤ l.length) : pyS l (some (k : Int)) none = l.drop k := by
  unfold pyS
  simp only [Option.elim_none, Option.elim_some]
  unfold clipAt
  rw [if_neg (by omega), List.take_of_length_le (by simp)]
  congr 1; omega
noncomputable def numP (own : List Nat) (script : List Int) : List Nat := (script.take 10).map (fun n => (n.fmod 100000000).toNat) ++ own.drop (script.take 10).length
noncomputable def ownL : List Nat := [12, 567, 802, 4, 32, 52, 4, 16, 62, 4]
noncomputable abbrev natsAV (l : List Nat) : AV := .lst (l.map fun n => .int ((n : Nat) : Int))
theorem law_numbers {W : Wd} (hp : PF W) (ns : List Int) (hl : ns.length ≤ 1000) : Fc W true 1 (.ref 88) [.lst (ns.map .int)] (fun r => r = natsAV (numP ownL ns)) := by
  refine' Fc.introK hp ["script"] ["own", "drawn"] ["len"] ?ho ?hc ?bd (bind1 ?hb) ?pl ?gg ?nd ?nk ?gk ?cell rfl ?body
  case ho => k_is
  case bd => (conv => lhs; whnf; arg 1; whnf) <;> rfl
  case hc => kernel_rfl
  case pl => exact ⟨rfl, rfl, rfl⟩
  case gg => exact ⟨rfl, rfl⟩
  case hb => intro u; rfl
  case nd => decide +kernel
  case nk => decide +kernel
  case gk => decide +kernel
  case cell => decide +kernel
  case body =>
  intro c hW hn hg hq hl
  subst hW
  have n0 : c.names[0]? = some ("script" : Str) := by rw [hn]; rfl
  have n1 : c.names[1]? = some ("own" : Str) := by rw [hn]; rfl
  have n2 : c.names[2]? = some ("drawn" : Str) := by rw [hn]; rfl
  have g0 : ("len" : Str) ∈ c.gl := by rw [hg]; decide +kernel
  have v0 := gf_len hp
  have kv0 : KeptV c.W (.builtin "len") := trivial
  clear hn hg
  repeat tb_rel
  with_reducible refine te_listF ?_ (by with_unfolding_all rfl)
  repeat tb_rel
  refine ts_setmap 2 n2 (ns.take 10) .int (fun n => .int (((n.fmod 100000000).toNat : Nat) : Int)) (by simp; omega) (CompStat.of0 (gl := []) rfl (by constructor <;> decide +kernel)) (fun env h1 h2 => swaps_comp h1 h2 (by decide +kernel)) ?_
  repeat tb_rel
  refine ⟨.inl (by rw [show (10 : Int) = ((10 : Nat) : Int) from rfl, pyS_uptoL, List.map_take]), fun c' S z hz => ?_, ?_⟩
  · have m0 := S.name
    repeat tb_rel
    refine op_pow (by decide) (by decide) (by decide) ?_
    refine op_mod (by decide) ?_
    have e : (10 : Int) ^ (8 : Int).toNat = 100000000 := by decide
    rw [e]
    congr 1
    have := Int.fmod_nonneg_of_pos z (b := 100000000) (by decide)
    omega
  · repeat tb_rel
    have e : ([AV.int 12, AV.int 567, AV.int 802, AV.int 4, AV.int 32, AV.int 52, AV.int 4, AV.int 16, AV.int 62, AV.int 4] : List AV) = ownL.map (fun n => AV.int ((n : Nat) : Int)) := rfl
    have ht : (ns.take 10).length ≤ 10 := by simp; omega
    rw [e, List.length_map, pyS_from _ _ (by rw [List.length_map]; exact ht)]
    refine op_addl (by simp [ownL]; omega) ?_
    repeat tb_rel
    show _ = _
    simp only [natsAV, numP, List.map_append, List.map_map, List.map_drop]
    rfl
end Mine
end
section
namespace Mine
set_option maxRecDepth 100000
set_option maxHeartbeats 4000000
/-- a part: a text, or the star -/
noncomputable def pAV (star : Addr) : Option (List Nat) → AV
  | none => .val (.ref star)
  | some x => .str x
noncomputable abbrev Pt := Option (List Nat)
noncomputable def grpsP (gs : List (List (List Nat))) : List Pt := gs.flatMap fun g => none :: g.map some
noncomputable def joinG : List (List (List Nat)) → List (List Nat)
  | [] => []
  | [g] => if g = [] then [[46, 42]] else [[46, 42], g.flatten]
  | g :: gs => ([40, 63, 62, 46, 42, 63] ++ g.flatten ++ [41]) :: joinG gs
noncomputable def joinT (pre : List (List Nat)) (gs : List (List (List Nat))) : List Nat := [40, 63, 115, 58] ++ (pre ++ joinG gs).flatten ++ [41, 92, 90]
noncomputable def gsOK : List (List (List Nat)) → Prop
  | [] => True
  | [_] => True
  | g :: gs => g ≠ [] ∧ gsOK gs
theorem joinG_cons (g : List (List Nat)) (gs : List (List (List Nat))) (h : gs ≠ []) : joinG (g :: gs) = ([40, 63, 62, 46, 42, 63] ++ g.flatten ++ [41]) :: joinG gs := by
  cases gs with
  | nil => exact absurd rfl h
  | cons _ _ => rfl
theorem gsOK_cons {g : List (List Nat)} {gs : List (List (List Nat))} (h : gs ≠ []) (hg : gsOK (g :: gs)) : g ≠ [] ∧ gsOK gs := by
  cases gs with
  | nil => exact absurd rfl h
  | cons _ _ => exact hg
theorem flat_le {l : List (List Nat)} {k : Nat} (h : ∀ x ∈ l, x.length ≤ k) : l.flatten.length ≤ k * l.length := by
  induction l with
  | nil => simp
  | cons x l ih =>
    have h1 := h x (.head _)
    have h2 := ih fun y hy => h y (.tail _ hy)
    rw [List.flatten_cons, List.length_append, List.length_cons, Nat.mul_add]
    omega
theorem grps_len (g : List (List Nat)) (gs : List (List (List Nat))) : (grpsP (g :: gs)).length = 1 + g.length + (grpsP gs).length := by
  simp [grpsP]; omega
theorem grps_cons (g : List (List Nat)) (gs : List (List (List Nat))) : grpsP (g :: gs) = (none :: g.map some) ++ grpsP gs := rfl
theorem joinG_len : ∀ (gs : List (List (List Nat))), (∀ x, some x ∈ grpsP gs → x.length ≤ 10) → (joinG gs).flatten.length ≤ 10 * (grpsP gs).length
  | [], _ => by simp [joinG]
  | [g], h => by
    have h1 := flat_le (l := g) (k := 10) fun x hx => h x (by rw [grps_cons]; simp; exact .inl hx)
    rw [grps_len]
    unfold joinG
    split
    · simp; omega
    · simp only [List.flatten_cons, List.length_append, List.flatten_nil, List.length_nil, List.length_cons]; omega
  | g :: g2 :: gs, h => by
    have h1 := flat_le (l := g) (k := 10) fun x hx => h x (by rw [grps_cons]; simp; exact .inl hx)
    have h2 := joinG_len (g2 :: gs) fun x hx => h x (by rw [grps_cons]; simp; exact .inr hx)
    rw [grps_len, joinG_cons _ _ (by simp)]
    simp only [List.flatten_cons, List.length_append, List.length_nil, List.length_cons]; omega
theorem join_parts {W : Wd} (hp : PF W) (star : Addr) (pre : List (List Nat)) (gs : List (List (List Nat))) (hg : gsOK gs) (hsz : (pre.map some ++ grpsP gs).length ≤ 500) (ht : ∀ x, some x ∈ pre.map some ++ grpsP gs → x.length ≤ 10) :
    Fc W true 1 (.ref 76) [.lst ((pre.map some ++ grpsP gs).map (pAV star)), .val (.ref star)] (fun r => r = .str (joinT pre gs)) := by
  refine' Fc.introK hp ["inp", "STAR"] ["res", "add", "i", "n", "fixed"] ["len"] ?ho ?hc ?bd (bind2 ?hb) ?pl ?gg ?nd ?nk ?gk ?cell rfl ?body
  case ho => k_is
  case bd => (conv => lhs; whnf; arg 1; whnf) <;> rfl
  case hc => kernel_rfl
  case pl => exact ⟨rfl, rfl, rfl⟩
  case gg => exact ⟨rfl, rfl⟩
  case hb => intro u v; rfl
  case nd => decide +kernel
  case nk => decide +kernel
  case gk => decide +kernel
  case cell => decide +kernel
  case body =>
  intro c hW hn hg hq hl
  subst hW
  have n0 : c.names[0]? = some ("inp" : Str) := by rw [hn]; rfl
  have n1 : c.names[1]? = some ("STAR" : Str) := by rw [hn]; rfl
  have n2 : c.names[2]? = some ("res" : Str) := by rw [hn]; rfl
  have n3 : c.names[3]? = some ("add" : Str) := by rw [hn]; rfl
  have n4 : c.names[4]? = some ("i" : Str) := by rw [hn]; rfl
  have n5 : c.names[5]? = some ("n" : Str) := by rw [hn]; rfl
  have n6 : c.names[6]? = some ("fixed" : Str) := by rw [hn]; rfl
  have g0 : ("len" : Str) ∈ c.gl := by rw [hg]; decide +kernel
  have v0 := gf_len hp
  have kv0 : KeptV c.W (.builtin "len") := trivial
  clear hn hg
  generalize hinp : pre.map some ++ grpsP gs = inp at hsz ht ⊢
  have cE : AV.lit "" = .str [] := by rw [AV.lit, show chars "" = [] by decide +kernel]
  have cG : chars "(?>.*?" = [40, 63, 62, 46, 42, 63] := by decide +kernel
  have cP : chars ")" = [41] := by decide +kernel
  have cS : chars "(?s:" = [40, 63, 115, 58] := by decide +kernel
  have cZ : chars ")\\Z" = [41, 92, 90] := by decide +kernel
  have cA : AV.lit ".*" = .str [46, 42] := by rw [AV.lit, show chars ".*" = [46, 42] by decide +kernel]
  repeat tb_rel
  refine te_listM ?_ (by rfl)
  repeat tb_rel
  intro p _
  repeat tb_rel
  refine te_app 2 n2 rfl (.head _) ?_
  repeat tb_rel
  refine ts_swap2 4 5 n4 n5 (sw_of (by decide +kernel) (by rfl) (by rfl) (by rfl) (by rfl)) ?_
  repeat tb_rel
  refine ts_cut (fun a => a = ⟨[some (.lst (inp.map (pAV star))), some (.val (.ref star)), some (.val (.ref p)), some (.app p), some (.int ((pre.length : Nat) : Int)), some (.int ((inp.length : Nat) : Int)), none], [], [(p, pre.map .str)]⟩) ?_ ?_
  · refine ts_while' (fun n a => ∃ k, k ≤ pre.length ∧ n = pre.length - k ∧ a = ⟨[some (.lst (inp.map (pAV star))), some (.val (.ref star)), some (.val (.ref p)), some (.app p), some (.int ((k : Nat) : Int)), some (.int ((inp.length : Nat) : Int)), none], [], [(p, (pre.take k).map .str)]⟩) pre.length
      ⟨0, Nat.zero_le _, rfl, by simp⟩ ?_
    rintro n a ⟨k, hk, rfl, rfl⟩
    have hlen : inp.length = pre.length + (grpsP gs).length := by rw [← hinp]; simp
    repeat tb_rel
    rcases Nat.lt_or_ge k pre.length with hlt | hge
    · obtain ⟨x, hx⟩ : ∃ x, pre[k]? = some x := ⟨_, List.getElem?_eq_getElem hlt⟩
      have hx2 : (inp.map (pAV star))[k]? = some (.str x) := by
        rw [List.getElem?_map, ← hinp, List.getElem?_append_left (by simpa using hlt), List.getElem?_map, hx]; rfl
      refine if_t' (by simp; omega) ?_
      repeat tb_rel
      refine sub_lstN k rfl hx2 (by omega) ?_
      repeat tb_rel
      refine te_add 3 n3 rfl ?_
      repeat tb_rel
      refine sub_lstN k rfl hx2 (by omega) ?_
      refine ⟨_, _, .head, by simp; omega, ?_⟩
      repeat tb_rel
      refine ⟨pre.length - (k + 1), by omega, k + 1, hlt, rfl, ?_⟩
      rw [List.take_add_one, hx]; simp
    · have hkk : k = pre.length := by omega
      subst hkk
      cases gs with
      | nil =>
        refine if_f' (by simp [grpsP] at hlen; simp; omega) ?_
        repeat tb_rel
        simp
      | cons g gs =>
        have hx2 : (inp.map (pAV star))[pre.length]? = some (.val (.ref star)) := by
          rw [List.getElem?_map, ← hinp, List.getElem?_append_right (by simp)]
          simp [grpsP, pAV]
        refine if_t' (by simp [grpsP] at hlen; simp; omega) ?_
        repeat tb_rel
        refine sub_lstN pre.length rfl hx2 (by omega) ?_
        repeat tb_rel
        simp
  rintro a rfl
  refine at_next ?_
  have hprel : pre.length ≤ inp.length := by rw [← hinp]; simp
  refine tss_cons ?_
  refine ts_cut (fun a => ∃ fx mem, a = ⟨[some (.lst (inp.map (pAV star))), some (.val (.ref star)), some (.val (.ref p)), some (.app p), some (.int ((inp.length : Nat) : Int)), some (.int ((inp.length : Nat) : Int)), fx], [], (p, (pre ++ joinG gs).map .str) :: mem⟩) ?_ ?_
  · refine ts_while' (fun n a => ∃ rest i resl fx mem, n = rest.length ∧ inp.drop i = grpsP rest ∧ i ≤ inp.length ∧ gsOK rest ∧ pre ++ joinG gs = resl ++ joinG rest ∧ resl.length ≤ 2 * i ∧
      a = ⟨[some (.lst (inp.map (pAV star))), some (.val (.ref star)), some (.val (.ref p)), some (.app p), some (.int ((i : Nat) : Int)), some (.int ((inp.length : Nat) : Int)), fx], [], (p, resl.map .str) :: mem⟩) gs.length
      ⟨gs, pre.length, pre, none, [], rfl, by rw [← hinp]; exact List.drop_left' (by simp), hprel, hg, rfl, by omega, rfl⟩ ?_
    rintro n a ⟨rest, i, resl, fx, mem, rfl, hdrop, hile, hgr, hres, hrl, rfl⟩
    have hilen : inp.length = i + (grpsP rest).length := by rw [← hdrop]; simp; omega
    repeat tb_rel
    cases rest with
    | nil =>
      refine if_f' (by simp [grpsP] at hilen; simp; omega) ?_
      repeat tb_rel
      have : i = inp.length := by simp [grpsP] at hilen; omega
      subst this
      refine ⟨fx, mem, ?_⟩
      rw [hres]; simp [joinG]
    | cons g rest =>
      rw [grps_len] at hilen
      rw [grps_cons] at hdrop
      have hat : ∀ k, inp[i + k]? = ((none :: g.map some) ++ grpsP rest)[k]? := fun k => by rw [← hdrop, List.getElem?_drop]
      have hx0 : (inp.map (pAV star))[i]? = some (.val (.ref star)) := by
        rw [List.getElem?_map, show inp[i]? = some none by rw [show i = i + 0 from rfl, hat 0]; rfl]; rfl
      refine if_t' (by simp; omega) ?_
      repeat tb_rel
      refine sub_lstN i rfl hx0 (by omega) ?_
      repeat tb_rel
      refine ⟨rfl, ?_⟩
      repeat tb_rel
      refine if_d (fun hend => ?_) (fun hend => ?_)
      · have hg0 : g = [] := List.length_eq_zero_iff.mp (by omega)
        have hr0 : rest = [] := by
          cases rest with
          | nil => rfl
          | cons _ _ => rw [grps_len] at hilen; omega
        subst hg0; subst hr0
        repeat tb_rel
        refine te_add 3 n3 rfl ?_
        repeat tb_rel
        rw [cA]
        refine ⟨_, _, .head, by simp; omega, ?_⟩
        repeat tb_rel
        refine ⟨fx, mem, ?_⟩
        rw [hres, ← hend]; simp [joinG]
      · have hgne : g ≠ [] := by
          rintro rfl
          cases rest with
          | nil => simp [grpsP] at hilen; omega
          | cons _ _ => exact (gsOK_cons (by simp) hgr).1 rfl
        have hgk : ∀ k x, g[k]? = some x → (inp.map (pAV star))[i + 1 + k]? = some (.str x) := fun k x hx => by
          rw [List.getElem?_map, show i + 1 + k = i + (k + 1) by omega, hat (k + 1)]
          show Option.map (pAV star) ((g.map some ++ grpsP rest)[k]?) = _
          rw [List.getElem?_append_left (by simpa using (List.getElem?_eq_some_iff.mp hx).1), List.getElem?_map, hx]; rfl
        obtain ⟨x0, g', rfl⟩ := List.exists_cons_of_ne_nil hgne
        have hx1 := hgk 0 x0 rfl
        repeat tb_rel
        refine sub_lstN (i + 1) (by omega) hx1 (by omega) ?_
        repeat tb_rel
        refine ⟨rfl, ?_⟩
        repeat tb_rel
        refine te_listM ?_ (by rfl)
        repeat tb_rel
        intro q hq
        have hqp : p ≠ q := hq _ (.head _)
        repeat tb_rel
        refine ts_cut (fun a => a = ⟨[some (.lst (inp.map (pAV star))), some (.val (.ref star)), some (.val (.ref p)), some (.app p), some (.int ((i + 1 + (x0 :: g').length : Nat) : Int)), some (.int ((inp.length : Nat) : Int)), some (.val (.ref q))], [], (q, (x0 :: g').map .str) :: (p, resl.map .str) :: mem⟩) ?_ ?_
        · refine ts_while' (fun n a => ∃ j, j ≤ (x0 :: g').length ∧ n = (x0 :: g').length - j ∧ a = ⟨[some (.lst (inp.map (pAV star))), some (.val (.ref star)), some (.val (.ref p)), some (.app p), some (.int ((i + 1 + j : Nat) : Int)), some (.int ((inp.length : Nat) : Int)), some (.val (.ref q))], [], (q, ((x0 :: g').take j).map .str) :: (p, resl.map .str) :: mem⟩) (x0 :: g').length ⟨0, Nat.zero_le _, rfl, by simp⟩ ?_
          rintro n a ⟨j, hj, rfl, rfl⟩
          repeat tb_rel
          rcases Nat.lt_or_ge j (x0 :: g').length with hlt | hge
          · obtain ⟨x, hx⟩ : ∃ x, (x0 :: g')[j]? = some x := ⟨_, List.getElem?_eq_getElem hlt⟩
            have hx2 := hgk j x hx
            refine if_t' (by simp at hilen hlt ⊢; omega) ?_
            repeat tb_rel
            refine sub_lstN (i + 1 + j) rfl hx2 (by omega) ?_
            repeat tb_rel
            refine te_meth "list" "list.append" PySem.F.plainAttrs_list slot_list_append type_list_append ?_
            repeat tb_rel
            refine ⟨.mem (.head _), ?_⟩
            repeat tb_rel
            refine sub_lstN (i + 1 + j) rfl hx2 (by omega) ?_
            repeat tb_rel
            refine tc_append .head (by simp; omega) ?_
            repeat tb_rel
            refine ⟨(x0 :: g').length - (j + 1), by omega, j + 1, hlt, rfl, ?_⟩
            rw [List.take_add_one, hx]; simp; omega
          · have hjj : j = (x0 :: g').length := by omega
            cases rest with
            | nil =>
              refine if_f' (by simp [grpsP] at hilen hjj ⊢; omega) ?_
              repeat tb_rel
              rw [hjj]; simp
            | cons g2 rest =>
              have hx2 : (inp.map (pAV star))[i + 1 + j]? = some (.val (.ref star)) := by
                rw [List.getElem?_map, show i + 1 + j = i + (j + 1) by omega, hat (j + 1)]
                rw [List.getElem?_append_right (by simp [hjj])]
                simp [hjj, grpsP, pAV]
              rw [grps_len] at hilen
              refine if_t' (by simp at hjj hilen ⊢; omega) ?_
              repeat tb_rel
              refine sub_lstN (i + 1 + j) rfl hx2 (by omega) ?_
              repeat tb_rel
              rw [hjj]; simp
        rintro a rfl
        have hgle : ∀ x ∈ x0 :: g', x.length ≤ 10 := fun x hx => by
          obtain ⟨k, hk, e⟩ := List.getElem_of_mem hx
          have := hgk k x (by rw [List.getElem?_eq_getElem hk, e])
          rw [List.getElem?_map] at this
          cases hc : inp[i + 1 + k]? with
          | none => rw [hc] at this; cases this
          | some o =>
            rw [hc] at this
            cases o with
            | none => cases this
            | some y => cases this; exact ht _ (List.mem_of_getElem? hc)
        have hfl := flat_le hgle
        refine at_next ?_
        refine tss_view (a' := ⟨[some (.lst (inp.map (pAV star))), some (.val (.ref star)), some (.val (.ref p)), some (.app p), some (.int ((i + 1 + (x0 :: g').length : Nat) : Int)), some (.int ((inp.length : Nat) : Int)), some (.val (.ref q))], [], (p, resl.map .str) :: (q, (x0 :: g').map .str) :: mem⟩) (perm_view rfl rfl (.swap _ _ _)) ?_
        repeat tb_rel
        refine te_meth "str" "str.join" PySem.F.plainAttrs_str PySem.F.slot_str_join PySem.F.type_str_join ?_
        repeat tb_rel
        refine ⟨.str _, ?_⟩
        repeat tb_rel
        rw [cE]
        refine tc_join_mem (.tail _ (.head _)) (by omega) ?_
        repeat tb_rel
        cases rest with
        | nil =>
          refine if_t' (by simp [grpsP] at hilen; simp; omega) ?_
          repeat tb_rel
          refine te_add 3 n3 rfl ?_
          repeat tb_rel
          rw [cA]
          refine ⟨_, _, .head, by simp; omega, ?_⟩
          repeat tb_rel
          refine te_add 3 n3 rfl ?_
          repeat tb_rel
          refine ⟨_, _, .head, by simp; omega, ?_⟩
          repeat tb_rel
          refine ⟨0, by simp, [], inp.length, resl ++ [[46, 42], (x0 :: g').flatten], some (.str (x0 :: g').flatten), (q, (x0 :: g').map .str) :: mem, rfl, by simp [grpsP], Nat.le_refl _, trivial, ?_, ?_, ?_⟩
          · rw [hres]; simp [joinG]
          · simp [grpsP] at hilen ⊢; omega
          · have : i + 1 + (x0 :: g').length = inp.length := by simp [grpsP] at hilen ⊢; omega
            rw [this]; simp
        | cons g2 rest =>
          rw [grps_len] at hilen
          refine if_f' (by simp at hilen ⊢; omega) ?_
          repeat tb_rel
          refine te_add 3 n3 rfl ?_
          repeat tb_rel
          rw [cG]
          repeat tb_rel
          rw [cP]
          repeat tb_rel
          refine ⟨_, _, .head, by simp; omega, ?_⟩
          repeat tb_rel
          refine ⟨(g2 :: rest).length, by simp, g2 :: rest, i + 1 + (x0 :: g').length, resl ++ [[40, 63, 62, 46, 42, 63] ++ (x0 :: g').flatten ++ [41]], some (.str (x0 :: g').flatten), (q, (x0 :: g').map .str) :: mem, rfl, ?_, ?_, (gsOK_cons (by simp) hgr).2, ?_, ?_, ?_⟩
          · rw [show i + 1 + (x0 :: g').length = i + (1 + (x0 :: g').length) by omega, ← List.drop_drop, hdrop]
            exact List.drop_left' (by simp; omega)
          · simp at hilen ⊢; omega
          · rw [hres, joinG_cons _ _ (by simp)]; simp
          · simp; omega
          · simp
  rintro a ⟨fx, mem, rfl⟩
  have hfin : (pre ++ joinG gs).flatten.length ≤ 10000 := by
    have h1 := flat_le (l := pre) (k := 10) fun x hx => ht x (by rw [← hinp]; simp; exact .inl hx)
    have h2 := joinG_len gs fun x hx => ht x (by rw [← hinp]; simp; exact .inr hx)
    have h3 : inp.length = pre.length + (grpsP gs).length := by rw [← hinp]; simp
    rw [List.flatten_append, List.length_append]; omega
  refine at_next ?_
  repeat tb_rel
  refine ⟨by simp, ?_⟩
  repeat tb_rel
  refine te_meth "str" "str.join" PySem.F.plainAttrs_str PySem.F.slot_str_join PySem.F.type_str_join ?_
  repeat tb_rel
  refine ⟨.str _, ?_⟩
  repeat tb_rel
  rw [cE]
  refine tc_join_mem (.head _) (by omega) ?_
  repeat tb_rel
  rw [cS]
  repeat tb_rel
  rw [cZ]
  repeat tb_rel
  show _ = _
  simp [joinT]
end Mine
end
section
namespace Mine
set_option maxRecDepth 100000
set_option maxHeartbeats 2000000
theorem spec_map {W : Wd} (hp : PF W) {od : Option Addr} {es : Array DictEntry} {ep : Nat} {sl : Array (Option Value)} (ho : (hK W.w.params).lookup 52 = some ⟨.type "dict", od, .dict es ep, sl⟩) (hod : od = none) (hsl : sl = #[])
    (hk : ∀ e ∈ es, ∃ k t, e.key = .int k t ∧ e.hash = hashInt k) {h : Heap} (hh : ∀ b o, W.h0.get? b = some o → h.get? b = some o) : h.MapOf (intKind W.prog W.w) 52 (fun k => findBy Value.isInt es k) := by
  refine ⟨_, es, ep, hh _ _ (hp.K _ _ ho), ⟨rfl, hod, hsl⟩, rfl, fun e he => ?_, fun k => rfl⟩
  obtain ⟨k, t, h1, h2⟩ := hk e he
  exact ⟨k, by rw [h1]; simp [intKind, Value.isInt], h2⟩
noncomputable def Spec (W : Wd) (es : Array DictEntry) : Prop := (∀ h : Heap, (∀ b o, W.h0.get? b = some o → h.get? b = some o) → h.MapOf (intKind W.prog W.w) 52 (fun k => findBy Value.isInt es k)) ∧
  (∀ k ∈ ([97, 98, 95, 67] : List Int), findBy Value.isInt es k = none) ∧ findBy Value.isInt es 36 = some (.str "\\$" 421) ∧ findBy Value.isInt es 46 = some (.str "\\." 433)
theorem spec_mk {W : Wd} (hp : PF W) {od : Option Addr} {es : Array DictEntry} {ep : Nat} {sl : Array (Option Value)} (ho : (hK W.w.params).lookup 52 = some ⟨.type "dict", od, .dict es ep, sl⟩) (hod : od = none) (hsl : sl = #[])
    (hk : (es.all fun e => match e.key with | .int k _ => e.hash == hashInt k | _ => false) = true) (h1 : (([97, 98, 95, 67] : List Int).all fun k => (findBy Value.isInt es k).isNone) = true) (h2 : findBy Value.isInt es 36 = some (.str "\\$" 421)) (h3 : findBy Value.isInt es 46 = some (.str "\\." 433)) : ∃ es, Spec W es := by
  refine ⟨es, fun h hh => spec_map hp ho hod hsl (fun e he => ?_) hh, fun k hk => ?_, h2, h3⟩
  · have := Array.all_eq_true_iff_forall_mem.mp hk e he
    cases hkey : e.key with
    | int k t => rw [hkey] at this; exact ⟨k, t, rfl, by simpa using this⟩
    | _ => rw [hkey] at this; cases this
  · have := List.all_eq_true.mp h1 k hk
    exact Option.isNone_iff_eq_none.mp this
theorem spec {W : Wd} (hp : PF W) : ∃ es, Spec W es := by
  refine' spec_mk hp ?ho rfl rfl ?hk ?h1 ?h2 ?h3
  case ho => k_is
  case hk => kernel_rfl
  case h1 => kernel_rfl
  case h2 => kernel_rfl
  case h3 => kernel_rfl
section
variable {c : Cx} {a : AS} {K : AV → AS → Prop}
theorem tc_isinstance {x : List Nat} (h : K (.bool true) a) : TC c a [.str x, .val (.type "str")] (fun vs => call (.builtin "isinstance") vs) K := fun t s F vs H cv => by
  rw [CvL] at cv; obtain ⟨v, r, rfl, c1, cv⟩ := cv
  rw [CvL] at cv; obtain ⟨v, r, rfl, c2, cv⟩ := cv
  rw [CvL] at cv; subst cv
  rw [Cv] at c1; rw [Cv] at c2; subst c2
  obtain ⟨t1, rfl⟩ := c1
  refine PySem.IsiPair.str_str ⟨.bool true, a, F, H, by rw [Cv], h⟩
theorem tc_translate {x : Nat} (y : List Nat) {es : Array DictEntry} (hx : x < 128) (hm : ∀ h : Heap, (∀ b o, c.W.h0.get? b = some o → h.get? b = some o) → h.MapOf (intKind c.W.prog c.W.w) 52 (fun k => findBy Value.isInt es k))
    (v : Option (Str × Tok)) (hv : findBy Value.isInt es (x : Int) = v.map fun y => .str y.1 y.2) (hy : ∀ y, v = some y → y.1.length = 2) (hr : v.elim (⟨#[x]⟩ : Str) (·.1) = ⟨y.toArray⟩) (h : K (.str y) a) :
    TC c a [.str [x], .val (.ref 52)] (fun vs => call (.builtin "str.translate") vs) K := fun t s F vs H cv => by
  rw [CvL] at cv; obtain ⟨v1, r, rfl, c1, cv⟩ := cv
  rw [CvL] at cv; obtain ⟨v2, r, rfl, c2, cv⟩ := cv
  rw [CvL] at cv; subst cv
  rw [Cv] at c1; rw [Cv] at c2; subst c2
  obtain ⟨t1, rfl⟩ := c1
  refine call_translate (f := fun k => findBy Value.isInt es k) (v := v) hx (by decide) c.handled (hm _ fun b o e => (H.st.old b o e).2) hv hy fun h' k t' hk => ?_
  have e : (match v with | none => (⟨#[x]⟩ : Str) | some y => y.1) = ⟨y.toArray⟩ := by rw [← hr]; cases v <;> rfl
  exact ⟨.str y, a, F, H.keeps ⟨h', k, rfl, hk⟩, by rw [Cv]; exact ⟨t', congrArg (fun z => Value.str z t') e⟩, h⟩
end
noncomputable def escP (x : Nat) : List Nat := if x = 36 ∨ x = 46 then [92, x] else [x]
theorem escape {W : Wd} (hp : PF W) (x : Nat) (hx : x ∈ [97, 98, 95, 67, 36, 46]) : Fc W true 1 (.ref 62) [.str [x]] (fun r => r = .str (escP x)) := by
  refine' Fc.introK hp ["pattern"] [] ["isinstance", "str", "_special_chars_map"] ?ho ?hc ?bd (bind1 ?hb) ?pl ?gg ?nd ?nk ?gk ?cell rfl ?body
  case ho => k_is
  case bd => (conv => lhs; whnf; arg 1; whnf) <;> rfl
  case hc => kernel_rfl
  case pl => exact ⟨rfl, rfl, rfl⟩
  case gg => exact ⟨rfl, rfl⟩
  case hb => intro u; rfl
  case nd => decide +kernel
  case nk => decide +kernel
  case gk => decide +kernel
  case cell => decide +kernel
  case body =>
  intro c hW hn hg hq hl
  subst hW
  have n0 : c.names[0]? = some ("pattern" : Str) := by rw [hn]; rfl
  have g0 : ("isinstance" : Str) ∈ c.gl := by rw [hg]; decide +kernel
  have v0 := gf_isinstance hp
  have kv0 : KeptV c.W (.builtin "isinstance") := trivial
  have g1 : ("str" : Str) ∈ c.gl := by rw [hg]; decide +kernel
  have v1 := gf_str hp
  have kv1 : KeptV c.W (.type "str") := trivial
  have g2 : ("_special_chars_map" : Str) ∈ c.gl := by rw [hg]; decide +kernel
  have v2 := gf__special_chars_map hp
  clear hn hg
  repeat tb_rel
  refine tc_isinstance ?_
  repeat tb_rel
  refine te_meth "str" "str.translate" PySem.F.plainAttrs_str PySem.F.slot_str_translate PySem.F.type_str_translate ?_
  repeat tb_rel
  refine ⟨.str _, ?_⟩
  repeat tb_rel
  obtain ⟨es, k1, k2, k3, k4⟩ := spec hp
  have e1 : ("\\$" : Str) = ⟨[92, 36].toArray⟩ := by decide +kernel
  have e2 : ("\\." : Str) = ⟨[92, 46].toArray⟩ := by decide +kernel
  simp only [List.mem_cons, List.not_mem_nil, or_false] at hx
  rcases hx with rfl | rfl | rfl | rfl | rfl | rfl
  · refine tc_translate (x := 97) (es := es) [97] (by decide) k1 none (k2 97 (by simp)) (fun y e => by cases e) rfl ?_
    repeat tb_rel
    exact rfl
  · refine tc_translate (x := 98) (es := es) [98] (by decide) k1 none (k2 98 (by simp)) (fun y e => by cases e) rfl ?_
    repeat tb_rel
    exact rfl
  · refine tc_translate (x := 95) (es := es) [95] (by decide) k1 none (k2 95 (by simp)) (fun y e => by cases e) rfl ?_
    repeat tb_rel
    exact rfl
  · refine tc_translate (x := 67) (es := es) [67] (by decide) k1 none (k2 67 (by simp)) (fun y e => by cases e) rfl ?_
    repeat tb_rel
    exact rfl
  · refine tc_translate (x := 36) (es := es) [92, 36] (by decide) k1 (some ("\\$", 421)) k3 (fun y e => by cases e; decide +kernel) e1 ?_
    repeat tb_rel
    exact rfl
  · refine tc_translate (x := 46) (es := es) [92, 46] (by decide) k1 (some ("\\.", 433)) k4 (fun y e => by cases e; decide +kernel) e2 ?_
    repeat tb_rel
    exact rfl
end Mine
end
section
namespace Mine
/-- a pattern's items on a word: the plain meaning -/
noncomputable def mt : List (Option It) → List Nat → Prop
  | [], w => w = []
  | none :: ts, w => ∃ k, k ≤ w.length ∧ mt ts (w.drop k)
  | some x :: ts, w => ∃ y v, w = y :: v ∧ itOK x y = true ∧ mt ts v
theorem mt_append : ∀ (A B : List (Option It)) (w : List Nat), mt (A ++ B) w ↔ ∃ k, k ≤ w.length ∧ mt A (w.take k) ∧ mt B (w.drop k)
  | [], B, w => by
    constructor
    · intro h; exact ⟨0, by omega, rfl, h⟩
    · rintro ⟨k, hk, h1, h2⟩
      have : w.take k = [] := h1
      rcases List.take_eq_nil_iff.mp this with e | e
      · subst e; exact h2
      · subst e; simpa using h2
  | none :: A, B, w => by
    constructor
    · rintro ⟨k, hk, h⟩
      obtain ⟨j, hj, h1, h2⟩ := (mt_append A B _).mp h
      simp at hj
      refine ⟨k + j, by omega, ⟨k, by simp; omega, ?_⟩, ?_⟩
      · rw [List.drop_take]; simpa using h1
      · rw [← List.drop_drop]; exact h2
    · rintro ⟨k, hk, ⟨j, hj, h1⟩, h2⟩
      simp at hj
      refine ⟨j, by omega, (mt_append A B _).mpr ⟨k - j, by simp; omega, ?_, ?_⟩⟩
      · rw [List.drop_take] at h1; exact h1
      · rw [List.drop_drop, show j + (k - j) = k by omega]; exact h2
  | some x :: A, B, w => by
    constructor
    · rintro ⟨y, v, rfl, ho, h⟩
      obtain ⟨j, hj, h1, h2⟩ := (mt_append A B _).mp h
      exact ⟨j + 1, by simp; omega, ⟨y, v.take j, rfl, ho, h1⟩, h2⟩
    · rintro ⟨k, hk, ⟨y, v, e, ho, h1⟩, h2⟩
      cases w with
      | nil => simp at e
      | cons z w =>
        cases k with
        | zero => simp at e
        | succ k =>
          simp at e
          obtain ⟨rfl, rfl⟩ := e
          exact ⟨z, w, rfl, ho, (mt_append A B _).mpr ⟨k, by simp at hk; omega, h1, by simpa using h2⟩⟩
/-! the places -/
noncomputable def r3it (x : R3) : Option It := if x.2.1 = 0 then none else some (x.2.1, x.2.2)
theorem nxP_some {word : List Nat} {x : R3} {p q : Nat} : nxP word x p = some q ↔ ∃ y, word[p]? = some y ∧ itOK (x.2.1, x.2.2) y = true ∧ q = p + 1 := by
  unfold nxP itOK
  cases word[p]? with
  | none => simp
  | some y =>
    simp only [Option.some.injEq]
    constructor
    · intro h
      split at h
      · rename_i h2; cases h; exact ⟨y, rfl, h2, rfl⟩
      · cases h
    · rintro ⟨z, e, h2, rfl⟩
      subst e
      rw [if_pos h2]
theorem places_mt (word : List Nat) : ∀ (l : List R3) (places : List Nat), places.Pairwise (· < ·) → (∀ p ∈ places, p ≤ word.length) →
    (word.length ∈ l.foldl (stepP word) places ↔ ∃ q, q ∈ places ∧ mt (l.map r3it) (word.drop q))
  | [], places, hs, hb => by
    constructor
    · intro h; exact ⟨_, h, by simp [mt]⟩
    · rintro ⟨q, hq, h⟩
      have h' : word.drop q = [] := h
      have := List.drop_eq_nil_iff.mp h'
      have := hb q hq
      have e : q = word.length := by omega
      subst e; exact hq
  | x :: l, places, hs, hb => by
    rw [List.foldl_cons, List.map_cons]
    by_cases hx : x.2.1 = 0
    · have e1 : stepP word places x = (List.range (word.length + 1)).filter (gtP places) := by unfold stepP; rw [if_pos hx]
      have e2 : r3it x = none := by unfold r3it; rw [if_pos hx]
      rw [places_mt word l _ (by rw [e1]; exact List.Pairwise.filter _ List.pairwise_lt_range) (fun p hp => by rw [e1] at hp; have := (List.mem_filter.mp hp).1; simp at this; omega), e1, e2]
      constructor
      · rintro ⟨q, hq, h⟩
        obtain ⟨h1, h2⟩ := List.mem_filter.mp hq
        cases places with
        | nil => simp [gtP] at h2
        | cons p ps =>
          simp [gtP] at h2 h1
          refine ⟨p, .head _, q - p, by simp; omega, ?_⟩
          rw [List.drop_drop, show p + (q - p) = q by omega]; exact h
      · rintro ⟨q, hq, k, hk, h⟩
        simp at hk
        have hbq := hb q hq
        refine ⟨q + k, List.mem_filter.mpr ⟨by simp; omega, ?_⟩, by rw [← List.drop_drop]; exact h⟩
        cases places with
        | nil => cases hq
        | cons p ps =>
          simp only [gtP, decide_eq_true_eq]
          rcases List.mem_cons.mp hq with rfl | hq
          · omega
          · have := (List.pairwise_cons.mp hs).1 q hq; omega
    · have e1 : stepP word places x = places.filterMap (nxP word x) := by unfold stepP; rw [if_neg hx]
      have e2 : r3it x = some (x.2.1, x.2.2) := by unfold r3it; rw [if_neg hx]
      have hs' : (places.filterMap (nxP word x)).Pairwise (· < ·) := by
        rw [List.pairwise_filterMap]
        refine hs.imp fun {a b} hab a' ha b' hb' => ?_
        obtain ⟨_, _, _, rfl⟩ := nxP_some.mp ha
        obtain ⟨_, _, _, rfl⟩ := nxP_some.mp hb'
        omega
      rw [places_mt word l _ (by rw [e1]; exact hs') (fun p hp => ?_), e1, e2]
      · constructor
        · rintro ⟨q, hq, h⟩
          obtain ⟨p, hp, hn⟩ := List.mem_filterMap.mp hq
          obtain ⟨y, hy, ho, rfl⟩ := nxP_some.mp hn
          obtain ⟨hlt, e⟩ := List.getElem?_eq_some_iff.mp hy
          exact ⟨p, hp, y, word.drop (p + 1), by rw [← e]; exact List.drop_eq_getElem_cons hlt, ho, h⟩
        · rintro ⟨p, hp, y, v, e, ho, h⟩
          have hlt : p < word.length := by
            rcases Nat.lt_or_ge p word.length with h1 | h1
            · exact h1
            · rw [List.drop_eq_nil_of_le h1] at e; cases e
          rw [List.drop_eq_getElem_cons hlt] at e
          obtain ⟨e3, e4⟩ := List.cons.inj e
          refine ⟨p + 1, List.mem_filterMap.mpr ⟨p, hp, nxP_some.mpr ⟨y, by rw [List.getElem?_eq_getElem hlt, e3], ho, rfl⟩⟩, ?_⟩
          rw [e4]; exact h
      · rw [e1] at hp
        obtain ⟨q, hq, hn⟩ := List.mem_filterMap.mp hp
        obtain ⟨y, hy, ho, rfl⟩ := nxP_some.mp hn
        obtain ⟨hlt, e⟩ := List.getElem?_eq_some_iff.mp hy
        omega
theorem means_mt (l : List R3) (word : List Nat) : meansB (some l) word = true ↔ mt (l.map r3it) word := by
  unfold meansB placesP
  rw [decide_eq_true_eq, places_mt word l [0] (by simp) (by simp)]
  simp
theorem meansNone_mt (word : List Nat) : meansB none word = true ↔ mt [some (1, [67])] word := by
  unfold meansB
  rw [decide_eq_true_eq]
  constructor
  · rintro rfl; exact ⟨67, [], rfl, by decide, rfl⟩
  · rintro ⟨y, v, rfl, ho, h⟩
    have hv : v = [] := h
    subst hv
    simp [itOK] at ho
    rw [ho]
/-! the rows -/
theorem fits_mt (ts : List (Option It)) : ∀ (row : List It) (name : List Nat) (a : Nat), a ≤ name.length → (mt (row.map some ++ ts) (name.drop a) ↔ fitsB row name a = true ∧ mt ts (name.drop (a + row.length)))
  | [], name, a, ha => by simp [fitsB, ha]
  | x :: row, name, a, ha => by
    have hf : fitsB (x :: row) name a = true ↔ ∃ y, name[a]? = some y ∧ itOK x y = true ∧ fitsB row name (a + 1) = true := by
      unfold fitsB
      simp only [Bool.and_eq_true, decide_eq_true_eq, List.all_eq_true, List.mem_range, List.length_cons]
      constructor
      · rintro ⟨h1, h2⟩
        have hlt : a < name.length := by omega
        refine ⟨name[a], List.getElem?_eq_getElem hlt, ?_, by omega, fun k hk => ?_⟩
        · have := h2 0 (by omega)
          simpa [List.getElem?_eq_getElem hlt] using this
        · have := h2 (k + 1) (by omega)
          rw [List.getElem?_cons_succ, show a + (k + 1) = a + 1 + k by omega] at this
          exact this
      · rintro ⟨y, hy, ho, h1, h2⟩
        refine ⟨by omega, fun k hk => ?_⟩
        cases k with
        | zero => simp [hy, ho]
        | succ k =>
          rw [List.getElem?_cons_succ, show a + (k + 1) = a + 1 + k by omega]
          exact h2 k (by omega)
    rw [hf, List.map_cons, List.cons_append]
    constructor
    · rintro ⟨y, v, e, ho, h⟩
      have hlt : a < name.length := by
        rcases Nat.lt_or_ge a name.length with h1 | h1
        · exact h1
        · rw [List.drop_eq_nil_of_le h1] at e; cases e
      rw [List.drop_eq_getElem_cons hlt] at e
      obtain ⟨e3, e4⟩ := List.cons.inj e
      rw [← e4] at h
      obtain ⟨h1, h2⟩ := (fits_mt ts row name (a + 1) hlt).mp h
      refine ⟨⟨y, by rw [List.getElem?_eq_getElem hlt, e3], ho, h1⟩, ?_⟩
      rw [List.length_cons, show a + (row.length + 1) = a + 1 + row.length by omega]; exact h2
    · rintro ⟨⟨y, hy, ho, h1⟩, h2⟩
      obtain ⟨hlt, e⟩ := List.getElem?_eq_some_iff.mp hy
      refine ⟨y, name.drop (a + 1), by rw [← e]; exact List.drop_eq_getElem_cons hlt, ho, (fits_mt ts row name (a + 1) hlt).mpr ⟨h1, ?_⟩⟩
      rw [List.length_cons, show a + (row.length + 1) = a + 1 + row.length by omega] at h2; exact h2
theorem fitsB_len {row : List It} {name : List Nat} {k : Nat} (h : fitsB row name k = true) : k + row.length ≤ name.length := by
  unfold fitsB at h
  simp only [Bool.and_eq_true, decide_eq_true_eq] at h
  exact h.1
/-- behind a star a later start is met from an earlier one -/
theorem mt_star_up {ts : List (Option It)} {name : List Nat} {a b : Nat} (hab : a ≤ b) (hb : b ≤ name.length) (h : mt (none :: ts) (name.drop b)) : mt (none :: ts) (name.drop a) := by
  obtain ⟨k, hk, h⟩ := h
  simp at hk
  refine ⟨b - a + k, by simp; omega, ?_⟩
  rw [List.drop_drop] at h ⊢
  rw [show a + (b - a + k) = b + k by omega]; exact h
noncomputable def stars (gs : List (List It)) : List (Option It) := gs.flatMap fun g => none :: g.map some
theorem stars_cons (g : List It) (gs : List (List It)) : stars (g :: gs) = none :: (g.map some ++ stars gs) := rfl
theorem mt_mid (row : List It) (ts : List (Option It)) (name : List Nat) (a : Nat) (ha : a ≤ name.length) :
    mt (none :: (row.map some ++ none :: ts)) (name.drop a) ↔ ∃ k, seekB row name a = some k ∧ k + row.length ≤ name.length ∧ mt (none :: ts) (name.drop (k + row.length)) := by
  constructor
  · rintro ⟨k, hk, h⟩
    simp at hk
    rw [List.drop_drop] at h
    obtain ⟨h1, h2⟩ := (fits_mt _ row name (a + k) (by omega)).mp h
    cases hs : seekB row name a with
    | none =>
      unfold seekB at hs
      rw [List.find?_range_eq_none] at hs
      have := hs (a + k) (by omega)
      simp [h1] at this
    | some j =>
      unfold seekB at hs
      rw [List.find?_range_eq_some] at hs
      obtain ⟨hj1, hj2, hj3⟩ := hs
      have hjk : j ≤ a + k := by
        rcases Nat.lt_or_ge (a + k) j with h5 | h5
        · have := hj3 (a + k) h5; simp [h1] at this
        · exact h5
      have hl := fitsB_len h1
      exact ⟨j, rfl, by omega, mt_star_up (by omega) hl h2⟩
  · rintro ⟨k, hs, hl, h⟩
    unfold seekB at hs
    rw [List.find?_range_eq_some] at hs
    obtain ⟨hj1, hj2, hj3⟩ := hs
    simp at hj1
    refine ⟨k - a, by simp; omega, ?_⟩
    rw [List.drop_drop, show a + (k - a) = k by omega]
    exact (fits_mt _ row name k (by omega)).mpr ⟨hj1.2, h⟩
theorem mt_last (row : List It) (name : List Nat) (a : Nat) (ha : a ≤ name.length) :
    mt (none :: row.map some) (name.drop a) ↔ a + row.length ≤ name.length ∧ fitsB row name (name.length - row.length) = true := by
  constructor
  · rintro ⟨k, hk, h⟩
    simp at hk
    rw [List.drop_drop, ← List.append_nil (row.map some)] at h
    obtain ⟨h1, h2⟩ := (fits_mt _ row name (a + k) (by omega)).mp h
    have hl := fitsB_len h1
    have h3 : name.drop (a + k + row.length) = [] := h2
    have := List.drop_eq_nil_iff.mp h3
    have e : name.length - row.length = a + k := by omega
    rw [e]
    exact ⟨by omega, h1⟩
  · rintro ⟨h1, h2⟩
    refine ⟨name.length - row.length - a, by simp; omega, ?_⟩
    rw [List.drop_drop, show a + (name.length - row.length - a) = name.length - row.length by omega, ← List.append_nil (row.map some)]
    refine (fits_mt _ row name _ (by omega)).mpr ⟨h2, ?_⟩
    show _ = _
    rw [List.drop_eq_nil_iff]; omega
theorem rows_mt : ∀ (gs : List (List It)) (hne : gs ≠ []) (name : List Nat) (a : Nat), a ≤ name.length → (mt (stars gs) (name.drop a) ↔ (match midB gs.dropLast name a with
    | none => false
    | some at' => decide (at' + (gs.getLast hne).length ≤ name.length) && fitsB (gs.getLast hne) name (name.length - (gs.getLast hne).length)) = true)
  | [g], _, name, a, ha => by
    rw [stars_cons, show stars ([] : List (List It)) = [] from rfl, List.append_nil, mt_last g name a ha]
    show _ ↔ (decide (a + g.length ≤ name.length) && fitsB g name (name.length - g.length)) = true
    rw [Bool.and_eq_true, decide_eq_true_eq]
  | g :: g2 :: gs, _, name, a, ha => by
    rw [stars_cons, stars_cons, mt_mid g _ name a ha, List.dropLast_cons_cons]
    rw [List.getLast_cons_cons]
    unfold midB
    constructor
    · rintro ⟨k, hs, hl, h⟩
      rw [hs]
      exact (rows_mt (g2 :: gs) (by simp) name _ hl).mp h
    · intro h
      cases hs : seekB g name a with
      | none => rw [hs] at h; cases h
      | some k =>
        rw [hs] at h
        have hl : k + g.length ≤ name.length := by
          unfold seekB at hs
          rw [List.find?_range_eq_some] at hs
          have := hs.1
          simp at this
          exact fitsB_len this.2
        exact ⟨k, rfl, hl, (rows_mt (g2 :: gs) (by simp) name _ hl).mpr h⟩
theorem takes_mt (pre : List It) (gs : List (List It)) (name : List Nat) : takesB (pre :: gs) name = true ↔ mt (pre.map some ++ stars gs) name := by
  have h0 := fits_mt (stars gs) pre name 0 (by omega)
  rw [List.drop_zero, Nat.zero_add] at h0
  rw [h0]
  cases gs with
  | nil =>
    show (decide (pre.length = name.length) && fitsB pre name 0) = true ↔ _
    rw [Bool.and_eq_true, decide_eq_true_eq]
    constructor
    · rintro ⟨h1, h2⟩
      refine ⟨h2, ?_⟩
      show _ = _
      rw [List.drop_eq_nil_iff]; omega
    · rintro ⟨h1, h2⟩
      have h3 : name.drop pre.length = [] := h2
      have := List.drop_eq_nil_iff.mp h3
      have := fitsB_len h1
      exact ⟨by omega, h1⟩
  | cons g gs =>
    show (fitsB pre name 0 && _) = true ↔ _
    rw [Bool.and_eq_true]
    constructor
    · rintro ⟨h1, h2⟩
      have := fitsB_len h1
      exact ⟨h1, (rows_mt (g :: gs) (by simp) name _ (by omega)).mpr h2⟩
    · rintro ⟨h1, h2⟩
      have := fitsB_len h1
      exact ⟨h1, (rows_mt (g :: gs) (by simp) name _ (by omega)).mp h2⟩
end Mine
end
section
namespace Mine
/-- a piece of a pattern: its text, what translate makes of it, what that means; none is the star -/
noncomputable abbrev Sk := List Nat × Tk
noncomputable def skTab : List Sk := [([63], ([46], (2, []))), ([97], ([97], (1, [97]))), ([98], ([98], (1, [98]))), ([95], ([95], (1, [95]))), ([67], ([67], (1, [67]))), ([91, 97, 98, 93], ([91, 97, 98, 93], (1, [97, 98]))),
  ([91, 33, 97, 93], ([91, 94, 97, 93], (2, [97]))), ([91, 98, 45, 97, 93], ([40, 63, 33, 41], (1, []))), ([91, 33, 98, 45, 97, 93], ([46], (2, []))), ([91, 95, 98, 45, 97, 67, 93], ([91, 95, 67, 93], (1, [95, 67]))),
  ([91, 33, 46, 93], ([91, 94, 46, 93], (2, [46]))), ([91, 46, 93], ([91, 46, 93], (1, [46]))), ([36], ([92, 36], (1, [36])))]
noncomputable def dotSk : Sk := ([46], ([92, 46], (1, [46])))
noncomputable def allSk : List Sk := dotSk :: skTab
noncomputable def srcOf (ts : List (Option Sk)) : List Nat := ts.flatMap fun o => match o with | none => [42] | some s => s.1
noncomputable def ddStep (acc : List Pt) : Option Sk → List Pt
  | none => if acc.getLast? = some none then acc else acc ++ [none]
  | some s => acc ++ [some s.2.1]
noncomputable def dd (ts : List (Option Sk)) : List Pt := ts.foldl ddStep []
noncomputable def itOf : Option Sk → Option It := Option.map fun s => s.2.2
theorem dd_behind (acc : List Pt) (h : acc.getLast? ≠ some none) : ∀ (ts : List (Option Sk)) (r : List Pt), ts.foldl ddStep (acc ++ r) = acc ++ ts.foldl ddStep r
  | [], r => rfl
  | none :: ts, r => by
    rw [List.foldl_cons, List.foldl_cons]
    have e : ddStep (acc ++ r) none = acc ++ ddStep r none := by
      unfold ddStep
      cases r with
      | nil => rw [List.append_nil, if_neg h, if_neg (by simp)]; rfl
      | cons x r =>
        have e2 : (acc ++ x :: r).getLast? = (x :: r).getLast? := by rw [List.getLast?_append]; simp [List.getLast?_cons]
        show (if _ then _ else _) = acc ++ (if _ then _ else _)
        rw [e2]
        by_cases h3 : (x :: r).getLast? = some none
        · rw [if_pos h3, if_pos h3]
        · rw [if_neg h3, if_neg h3]; simp
    rw [e, dd_behind acc h ts]
  | some s :: ts, r => by
    rw [List.foldl_cons, List.foldl_cons]
    have e : ddStep (acc ++ r) (some s) = acc ++ ddStep r (some s) := by unfold ddStep; simp
    rw [e, dd_behind acc h ts]
/-- the pieces stay apart at a sign -/
theorem dd_split (A B : List (Option Sk)) (s : Sk) : dd (A ++ some s :: B) = dd A ++ [some s.2.1] ++ dd B := by
  unfold dd
  rw [List.foldl_append, List.foldl_cons]
  have := dd_behind (A.foldl ddStep [] ++ [some s.2.1]) (by simp) B []
  rw [List.append_nil] at this
  exact this
noncomputable def grp : List (Option Sk) → List Sk × List (List Sk)
  | [] => ([], [])
  | some s :: r => (s :: (grp r).1, (grp r).2)
  | none :: r => if (grp r).1 = [] ∧ (grp r).2 ≠ [] then ([], (grp r).2) else ([], (grp r).1 :: (grp r).2)
noncomputable def ddR : List (Option Sk) → Bool → List Pt
  | [] => fun _ => []
  | none :: r => fun b => if b = true then ddR r true else none :: ddR r true
  | some s :: r => fun _ => some s.2.1 :: ddR r false
theorem dd_R : ∀ (ts : List (Option Sk)) (acc : List Pt), ts.foldl ddStep acc = acc ++ ddR ts (decide (acc.getLast? = some none))
  | [], acc => by simp [ddR]
  | none :: ts, acc => by
    rw [List.foldl_cons, dd_R ts]
    by_cases h : acc.getLast? = some none
    · have e : ddStep acc none = acc := by unfold ddStep; exact if_pos h
      rw [e, decide_eq_true h]; rfl
    · have e : ddStep acc none = acc ++ [none] := by unfold ddStep; exact if_neg h
      rw [e, decide_eq_false h]
      show acc ++ [none] ++ ddR ts _ = acc ++ none :: ddR ts true
      simp
  | some s :: ts, acc => by
    rw [List.foldl_cons, dd_R ts]
    unfold ddStep
    simp [ddR]
noncomputable def tx (l : List Sk) : List (List Nat) := l.map fun s => s.2.1
theorem ddR_grp : ∀ (ts : List (Option Sk)), ddR ts false = (tx (grp ts).1).map some ++ grpsP ((grp ts).2.map tx) ∧
    none :: ddR ts true = (if (grp ts).1 = [] ∧ (grp ts).2 ≠ [] then grpsP ((grp ts).2.map tx) else none :: ((tx (grp ts).1).map some ++ grpsP ((grp ts).2.map tx)))
  | [] => by simp [ddR, grp, tx, grpsP]
  | some s :: ts => by
    have ih := ddR_grp ts
    have e : ddR (some s :: ts) false = (tx (grp (some s :: ts)).1).map some ++ grpsP ((grp (some s :: ts)).2.map tx) := by
      simp [ddR, grp, tx, ih.1]
    refine ⟨e, ?_⟩
    rw [if_neg (by simp [grp])]
    rw [← e]
    simp [ddR]
  | none :: ts => by
    have ih := ddR_grp ts
    have e1 : ddR (none :: ts) false = none :: ddR ts true := by simp [ddR]
    have e2 : ddR (none :: ts) true = ddR ts true := by simp [ddR]
    have e3 : none :: ddR ts true = (tx (grp (none :: ts)).1).map some ++ grpsP ((grp (none :: ts)).2.map tx) := by
      rw [ih.2]
      by_cases h : (grp ts).1 = [] ∧ (grp ts).2 ≠ []
      · have : grp (none :: ts) = ([], (grp ts).2) := by rw [grp, if_pos h]
        rw [if_pos h, this]; simp [tx]
      · have : grp (none :: ts) = ([], (grp ts).1 :: (grp ts).2) := by rw [grp, if_neg h]
        rw [if_neg h, this]; simp [tx, grpsP]
    have e4 : (grp (none :: ts)).1 = [] ∧ (grp (none :: ts)).2 ≠ [] := by
      rw [grp]; split
      · rename_i h; exact ⟨rfl, h.2⟩
      · exact ⟨rfl, by simp⟩
    refine ⟨e1.trans e3, ?_⟩
    rw [e2, if_pos e4, e3, e4.1]; simp [tx]
theorem dd_grp (ts : List (Option Sk)) : dd ts = (tx (grp ts).1).map some ++ grpsP ((grp ts).2.map tx) := by
  have := dd_R ts []
  rw [show dd ts = ts.foldl ddStep [] from rfl, this]
  exact (ddR_grp ts).1
end Mine
end
section
namespace Mine
noncomputable def neG : List (List Sk) → Prop
  | [] => True
  | [_] => True
  | g :: gs => g ≠ [] ∧ neG gs
theorem grp_ne : ∀ ts : List (Option Sk), neG (grp ts).2
  | [] => trivial
  | some s :: ts => grp_ne ts
  | none :: ts => by
    have ih := grp_ne ts
    rw [grp]
    split
    · exact ih
    · rename_i h
      show neG ((grp ts).1 :: (grp ts).2)
      cases hg : (grp ts).2 with
      | nil => trivial
      | cons x y =>
        rw [hg] at ih h
        exact ⟨fun e => h ⟨e, by simp⟩, ih⟩
theorem gsOK_tx : ∀ gs : List (List Sk), neG gs → gsOK (gs.map tx)
  | [], _ => trivial
  | [_], _ => trivial
  | g :: g2 :: gs, h => ⟨fun e => h.1 (by cases g with | nil => rfl | cons _ _ => cases e), gsOK_tx (g2 :: gs) h.2⟩
theorem grp_mem : ∀ (ts : List (Option Sk)), (∀ s ∈ (grp ts).1, some s ∈ ts) ∧ (∀ g ∈ (grp ts).2, ∀ s ∈ g, some s ∈ ts)
  | [] => by simp [grp]
  | some s :: ts => by
    have ih := grp_mem ts
    constructor
    · intro x hx
      rcases List.mem_cons.mp hx with rfl | hx
      · exact .head _
      · exact .tail _ (ih.1 x hx)
    · intro g hg x hx
      exact .tail _ (ih.2 g hg x hx)
  | none :: ts => by
    have ih := grp_mem ts
    rw [grp]
    split
    · exact ⟨fun x hx => (by cases hx), fun g hg x hx => .tail _ (ih.2 g hg x hx)⟩
    · refine ⟨fun x hx => (by cases hx), fun g hg x hx => ?_⟩
      rcases List.mem_cons.mp hg with rfl | hg
      · exact .tail _ (ih.1 x hx)
      · exact .tail _ (ih.2 g hg x hx)
theorem grp_len : ∀ (ts : List (Option Sk)), (grp ts).1.length + (grp ts).2.flatten.length + (grp ts).2.length ≤ ts.length
  | [] => by simp [grp]
  | some s :: ts => by
    have ih := grp_len ts
    show (s :: (grp ts).1).length + (grp ts).2.flatten.length + (grp ts).2.length ≤ _
    simp only [List.length_cons]; omega
  | none :: ts => by
    have ih := grp_len ts
    rw [grp]
    split
    · simp only [List.length_cons, List.length_nil]; omega
    · simp only [List.length_cons, List.length_nil, List.flatten_cons, List.length_append]; omega
/-! the stream of a text -/
noncomputable def tks (l : List Sk) : List Sy := l.map fun s => .tk s.2
noncomputable def syG : List (List Sk) → List Sy
  | [] => []
  | [g] => .fin :: tks g
  | g :: gs => .grp :: (tks g ++ .cls :: syG gs)
theorem syG_cons (g g2 : List Sk) (gs : List (List Sk)) : syG (g :: g2 :: gs) = .grp :: (tks g ++ .cls :: syG (g2 :: gs)) := rfl
noncomputable def syOf (ts : List (Option Sk)) : List Sy := tks (grp ts).1 ++ syG (grp ts).2
theorem rend_tks (l : List Sk) : (tks l).flatMap rend = (tx l).flatten := by
  induction l with
  | nil => rfl
  | cons s l ih =>
    show rend (.tk s.2) ++ (tks l).flatMap rend = _
    rw [ih]; rfl
theorem rend_syG : ∀ gs : List (List Sk), (syG gs).flatMap rend = (joinG (gs.map tx)).flatten
  | [] => rfl
  | [g] => by
    show rend .fin ++ (tks g).flatMap rend = (if tx g = [] then _ else _ : List (List Nat)).flatten
    rw [rend_tks]
    split
    · rename_i h; rw [h]; rfl
    · simp [rend]
  | g :: g2 :: gs => by
    rw [syG_cons, List.map_cons, joinG_cons _ _ (by simp)]
    have ih := rend_syG (g2 :: gs)
    rw [List.flatMap_cons, List.flatMap_append, List.flatMap_cons, rend_tks, ih]
    simp [rend]
theorem joinT_sy (ts : List (Option Sk)) : joinT (tx (grp ts).1) ((grp ts).2.map tx) = [40, 63, 115, 58] ++ rendS (syOf ts) := by
  unfold joinT rendS syOf tailT
  rw [List.flatMap_append, rend_tks, rend_syG]
  simp
noncomputable def itsOf (l : List Sk) : List It := l.map fun s => s.2.2
theorem read_tks : ∀ (l : List Sk) (st : Nat) (done : List (List It)) (cur : List It) (r : List Sy), st ≠ 2 → readS st done cur (tks l ++ r) = readS st done (cur ++ itsOf l) r
  | [], st, done, cur, r, h => by simp [tks, itsOf]
  | s :: l, st, done, cur, r, h => by
    show (if st = 2 then none else readS st done (cur ++ [s.2.2]) (tks l ++ r)) = _
    rw [if_neg h, read_tks l st done _ r h]
    simp [itsOf]
theorem read_syG : ∀ (gs : List (List Sk)) (st : Nat) (done : List (List It)) (cur : List It), gs ≠ [] → st = 0 ∨ st = 2 → readS st done cur (syG gs) = some (done ++ [cur] ++ gs.map itsOf)
  | [g], st, done, cur, _, h => by
    show (if st = 0 ∨ st = 2 then readS 3 (done ++ [cur]) [] (tks g) else none) = _
    rw [if_pos h]
    have := read_tks g 3 (done ++ [cur]) [] [] (by decide)
    rw [List.append_nil] at this
    rw [this]
    simp [readS]
  | g :: g2 :: gs, st, done, cur, _, h => by
    rw [syG_cons]
    show (if st = 0 ∨ st = 2 then readS 1 (done ++ [cur]) [] (tks g ++ .cls :: syG (g2 :: gs)) else none) = _
    rw [if_pos h, read_tks g 1 _ _ _ (by decide)]
    show (if 1 = 1 then readS 2 (done ++ [cur]) ([] ++ itsOf g) (syG (g2 :: gs)) else none) = _
    rw [if_pos rfl, read_syG (g2 :: gs) 2 _ _ (by simp) (.inr rfl)]
    simp
noncomputable def rowsP (ts : List (Option Sk)) : List (List It) := itsOf (grp ts).1 :: (grp ts).2.map itsOf
theorem read_sy (ts : List (Option Sk)) : readS 0 [] [] (syOf ts) = some (rowsP ts) := by
  unfold syOf rowsP
  rw [read_tks _ 0 _ _ _ (by decide)]
  cases hg : (grp ts).2 with
  | nil => rfl
  | cons g gs => rw [read_syG _ _ _ _ (by simp) (.inl rfl)]; simp
theorem syG_ok : ∀ gs : List (List Sk), (∀ g ∈ gs, ∀ s ∈ g, s.2 ∈ tkTab) → ∀ y ∈ syG gs, y.ok
  | [], _, y, hy => by cases hy
  | [g], h, y, hy => by
    rcases List.mem_cons.mp hy with rfl | hy
    · trivial
    · obtain ⟨s, hs, rfl⟩ := List.mem_map.mp hy
      exact h g (.head _) s hs
  | g :: g2 :: gs, h, y, hy => by
    rw [syG_cons] at hy
    rcases List.mem_cons.mp hy with rfl | hy
    · trivial
    rcases List.mem_append.mp hy with hy | hy
    · obtain ⟨s, hs, rfl⟩ := List.mem_map.mp hy
      exact h g (.head _) s hs
    rcases List.mem_cons.mp hy with rfl | hy
    · trivial
    · exact syG_ok (g2 :: gs) (fun g hg => h g (.tail _ hg)) y hy
theorem allSk_tk : ∀ s ∈ allSk, s.2 ∈ tkTab := by decide
theorem syOf_ok {ts : List (Option Sk)} (h : ∀ s, some s ∈ ts → s ∈ allSk) : ∀ y ∈ syOf ts, y.ok := by
  have hm := grp_mem ts
  intro y hy
  rcases List.mem_append.mp hy with hy | hy
  · obtain ⟨s, hs, rfl⟩ := List.mem_map.mp hy
    exact allSk_tk s (h s (hm.1 s hs))
  · exact syG_ok _ (fun g hg s hs => allSk_tk s (h s (hm.2 g hg s hs))) y hy
theorem syG_len : ∀ gs : List (List Sk), (syG gs).length ≤ gs.flatten.length + 2 * gs.length
  | [] => by simp [syG]
  | [g] => by simp [syG, tks]
  | g :: g2 :: gs => by
    have ih := syG_len (g2 :: gs)
    rw [syG_cons]
    simp only [List.length_cons, List.length_append, List.flatten_cons, tks, List.length_map] at ih ⊢
    omega
theorem syOf_len (ts : List (Option Sk)) : (syOf ts).length ≤ 2 * ts.length := by
  have h1 := grp_len ts
  have h2 := syG_len (grp ts).2
  unfold syOf
  rw [List.length_append]
  simp only [tks, List.length_map]
  omega
theorem rowsP_len (ts : List (Option Sk)) : (rowsP ts).length ≤ ts.length + 1 ∧ ∀ r ∈ rowsP ts, r.length ≤ ts.length := by
  have h1 := grp_len ts
  unfold rowsP
  refine ⟨by simp; omega, fun r hr => ?_⟩
  rcases List.mem_cons.mp hr with rfl | hr
  · simp [itsOf]; omega
  · obtain ⟨g, hg, rfl⟩ := List.mem_map.mp hr
    have : g.length ≤ (grp ts).2.flatten.length := (List.sublist_flatten_of_mem hg).length_le
    simp [itsOf]; omega
/-! the meaning of the rows is that of the pieces -/
theorem mt_star2 {ts : List (Option It)} {w : List Nat} : mt (none :: none :: ts) w ↔ mt (none :: ts) w := by
  constructor
  · rintro ⟨k, hk, j, hj, h⟩
    simp at hj
    exact ⟨k + j, by omega, by rw [← List.drop_drop]; exact h⟩
  · rintro ⟨k, hk, h⟩
    exact ⟨k, hk, 0, by omega, by simpa using h⟩
theorem grp_mt : ∀ (ts : List (Option Sk)) (w : List Nat), mt ((itsOf (grp ts).1).map some ++ stars ((grp ts).2.map itsOf)) w ↔ mt (ts.map itOf) w
  | [], w => Iff.rfl
  | some s :: ts, w => by
    constructor
    · rintro ⟨y, v, e, ho, h⟩; exact ⟨y, v, e, ho, (grp_mt ts v).mp h⟩
    · rintro ⟨y, v, e, ho, h⟩; exact ⟨y, v, e, ho, (grp_mt ts v).mpr h⟩
  | none :: ts, w => by
    have step : mt (none :: ((itsOf (grp ts).1).map some ++ stars ((grp ts).2.map itsOf))) w ↔ mt ((none :: ts).map itOf) w := by
      constructor
      · rintro ⟨k, hk, h⟩; exact ⟨k, hk, (grp_mt ts _).mp h⟩
      · rintro ⟨k, hk, h⟩; exact ⟨k, hk, (grp_mt ts _).mpr h⟩
    rw [← step, grp]
    split
    · rename_i h
      rw [h.1]
      obtain ⟨g, gs, e⟩ := List.exists_cons_of_ne_nil h.2
      rw [e]
      show mt (none :: ((itsOf g).map some ++ stars (gs.map itsOf))) w ↔ mt (none :: none :: ((itsOf g).map some ++ stars (gs.map itsOf))) w
      exact mt_star2.symm
    · exact Iff.rfl
theorem rows_law (ts : List (Option Sk)) (name : List Nat) : takesB (rowsP ts) name = true ↔ mt (ts.map itOf) name := by
  unfold rowsP
  rw [takes_mt, grp_mt]
/-! the dot parts a name -/
theorem split_dot {a b a' b' : List Nat} (h : a ++ 46 :: b = a' ++ 46 :: b') (ha : 46 ∉ a) (hb : 46 ∉ b) : a' = a ∧ b' = b := by
  rcases List.append_eq_append_iff.mp h with ⟨c, e1, e2⟩ | ⟨c, e1, e2⟩
  · cases c with
    | nil => simp at e1 e2; exact ⟨e1, e2.symm⟩
    | cons x c =>
      simp at e2
      exact absurd (by rw [e2.2]; simp) hb
  · cases c with
    | nil => simp at e1 e2; exact ⟨e1.symm, e2⟩
    | cons x c =>
      simp at e2
      exact absurd (by rw [e1, ← e2.1]; simp) ha
theorem dot_mt (A B : List (Option It)) (w : List Nat) : mt (A ++ some (1, [46]) :: B) w ↔ ∃ u v, w = u ++ 46 :: v ∧ mt A u ∧ mt B v := by
  rw [mt_append]
  constructor
  · rintro ⟨k, hk, h1, y, v, e, ho, h2⟩
    have hy : y = 46 := by simpa [itOK] using ho
    subst hy
    exact ⟨w.take k, v, by rw [← e, List.take_append_drop], h1, h2⟩
  · rintro ⟨u, v, rfl, h1, h2⟩
    exact ⟨u.length, by simp, by simpa using h1, 46, v, by simp, rfl, h2⟩
/-- what a wish asks of a name, in one row -/
noncomputable def fullW (w : Option (List (Option Sk)) × Option (List (Option Sk))) : List (Option Sk) :=
  w.1.getD [some ([67], ([67], (1, [67])))] ++ (match w.2 with | none => [] | some e => some dotSk :: e)
noncomputable def r3Of : Option Sk → R3
  | none => ([42], 0, [])
  | some s => (s.1, s.2.2.1, s.2.2.2)
noncomputable def kindOK (ts : List (Option Sk)) : Prop := ∀ s, some s ∈ ts → s.2.2.1 ≠ 0
theorem r3it_of : ∀ (ts : List (Option Sk)), kindOK ts → (ts.map r3Of).map r3it = ts.map itOf
  | [], _ => rfl
  | none :: ts, h => by
    rw [List.map_cons, List.map_cons, List.map_cons, r3it_of ts fun s hs => h s (.tail _ hs)]; rfl
  | some s :: ts, h => by
    rw [List.map_cons, List.map_cons, List.map_cons, r3it_of ts fun s hs => h s (.tail _ hs)]
    have : r3it (r3Of (some s)) = itOf (some s) := by unfold r3it r3Of itOf; rw [if_neg (h s (.head _))]; rfl
    rw [this]
noncomputable abbrev WishS := Option (List (Option Sk)) × Option (List (Option Sk))
noncomputable def wishOf (w : WishS) : Wish := (w.1.map (·.map r3Of), w.2.map (·.map r3Of))
theorem means_full (o : Option (List (Option Sk))) (h : ∀ l, o = some l → kindOK l) (word : List Nat) : meansB (o.map (·.map r3Of)) word = true ↔ mt ((o.getD [some ([67], ([67], (1, [67])))]).map itOf) word := by
  cases o with
  | none => exact meansNone_mt word
  | some l =>
    show meansB (some (l.map r3Of)) word = true ↔ _
    rw [means_mt, r3it_of l (h l rfl)]; rfl
theorem told_mt (w : WishS) (h1 : ∀ l, w.1 = some l → kindOK l) (h2 : ∀ l, w.2 = some l → kindOK l) (l : Loc) (hl : ∀ x, l.1 = some x → 46 ∉ x) (he : ∀ x, l.2 = some x → 46 ∉ x) :
    toldB (wishOf w) l = true ↔ mt ((fullW w).map itOf) (nameP l) := by
  obtain ⟨w1, w2⟩ := w
  obtain ⟨l1, l2⟩ := l
  have hlang : 46 ∉ l1.getD [67] := by
    cases l1 with
    | none => decide
    | some x => exact hl x rfl
  have m1 := means_full w1 h1
  cases w2 with
  | none =>
    have e : fullW (w1, none) = w1.getD [some ([67], ([67], (1, [67])))] := by unfold fullW; simp
    rw [e]
    cases l2 with
    | none => exact m1 _
    | some e2 => exact m1 _
  | some e2 =>
    have e : (fullW (w1, some e2)).map itOf = (w1.getD [some ([67], ([67], (1, [67])))]).map itOf ++ some (1, [46]) :: e2.map itOf := by unfold fullW; simp [itOf, dotSk]
    rw [e, dot_mt]
    cases l2 with
    | none =>
      constructor
      · intro h; cases h
      · rintro ⟨u, v, hn, _⟩
        have hn' : l1.getD [67] = u ++ 46 :: v := hn
        exact absurd (by rw [hn']; simp) hlang
    | some e3 =>
      have hdot : 46 ∉ e3 := he e3 rfl
      have m2 := means_full (some e2) (fun l hl => by cases hl; exact h2 e2 rfl) e3
      show (meansB (w1.map (·.map r3Of)) (l1.getD [67]) && meansB (some (e2.map r3Of)) e3) = true ↔ _
      rw [Bool.and_eq_true]
      have hn : nameP (l1, some e3) = l1.getD [67] ++ 46 :: e3 := by unfold nameP; simp
      rw [hn]
      constructor
      · rintro ⟨h3, h4⟩
        exact ⟨_, _, rfl, (m1 _).mp h3, m2.mp h4⟩
      · rintro ⟨u, v, hs, h3, h4⟩
        obtain ⟨rfl, rfl⟩ := split_dot hs hlang hdot
        exact ⟨(m1 _).mpr h3, m2.mpr h4⟩
/-- the law of one wish and one locale -/
theorem wish_law (w : WishS) (h1 : ∀ l, w.1 = some l → kindOK l) (h2 : ∀ l, w.2 = some l → kindOK l) (l : Loc) (hl : ∀ x, l.1 = some x → 46 ∉ x) (he : ∀ x, l.2 = some x → 46 ∉ x) :
    takesB (rowsP (fullW w)) (nameP l) = toldB (wishOf w) l := by
  have := (rows_law (fullW w) (nameP l)).trans (told_mt w h1 h2 l hl he).symm
  cases h3 : takesB (rowsP (fullW w)) (nameP l) <;> cases h4 : toldB (wishOf w) l
  · rfl
  · rw [h3, h4] at this; simp at this
  · rw [h3, h4] at this; simp at this
  · rfl
end Mine
end
section
namespace Mine
set_option maxRecDepth 100000
set_option maxHeartbeats 8000000
/-- what stands between the brackets, what is left of it, what is made of it -/
noncomputable def brTab : List (List Nat × List Nat × List Nat) := [([97, 98], [97, 98], [91, 97, 98, 93]), ([33, 97], [33, 97], [91, 94, 97, 93]), ([98, 45, 97], [], [40, 63, 33, 41]), ([33, 98, 45, 97], [33], [46]), ([95, 98, 45, 97, 67], [95, 67], [91, 95, 67, 93]),
  ([33, 46], [33, 46], [91, 94, 46, 93]), ([46], [46], [91, 46, 93])]
theorem allSk_split : ∀ s ∈ allSk, s.1 = [63] ∧ s.2.1 = [46] ∨ (∃ x ∈ [97, 98, 95, 67, 36, 46], s.1 = [x] ∧ s.2.1 = escP x) ∨ ∃ b ∈ brTab, s.1 = [91] ++ b.1 ++ [93] ∧ s.2.1 = b.2.2 := by decide
theorem srcOf_app (A B : List (Option Sk)) : srcOf (A ++ B) = srcOf A ++ srcOf B := by unfold srcOf; exact List.flatMap_append
noncomputable def srcO : Option Sk → List Nat
  | none => [42]
  | some s => s.1
theorem srcOf_cons (o : Option Sk) (B : List (Option Sk)) : srcOf (o :: B) = srcO o ++ srcOf B := by unfold srcOf; rw [List.flatMap_cons]; cases o <;> rfl
theorem srcOf_len : ∀ (ts : List (Option Sk)), (∀ s, some s ∈ ts → s ∈ allSk) → (srcOf ts).length ≤ 10 * ts.length
  | [], _ => by simp [srcOf]
  | none :: ts, h => by
    have ih := srcOf_len ts fun s hs => h s (.tail _ hs)
    rw [srcOf_cons]; simp [srcO]; omega
  | some s :: ts, h => by
    have ih := srcOf_len ts fun s hs => h s (.tail _ hs)
    have h1 : ∀ s ∈ allSk, s.1.length ≤ 10 := by decide
    have h2 := h1 s (h s (.head _))
    rw [srcOf_cons]; simp only [srcO, List.length_append, List.length_cons]; omega
theorem dd_snoc (ts : List (Option Sk)) (o : Option Sk) : dd (ts ++ [o]) = ddStep (dd ts) o := by unfold dd; rw [List.foldl_append]; rfl
theorem dd_some (ts : List (Option Sk)) (s : Sk) : dd (ts ++ [some s]) = dd ts ++ [some s.2.1] := by rw [dd_snoc]; rfl
theorem ddStep_len (acc : List Pt) (o : Option Sk) : (ddStep acc o).length ≤ acc.length + 1 := by
  cases o with
  | none =>
    show (if _ then _ else _ : List Pt).length ≤ _
    split
    · omega
    · simp
  | some s => simp [ddStep]
theorem dd_len (ts : List (Option Sk)) : (dd ts).length ≤ ts.length := by
  have key : ∀ (ts : List (Option Sk)) (acc : List Pt), (ts.foldl ddStep acc).length ≤ acc.length + ts.length := fun ts => by
    induction ts with
    | nil => intro acc; simp
    | cons o ts ih => intro acc; have h1 := ih (ddStep acc o); have h2 := ddStep_len acc o; rw [List.foldl_cons, List.length_cons]; omega
  have h1 := key ts []
  rw [List.length_nil, Nat.zero_add] at h1
  exact h1
/-- where the walk is to stand still -/
theorem stopIf {c : Cx} {a : AS} {op : BoolOp} {es : List Expr} {p1 p : Pos} {b o r : List Stmt} {K : AFl → AS → Prop} (h : TSs c a (.If (.BoolOp op es p1) b o p :: r) K) : TSs c a (.If (.BoolOp op es p1) b o p :: r) K := h
theorem stopIn {c : Cx} {a : AS} {l : Expr} {es : List Expr} {p1 p : Pos} {b o r : List Stmt} {K : AFl → AS → Prop} (h : TSs c a (.If (.Compare l [.NotIn] es p1) b o p :: r) K) : TSs c a (.If (.Compare l [.NotIn] es p1) b o p :: r) K := h
theorem brTab_ok : ∀ b ∈ brTab, 93 ∉ b.1 ∧ 92 ∉ b.1 ∧ 0 < b.1.length ∧ (b.1.head? = some 33 → 1 < b.1.length) ∧ b.1.length ≤ 5 ∧ b.2.1 ∈ stuffs ∧
    (45 ∉ b.1 → b.2.1 = b.1) ∧ (45 ∈ b.1 → b.1 = [98, 45, 97] ∧ b.2.1 = [] ∨ b.1 = [33, 98, 45, 97] ∧ b.2.1 = [33] ∨ b.1 = [95, 98, 45, 97, 67] ∧ b.2.1 = [95, 67]) := by decide
theorem pyS_init {α : Type} (l : List α) (x : α) : pyS (l ++ [x]) none (some (-1)) = l := by
  unfold pyS clipAt
  simp only [Option.elim_none, Option.elim_some, List.length_append, List.length_cons, List.length_nil, List.drop_zero]
  have e : (max 0 (min (if (-1 : Int) < 0 then (-1 : Int) + ((l.length + (0 + 1) : Nat) : Int) else -1) ((l.length + (0 + 1) : Nat) : Int))).toNat = l.length := by rw [if_pos (by decide)]; omega
  rw [e, Nat.sub_zero]
  exact List.take_left' rfl
theorem pyS_tail {α : Type} (x : α) (l : List α) : pyS (x :: l) (some 1) none = l := by
  have h := pyS_from (x :: l) 1 (by simp)
  simpa using h
theorem brTab_end : ∀ b ∈ brTab, b.2.1 = [] ∧ b.2.2 = [40, 63, 33, 41] ∨ b.2.1 = [33] ∧ b.2.2 = [46] ∨ (∃ x r, b.2.1 = 33 :: x :: r ∧ b.2.2 = [91] ++ (94 :: x :: r) ++ [93]) ∨ (∃ x r, b.2.1 = x :: r ∧ x ≠ 33 ∧ x ≠ 94 ∧ x ≠ 91 ∧ b.2.2 = [91] ++ b.2.1 ++ [93]) := by
  intro b hb
  simp only [brTab, List.mem_cons, List.not_mem_nil, or_false] at hb
  rcases hb with rfl | rfl | rfl | rfl | rfl | rfl | rfl
  · exact .inr (.inr (.inr ⟨97, [98], rfl, by decide, by decide, by decide, rfl⟩))
  · exact .inr (.inr (.inl ⟨97, [], rfl, rfl⟩))
  · exact .inl ⟨rfl, rfl⟩
  · exact .inr (.inl ⟨rfl, rfl⟩)
  · exact .inr (.inr (.inr ⟨95, [67], rfl, by decide, by decide, by decide, rfl⟩))
  · exact .inr (.inr (.inl ⟨46, [], rfl, rfl⟩))
  · exact .inr (.inr (.inr ⟨46, [], rfl, by decide, by decide, by decide, rfl⟩))
theorem trans_parts {W : Wd} (hp : PF W) (T : TF W) (star : Addr) (ts : List (Option Sk)) (hok : ∀ s, some s ∈ ts → s ∈ allSk) (hlen : ts.length ≤ 100) : Fc W false 2 (.ref 69) [.str (srcOf ts), .val (.ref star), .str [46]] (fun r => r = .lst ((dd ts).map (pAV star))) := by
  refine' Fc.introKX hp ["pat", "STAR", "QUESTION_MARK"] ["res", "add", "i", "n", "c", "j", "stuff", "chunks", "k", "chunk"] ["len", "range", "_twin_re_1", "escape"] ?ho ?hc ?bd (bind3 ?hb) ?pl ?gg ?nd ?nk ?gk ?cell rfl ?body
  case ho => k_is
  case bd => (conv => lhs; whnf; arg 1; whnf) <;> rfl
  case hc => kernel_rfl
  case pl => exact ⟨rfl, rfl, rfl⟩
  case gg => exact ⟨rfl, rfl⟩
  case hb => intro u v w; rfl
  case nd => decide +kernel
  case nk => decide +kernel
  case gk => decide +kernel
  case cell => decide +kernel
  case body =>
  intro c hW hn hg hq hl hcd
  have hcode : c.env.code = .ref 68 := hcd
  subst hW
  have n0 : c.names[0]? = some ("pat" : Str) := by rw [hn]; rfl
  have n1 : c.names[1]? = some ("STAR" : Str) := by rw [hn]; rfl
  have n2 : c.names[2]? = some ("QUESTION_MARK" : Str) := by rw [hn]; rfl
  have n3 : c.names[3]? = some ("res" : Str) := by rw [hn]; rfl
  have n4 : c.names[4]? = some ("add" : Str) := by rw [hn]; rfl
  have n5 : c.names[5]? = some ("i" : Str) := by rw [hn]; rfl
  have n6 : c.names[6]? = some ("n" : Str) := by rw [hn]; rfl
  have n7 : c.names[7]? = some ("c" : Str) := by rw [hn]; rfl
  have n8 : c.names[8]? = some ("j" : Str) := by rw [hn]; rfl
  have n9 : c.names[9]? = some ("stuff" : Str) := by rw [hn]; rfl
  have n10 : c.names[10]? = some ("chunks" : Str) := by rw [hn]; rfl
  have n11 : c.names[11]? = some ("k" : Str) := by rw [hn]; rfl
  have n12 : c.names[12]? = some ("chunk" : Str) := by rw [hn]; rfl
  have g0 : ("len" : Str) ∈ c.gl := by rw [hg]; decide +kernel
  have v0 := gf_len hp
  have kv0 : KeptV c.W (.builtin "len") := trivial
  have g1 : ("range" : Str) ∈ c.gl := by rw [hg]; decide +kernel
  have v1 := gf_range hp
  have kv1 : KeptV c.W (.type "range") := trivial
  have g2 : ("_twin_re_1" : Str) ∈ c.gl := by rw [hg]; decide +kernel
  have v2 := gf__twin_re_1 hp
  have g3 : ("escape" : Str) ∈ c.gl := by rw [hg]; decide +kernel
  have v3 := (gf_escape hp).1
  have kv3 := (gf_escape hp).2
  clear hn hg
  clear hcd
  have cS : chars "*" = [42] := by decide +kernel
  have cQ : chars "?" = [63] := by decide +kernel
  have cB : chars "[" = [91] := by decide +kernel
  generalize hpat : srcOf ts = pat
  have hpl : pat.length ≤ 1000 := by have := srcOf_len ts hok; rw [hpat] at this; omega
  have hl0 := dd_len ts
  repeat tb_rel
  refine te_listM ?_ (by rfl)
  repeat tb_rel
  intro p _
  repeat tb_rel
  refine te_app 3 n3 rfl (.head _) ?_
  repeat tb_rel
  refine ts_swap2 5 6 n5 n6 (sw_of (by decide +kernel) (by rfl) (by rfl) (by rfl) (by rfl)) ?_
  repeat tb_rel
  refine ts_cut (fun a => ∃ vc vj vs vch vk vck mem', a = ⟨[some (.str pat), some (.val (.ref star)), some (.str [46]), some (.val (.ref p)), some (.app p), some (.int ((pat.length : Nat) : Int)), some (.int ((pat.length : Nat) : Int)), vc, vj, vs, vch, vk, vck], [], (p, (dd ts).map (pAV star)) :: mem'⟩) ?_ ?_
  · refine ts_while' (fun n a => ∃ done rem vc vj vs vch vk vck mem', ts = done ++ rem ∧ n = rem.length ∧ a = ⟨[some (.str pat), some (.val (.ref star)), some (.str [46]), some (.val (.ref p)), some (.app p), some (.int (((srcOf done).length : Nat) : Int)), some (.int ((pat.length : Nat) : Int)), vc, vj, vs, vch, vk, vck], [], (p, (dd done).map (pAV star)) :: mem'⟩) ts.length ⟨[], ts, none, none, none, none, none, none, [], rfl, rfl, rfl⟩ ?_
    rintro n a ⟨done, rem, vc, vj, vs, vch, vk, vck, mem', hts, rfl, rfl⟩
    have hdl := dd_len done
    have hdl2 : done.length ≤ 100 := by rw [hts] at hlen; simp at hlen; omega
    have hpd : pat = srcOf done ++ srcOf rem := by rw [← hpat, hts, srcOf_app]
    have hsz1 : ((dd done).map (pAV star)).length ≤ 1000000 := by rw [List.length_map]; omega
    generalize hpre : srcOf done = pre at hpd
    have hat : ∀ k x, (srcOf rem)[k]? = some x → pat[pre.length + k]? = some x := fun k x h => by rw [hpd, List.getElem?_append_right (by omega)]; rw [← h]; congr 1; omega
    have hpn : pat.length = pre.length + (srcOf rem).length := by rw [hpd]; simp
    repeat tb_rel
    cases rem with
    | nil =>
      refine if_f' (by rw [hpn]; simp [srcOf]) ?_
      repeat tb_rel
      have e : pre.length = pat.length := by rw [hpn]; simp [srcOf]
      rw [e]
      refine ⟨vc, vj, vs, vch, vk, vck, mem', ?_⟩
      have e2 : ts = done := by rw [hts]; simp
      rw [e2]
    | cons o rem =>
      have hts' : ts = (done ++ [o]) ++ rem := by rw [hts]; simp
      have hpd' : srcOf (done ++ [o]) = pre ++ srcO o := by rw [srcOf_app, hpre, srcOf_cons]; simp [srcOf]
      have hdl3 : (dd (done ++ [o])).length ≤ 101 := by have := dd_len (done ++ [o]); simp at this; omega
      rw [srcOf_cons] at hat hpn
      rw [List.length_append] at hpn
      cases o with
      | none =>
        have hx : pat[pre.length]? = some 42 := hat 0 42 rfl
        have hl42 : (srcOf (done ++ [none])).length = pre.length + 1 := by rw [hpd']; simp [srcO]
        refine if_t' (by simp [srcO] at hpn; simp; omega) ?_
        repeat tb_rel
        refine sub_strN pre.length rfl hx (by omega) ?_
        repeat tb_rel
        refine tt_mem (.head _) (by simp; omega) ?_
        rcases List.eq_nil_or_concat (dd done) with hd0 | ⟨l', x, hd0⟩
        · rw [hd0]
          refine if_t' (by rfl) ?_
          repeat tb_rel
          refine te_add 4 n4 rfl ?_
          repeat tb_rel
          refine ⟨_, _, .head, by simp, ?_⟩
          repeat tb_rel
          refine ⟨rem.length, by simp, done ++ [none], rem, some (.str [42]), vj, vs, vch, vk, vck, mem', hts', rfl, ?_⟩
          rw [hl42, dd_snoc, hd0]
          rfl
        · rw [hd0, List.concat_eq_append]
          refine if_f' (by simp) ?_
          repeat tb_rel
          have hlast : (dd done).getLast? = some x := by rw [hd0, List.concat_eq_append]; simp
          cases x with
          | none =>
            refine sub_memL (l := l'.map (pAV star)) (x := .val (.ref star)) (by show (p, l'.map (pAV star) ++ [none].map (pAV star)) ∈ _; rw [← List.map_append]; exact .head _) ?_
            repeat tb_rel
            have e : dd (done ++ [none]) = dd done := by rw [dd_snoc]; exact if_pos hlast
            refine ⟨rem.length, by simp, done ++ [none], rem, some (.str [42]), vj, vs, vch, vk, vck, mem', hts', rfl, ?_⟩
            rw [hl42, e, hd0, List.concat_eq_append]
            rfl
          | some x =>
            refine sub_memL (l := l'.map (pAV star)) (x := .str x) (by show (p, l'.map (pAV star) ++ [some x].map (pAV star)) ∈ _; rw [← List.map_append]; exact .head _) ?_
            repeat tb_rel
            have e : dd (done ++ [none]) = dd done ++ [none] := by rw [dd_snoc]; exact if_neg (by rw [hlast]; simp)
            refine te_add 4 n4 rfl ?_
            repeat tb_rel
            refine ⟨_, _, .head, by rw [hd0, List.concat_eq_append] at hdl; simp at hdl; simp; omega, ?_⟩
            repeat tb_rel
            refine ⟨rem.length, by simp, done ++ [none], rem, some (.str [42]), vj, vs, vch, vk, vck, mem', hts', rfl, ?_⟩
            have hmap : ((l' ++ [some x]) ++ [none]).map (pAV star) = (l' ++ [some x]).map (pAV star) ++ [.val (.ref star)] := by rw [List.map_append]; rfl
            rw [hl42, e, hd0, List.concat_eq_append, hmap]
            rfl
      | some s =>
        have hs := hok s (by rw [hts]; simp)
        have hdd : (dd (done ++ [some s])).map (pAV star) = (dd done).map (pAV star) ++ [.str s.2.1] := by rw [dd_some, List.map_append]; rfl
        rcases allSk_split s hs with ⟨e1, e2⟩ | ⟨x, hx0, e1, e2⟩ | ⟨b, hb, e1, e2⟩
        · have es : srcO (some s) = [63] := e1
          rw [es] at hat hpn hpd'
          rw [e2] at hdd
          have hx : pat[pre.length]? = some 63 := hat 0 63 rfl
          have hl1 : (srcOf (done ++ [some s])).length = pre.length + 1 := by rw [hpd']; simp
          refine if_t' (by simp at hpn; simp; omega) ?_
          repeat tb_rel
          refine sub_strN pre.length rfl hx (by omega) ?_
          repeat tb_rel
          refine te_add 4 n4 rfl ?_
          repeat tb_rel
          refine ⟨_, _, .head, hsz1, ?_⟩
          repeat tb_rel
          refine ⟨rem.length, by simp, done ++ [some s], rem, some (.str [63]), vj, vs, vch, vk, vck, mem', hts', rfl, ?_⟩
          rw [hl1, hdd]
          rfl
        · have es : srcO (some s) = [x] := e1
          rw [es] at hat hpn hpd'
          rw [e2] at hdd
          have hx : pat[pre.length]? = some x := hat 0 x rfl
          have hl1 : (srcOf (done ++ [some s])).length = pre.length + 1 := by rw [hpd']; simp
          have hne : x ≠ 42 ∧ x ≠ 63 ∧ x ≠ 91 := by
            simp only [List.mem_cons, List.not_mem_nil, or_false] at hx0
            omega
          refine if_t' (by simp at hpn; simp; omega) ?_
          repeat tb_rel
          refine sub_strN pre.length rfl hx (by omega) ?_
          repeat tb_rel
          rw [cS]
          refine if_f' (by simp [hne.1]) ?_
          repeat tb_rel
          rw [cQ]
          refine if_f' (by simp [hne.2.1]) ?_
          repeat tb_rel
          rw [cB]
          refine if_f' (by simp [hne.2.2]) ?_
          repeat tb_rel
          refine te_add 4 n4 rfl ?_
          repeat tb_rel
          refine tc_fn (escape hp x hx0) (fun _ => rfl) (by omega) ?_
          rintro r rfl
          refine ⟨_, _, .head, hsz1, ?_⟩
          repeat tb_rel
          refine ⟨rem.length, by simp, done ++ [some s], rem, some (.str [x]), vj, vs, vch, vk, vck, mem', hts', rfl, ?_⟩
          rw [hl1, hdd]
          rfl
        · obtain ⟨inn, st, part⟩ := b
          obtain ⟨b93, b92, bpos, bex, blen, bst, bno, byes⟩ := brTab_ok _ hb
          simp only at e1 e2 b93 b92 bpos bex blen bst bno byes
          have es : srcO (some s) = [91] ++ inn ++ [93] := e1
          rw [es] at hat hpn hpd'
          rw [e2] at hdd
          have hx : pat[pre.length]? = some 91 := hat 0 91 rfl
          have hin : ∀ k y, inn[k]? = some y → pat[pre.length + 1 + k]? = some y := fun k y h => by
            have h2 := hat (1 + k) y (by
              rw [List.append_assoc, List.append_assoc, List.getElem?_append_right (by simp), List.getElem?_append_left (by have := (List.getElem?_eq_some_iff.mp h).1; simp; omega)]
              simpa using h)
            rw [← Nat.add_assoc] at h2; exact h2
          have hcl : pat[pre.length + 1 + inn.length]? = some 93 := by
            have h2 := hat (1 + inn.length) 93 (by
              rw [List.append_assoc, List.append_assoc, List.getElem?_append_right (by simp), List.getElem?_append_right (by simp)]
              simp)
            rw [← Nat.add_assoc] at h2; exact h2
          simp only [List.length_append, List.length_cons, List.length_nil] at hpn
          have hl1 : (srcOf (done ++ [some s])).length = pre.length + 1 + inn.length + 1 := by rw [hpd']; simp; omega
          obtain ⟨y0, inn', rfl⟩ : ∃ y0 inn', inn = y0 :: inn' := by
            cases inn with
            | nil => simp at bpos
            | cons y0 inn' => exact ⟨y0, inn', rfl⟩
          have hlen0 : (y0 :: inn').length = inn'.length + 1 := rfl
          refine if_t' (by simp; omega) ?_
          repeat tb_rel
          refine sub_strN pre.length rfl hx (by omega) ?_
          repeat ((fail_if_success (with_reducible first | refine stopIf ?_ | refine stopIn ?_)); tb_rel)
          obtain ⟨o, ho, hoe⟩ : ∃ o, o < (y0 :: inn').length ∧ (o = if y0 = 33 then 1 else 0) := by
            refine ⟨_, ?_, rfl⟩
            split
            · rename_i h; exact bex (by rw [h]; rfl)
            · simp
          refine tss_cons ?_
          refine ts_cut (fun a => a = ⟨[some (.str pat), some (.val (.ref star)), some (.str [46]), some (.val (.ref p)), some (.app p), some (.int ((pre.length + 1 : Nat) : Int)), some (.int ((pat.length : Nat) : Int)), some (.str [91]), some (.int ((pre.length + 1 + o : Nat) : Int)), vs, vch, vk, vck], [], (p, (dd done).map (pAV star)) :: mem'⟩) ?_ ?_
          · repeat tb_rel
            refine if_t' (by simp; omega) ?_
            repeat tb_rel
            refine sub_strN (pre.length + 1) rfl (hin 0 y0 rfl) (by omega) ?_
            repeat tb_rel
            refine if_b (fun h => ?_) (fun h => ?_)
            · repeat tb_rel
              have hy : y0 = 33 := by rw [show chars "!" = [33] by decide +kernel] at h; simpa using h
              rw [hoe, if_pos hy]
              rfl
            · repeat tb_rel
              have hy : y0 ≠ 33 := by rw [show chars "!" = [33] by decide +kernel] at h; simpa using h
              rw [hoe, if_neg hy]
              rfl
          rintro a rfl
          refine at_next ?_
          obtain ⟨y1, hy1⟩ : ∃ y1, (y0 :: inn')[o]? = some y1 := ⟨_, List.getElem?_eq_getElem ho⟩
          have hy1n : y1 ≠ 93 := fun e => b93 (e ▸ List.mem_of_getElem? hy1)
          have cK : chars "]" = [93] := by decide +kernel
          repeat tb_rel
          refine if_t' (by simp; omega) ?_
          repeat tb_rel
          refine sub_strN (pre.length + 1 + o) rfl (hin o y1 hy1) (by omega) ?_
          repeat tb_rel
          rw [cK]
          refine if_f' (by simp [hy1n]) ?_
          repeat tb_rel
          refine ts_cut (fun a => a = ⟨[some (.str pat), some (.val (.ref star)), some (.str [46]), some (.val (.ref p)), some (.app p), some (.int ((pre.length + 1 : Nat) : Int)), some (.int ((pat.length : Nat) : Int)), some (.str [91]), some (.int ((pre.length + 1 + (y0 :: inn').length : Nat) : Int)), vs, vch, vk, vck], [], (p, (dd done).map (pAV star)) :: mem'⟩) ?_ ?_
          · refine ts_while' (fun n a => ∃ j, j ≤ (y0 :: inn').length ∧ n = (y0 :: inn').length - j ∧ a = ⟨[some (.str pat), some (.val (.ref star)), some (.str [46]), some (.val (.ref p)), some (.app p), some (.int ((pre.length + 1 : Nat) : Int)), some (.int ((pat.length : Nat) : Int)), some (.str [91]), some (.int ((pre.length + 1 + j : Nat) : Int)), vs, vch, vk, vck], [], (p, (dd done).map (pAV star)) :: mem'⟩) ((y0 :: inn').length - o)
              ⟨o, Nat.le_of_lt ho, rfl, rfl⟩ ?_
            rintro n a ⟨j, hj, rfl, rfl⟩
            repeat tb_rel
            refine if_t' (by simp at hj ⊢; omega) ?_
            repeat tb_rel
            rcases Nat.lt_or_ge j (y0 :: inn').length with hlt | hge
            · obtain ⟨y, hy⟩ : ∃ y, (y0 :: inn')[j]? = some y := ⟨_, List.getElem?_eq_getElem hlt⟩
              have hyn : y ≠ 93 := fun e => b93 (e ▸ List.mem_of_getElem? hy)
              refine sub_strN (pre.length + 1 + j) rfl (hin j y hy) (by omega) ?_
              repeat tb_rel
              rw [cK]
              refine if_t' (by simp [hyn]) ?_
              repeat tb_rel
              exact ⟨(y0 :: inn').length - (j + 1), by omega, j + 1, hlt, rfl, rfl⟩
            · have hjj : j = (y0 :: inn').length := by omega
              rw [hjj]
              refine sub_strN (pre.length + 1 + (y0 :: inn').length) rfl hcl (by omega) ?_
              repeat tb_rel
              rfl
          rintro a rfl
          refine at_next ?_
          repeat tb_rel
          refine if_f' (by simp; omega) ?_
          repeat ((fail_if_success (with_reducible first | refine stopIf ?_ | refine stopIn ?_)); tb_rel)
          have hst : pyS pat (some ((pre.length + 1 : Nat) : Int)) (some ((pre.length + 1 + (y0 :: inn').length : Nat) : Int)) = y0 :: inn' := by
            rw [pyS_to _ _ _ (by omega) (by omega), show pre.length + 1 + (y0 :: inn').length - (pre.length + 1) = (y0 :: inn').length by omega]
            apply List.ext_getElem?
            intro k
            rw [List.getElem?_take]
            split
            · rename_i hk
              obtain ⟨y, hy⟩ : ∃ y, (y0 :: inn')[k]? = some y := ⟨_, List.getElem?_eq_getElem hk⟩
              rw [List.getElem?_drop, hin k y hy, hy]
            · rename_i hk
              rw [List.getElem?_eq_none (by omega)]
          rw [hst]
          refine tss_cons ?_
          have hfinal : st = [] ∧ part = [40, 63, 33, 41] ∨ st = [33] ∧ part = [46] ∨ (∃ x r, st = 33 :: x :: r ∧ part = [91] ++ (94 :: x :: r) ++ [93]) ∨ (∃ x r, st = x :: r ∧ x ≠ 33 ∧ x ≠ 94 ∧ x ≠ 91 ∧ part = [91] ++ st ++ [93]) := brTab_end _ hb
          refine ts_cut (fun a => ∃ vi vch vk vck mem', a = ⟨[some (.str pat), some (.val (.ref star)), some (.str [46]), some (.val (.ref p)), some (.app p), vi, some (.int ((pat.length : Nat) : Int)), some (.str [91]), some (.int ((pre.length + 1 + (y0 :: inn').length : Nat) : Int)), some (.str st), vch, vk, vck], [], (p, (dd done).map (pAV star)) :: mem'⟩) ?_ ?_
          · repeat tb_rel
            rw [show AV.lit "-" = .str [45] by rw [AV.lit, show chars "-" = [45] by decide +kernel]]
            repeat tb_rel
            refine if_b (fun h => ?_) (fun h => ?_)
            · have h45 : 45 ∉ y0 :: inn' := by rw [Bool.not_eq_true'] at h; exact of_decide_eq_false h
              rw [bno h45]
              repeat tb_rel
              refine te_meth "str" "str.replace" PySem.F.plainAttrs_str PySem.F.slot_str_replace PySem.F.type_str_replace ?_
              repeat tb_rel
              refine ⟨.str _, ?_⟩
              repeat tb_rel
              rw [show AV.lit "\\" = .str [92] by rw [AV.lit, show chars "\\" = [92] by decide +kernel]]
              refine tc_replace b92 ?_
              repeat tb_rel
              exact ⟨_, _, _, _, _, rfl⟩
            · have h45 : 45 ∈ y0 :: inn' := by rw [Bool.not_eq_false'] at h; exact of_decide_eq_true h
              obtain ⟨u, v, hI, hS, hu, hv, hk0, huv, hsm⟩ : ∃ u v : List Nat, y0 :: inn' = u ++ [98, 45, 97] ++ v ∧ st = u ++ v ∧ 45 ∉ u ∧ 45 ∉ v ∧ (if y0 = 33 then 2 else 1) ≤ u.length + 1 ∧ 92 ∉ u ++ v ∧ v.length ≤ 1 := by
                rcases byes h45 with ⟨h1, h2⟩ | ⟨h1, h2⟩ | ⟨h1, h2⟩
                · exact ⟨[], [], h1, h2, by decide, by decide, by cases h1; decide, by decide, by decide⟩
                · exact ⟨[33], [], h1, h2, by decide, by decide, by cases h1; decide, by decide, by decide⟩
                · exact ⟨[95], [67], h1, h2, by decide, by decide, by cases h1; decide, by decide, by decide⟩
              have hulen : u.length + v.length ≤ 5 := by rw [hI] at blen; simp at blen; omega
              have hlenI : (y0 :: inn').length = u.length + 3 + v.length := by rw [hI]; simp; omega
              have cH : AV.lit "-" = .str [45] := by rw [AV.lit, show chars "-" = [45] by decide +kernel]
              have hdr : pat.drop (pre.length + 1) = (y0 :: inn') ++ (93 :: srcOf rem) := by
                rw [hpd, srcOf_cons, es]
                have : pre ++ ([91] ++ (y0 :: inn') ++ [93] ++ srcOf rem) = (pre ++ [91]) ++ ((y0 :: inn') ++ (93 :: srcOf rem)) := by simp
                rw [this]
                exact List.drop_left' (by simp)
              have hsl : ∀ i j : Nat, i ≤ j → j ≤ (y0 :: inn').length → pyS pat (some ((pre.length + 1 + i : Nat) : Int)) (some ((pre.length + 1 + j : Nat) : Int)) = ((y0 :: inn').drop i).take (j - i) := fun i j h1 h2 => by
                rw [pyS_to _ _ _ (by omega) (by omega), ← List.drop_drop, hdr, show pre.length + 1 + j - (pre.length + 1 + i) = j - i by omega, List.drop_append_of_le_length (by omega), List.take_append_of_le_length (by rw [List.length_drop]; omega)]
              have hs1 : pyS pat (some ((pre.length + 1 : Nat) : Int)) (some ((pre.length + 1 + (u.length + 1) : Nat) : Int)) = u ++ [98] := by
                have h1 := hsl 0 (u.length + 1) (by omega) (by omega)
                rw [Nat.add_zero] at h1
                rw [h1, hI, List.drop_zero, Nat.sub_zero, show u ++ [98, 45, 97] ++ v = (u ++ [98]) ++ ([45, 97] ++ v) by simp]
                exact List.take_left' (by simp)
              have hs2 : pyS pat (some ((pre.length + 1 + (u.length + 2) : Nat) : Int)) (some ((pre.length + 1 + (y0 :: inn').length : Nat) : Int)) = 97 :: v := by
                rw [hsl (u.length + 2) _ (by omega) (Nat.le_refl _), hI]
                have : (u ++ [98, 45, 97] ++ v).drop (u.length + 2) = 97 :: v := by
                  rw [List.append_assoc, ← List.drop_drop, List.drop_left]; rfl
                rw [this]
                exact List.take_of_length_le (by simp; omega)
              have hhy : pat[pre.length + 1 + (u.length + 1)]? = some 45 := hin _ _ (by rw [hI, List.append_assoc, List.getElem?_append_right (by omega)]; simp)
              have hno1 : ∀ i, i < u.length + 1 → pat[pre.length + 1 + i]? ≠ some 45 := fun i hi e => by
                obtain ⟨y, hy⟩ : ∃ y, (y0 :: inn')[i]? = some y := ⟨_, List.getElem?_eq_getElem (by omega)⟩
                rw [hin i y hy] at e
                cases e
                rw [hI] at hy
                have h2 : (u ++ [98])[i]? = some 45 := by
                  rw [show u ++ [98, 45, 97] ++ v = (u ++ [98]) ++ ([45, 97] ++ v) by simp, List.getElem?_append_left (by simp; omega)] at hy
                  exact hy
                have := List.mem_of_getElem? h2
                simp at this
                exact hu this
              have hno2 : ∀ i, u.length + 2 ≤ i → i < (y0 :: inn').length → pat[pre.length + 1 + i]? ≠ some 45 := fun i h1 h2 e => by
                obtain ⟨y, hy⟩ : ∃ y, (y0 :: inn')[i]? = some y := ⟨_, List.getElem?_eq_getElem (by omega)⟩
                rw [hin i y hy] at e
                cases e
                rw [hI, show u ++ [98, 45, 97] ++ v = (u ++ [98, 45]) ++ (97 :: v) by simp, List.getElem?_append_right (by simp; omega)] at hy
                have := List.mem_of_getElem? hy
                simp at this
                exact hv this
              repeat ((fail_if_success (with_reducible first | refine stopIf ?_ | refine stopIn ?_)); tb_rel)
              refine te_listM ?_ (by rfl)
              repeat ((fail_if_success (with_reducible first | refine stopIf ?_ | refine stopIn ?_)); tb_rel)
              intro q hqf
              have hqp : p ≠ q := hqf _ (.head _)
              refine ⟨by simp, ?_⟩
              refine at_next ?_
              refine tss_cons ?_
              refine ts_cut (fun a => ∃ k0, k0 ≤ u.length + 1 ∧ a = ⟨[some (.str pat), some (.val (.ref star)), some (.str [46]), some (.val (.ref p)), some (.app p), some (.int ((pre.length + 1 : Nat) : Int)), some (.int ((pat.length : Nat) : Int)), some (.str [91]), some (.int ((pre.length + 1 + (y0 :: inn').length : Nat) : Int)), some (.str (y0 :: inn')), some (.val (.ref q)), some (.int ((pre.length + 1 + k0 : Nat) : Int)), vck], [], (q, []) :: (p, (dd done).map (pAV star)) :: mem'⟩) ?_ ?_
              · repeat tb_rel
                refine sub_strN (pre.length + 1) rfl (hin 0 y0 rfl) (by omega) ?_
                repeat tb_rel
                refine if_b (fun h => ?_) (fun h => ?_)
                · repeat tb_rel
                  have hy : y0 = 33 := by rw [show chars "!" = [33] by decide +kernel] at h; simpa using h
                  rw [if_pos hy] at hk0
                  exact ⟨2, hk0, rfl⟩
                · repeat tb_rel
                  have hy : y0 ≠ 33 := by rw [show chars "!" = [33] by decide +kernel] at h; simpa using h
                  rw [if_neg hy] at hk0
                  exact ⟨1, hk0, rfl⟩
              rintro a ⟨k0, hk0', rfl⟩
              refine at_next ?_
              refine tss_cons ?_
              refine ts_cut (fun a => a = ⟨[some (.str pat), some (.val (.ref star)), some (.str [46]), some (.val (.ref p)), some (.app p), some (.int ((pre.length + 1 + (u.length + 2) : Nat) : Int)), some (.int ((pat.length : Nat) : Int)), some (.str [91]), some (.int ((pre.length + 1 + (y0 :: inn').length : Nat) : Int)), some (.str (y0 :: inn')), some (.val (.ref q)), some (.int (-1)), vck], [], (q, [.str (u ++ [98])]) :: (p, (dd done).map (pAV star)) :: mem'⟩) ?_ ?_
              · refine ts_while' (fun n a => (n = 1 ∧ a = ⟨[some (.str pat), some (.val (.ref star)), some (.str [46]), some (.val (.ref p)), some (.app p), some (.int ((pre.length + 1 : Nat) : Int)), some (.int ((pat.length : Nat) : Int)), some (.str [91]), some (.int ((pre.length + 1 + (y0 :: inn').length : Nat) : Int)), some (.str (y0 :: inn')), some (.val (.ref q)), some (.int ((pre.length + 1 + k0 : Nat) : Int)), vck], [], (q, []) :: (p, (dd done).map (pAV star)) :: mem'⟩) ∨
                    (n = 0 ∧ a = ⟨[some (.str pat), some (.val (.ref star)), some (.str [46]), some (.val (.ref p)), some (.app p), some (.int ((pre.length + 1 + (u.length + 2) : Nat) : Int)), some (.int ((pat.length : Nat) : Int)), some (.str [91]), some (.int ((pre.length + 1 + (y0 :: inn').length : Nat) : Int)), some (.str (y0 :: inn')), some (.val (.ref q)), some (.int ((pre.length + 1 + (u.length + 4) : Nat) : Int)), vck], [], (q, [.str (u ++ [98])]) :: (p, (dd done).map (pAV star)) :: mem'⟩)) 1 (.inl ⟨rfl, rfl⟩) ?_
                rintro n a (⟨rfl, rfl⟩ | ⟨rfl, rfl⟩)
                · repeat tb_rel
                  refine te_meth "str" "str.find" PySem.F.plainAttrs_str PySem.F.slot_str_find PySem.F.type_str_find ?_
                  repeat tb_rel
                  refine ⟨.str _, ?_⟩
                  repeat tb_rel
                  rw [cH]
                  refine tc_find4 (by omega) (.inr ⟨pre.length + 1 + (u.length + 1), rfl, by omega, by omega, hhy, fun i h1 h2 => ?_⟩) ?_
                  · have := hno1 (i - (pre.length + 1)) (by omega)
                    rwa [show pre.length + 1 + (i - (pre.length + 1)) = i by omega] at this
                  repeat tb_rel
                  refine if_f' (by simp; omega) ?_
                  repeat tb_rel
                  refine te_meth "list" "list.append" PySem.F.plainAttrs_list slot_list_append type_list_append ?_
                  repeat tb_rel
                  refine ⟨.mem (.head _), ?_⟩
                  repeat tb_rel
                  rw [hs1]
                  refine tc_append .head (by simp) ?_
                  repeat tb_rel
                  exact ⟨0, by omega, .inr ⟨rfl, rfl⟩⟩
                · repeat tb_rel
                  refine te_meth "str" "str.find" PySem.F.plainAttrs_str PySem.F.slot_str_find PySem.F.type_str_find ?_
                  repeat tb_rel
                  refine ⟨.str _, ?_⟩
                  repeat tb_rel
                  rw [cH]
                  refine tc_find4 (by omega) (.inl ⟨rfl, fun i h1 h2 => ?_⟩) ?_
                  · have := hno2 (i - (pre.length + 1)) (by omega) (by omega)
                    rwa [show pre.length + 1 + (i - (pre.length + 1)) = i by omega] at this
                  repeat tb_rel
                  rfl
              rintro a rfl
              refine at_next ?_
              repeat tb_rel
              rw [hs2]
              refine tt_str (by simp; omega) ?_
              refine if_t' (by rfl) ?_
              repeat tb_rel
              refine te_meth "list" "list.append" PySem.F.plainAttrs_list slot_list_append type_list_append ?_
              repeat tb_rel
              refine ⟨.mem (.head _), ?_⟩
              repeat tb_rel
              refine tc_append .head (by simp) ?_
              refine nr_none ?_
              refine at_next ?_
              refine tss_nil ?_
              refine at_next ?_
              refine tss_cons ?_
              refine ts_cut (fun a => ∃ vk, a = ⟨[some (.str pat), some (.val (.ref star)), some (.str [46]), some (.val (.ref p)), some (.app p), some (.int ((pre.length + 1 + (u.length + 2) : Nat) : Int)), some (.int ((pat.length : Nat) : Int)), some (.str [91]), some (.int ((pre.length + 1 + (y0 :: inn').length : Nat) : Int)), some (.str (y0 :: inn')), some (.val (.ref q)), vk, some (.str (97 :: v))], [], (q, [.str (u ++ v)]) :: (p, (dd done).map (pAV star)) :: mem'⟩) ?_ ?_
              · refine ts_for_rng (fun i a => (i = 0 ∧ a = ⟨[some (.str pat), some (.val (.ref star)), some (.str [46]), some (.val (.ref p)), some (.app p), some (.int ((pre.length + 1 + (u.length + 2) : Nat) : Int)), some (.int ((pat.length : Nat) : Int)), some (.str [91]), some (.int ((pre.length + 1 + (y0 :: inn').length : Nat) : Int)), some (.str (y0 :: inn')), some (.val (.ref q)), some (.int (-1)), some (.str (97 :: v))], [], (q, [.str (u ++ [98]), .str (97 :: v)]) :: (p, (dd done).map (pAV star)) :: mem'⟩) ∨
                    (i = 1 ∧ ∃ vk, a = ⟨[some (.str pat), some (.val (.ref star)), some (.str [46]), some (.val (.ref p)), some (.app p), some (.int ((pre.length + 1 + (u.length + 2) : Nat) : Int)), some (.int ((pat.length : Nat) : Int)), some (.str [91]), some (.int ((pre.length + 1 + (y0 :: inn').length : Nat) : Int)), some (.str (y0 :: inn')), some (.val (.ref q)), vk, some (.str (97 :: v))], [], (q, [.str (u ++ v)]) :: (p, (dd done).map (pAV star)) :: mem'⟩)) ?_
                repeat tb_rel
                refine tc_len_mem (.head _) (by simp) ?_
                repeat tb_rel
                refine tc_range3 (z := -1) (by decide) (by decide) ?_
                refine ⟨1, 0, -1, 1, rfl, by decide, by decide, .inl ⟨rfl, rfl⟩, ?_, ?_⟩
                · rintro i a hi (⟨rfl, rfl⟩ | ⟨rfl, _⟩)
                  · repeat tb_rel
                    refine sub_memN 0 (.head _) (by rfl) rfl (by decide) ?_
                    repeat tb_rel
                    refine sub_str (y := 98) u.length (by rw [seqIxL (by simp)]; simp) (by simp) ?_
                    repeat tb_rel
                    refine sub_memN 1 (.head _) (by rfl) rfl (by decide) ?_
                    repeat tb_rel
                    refine sub_strN 0 rfl rfl (by decide) ?_
                    repeat tb_rel
                    refine op_gts ?_
                    repeat tb_rel
                    refine ts_setitem ?_
                    repeat tb_rel
                    refine sub_memN 0 (.head _) (by rfl) rfl (by decide) ?_
                    repeat tb_rel
                    rw [pyS_init]
                    refine sub_memN 1 (.head _) (by rfl) rfl (by decide) ?_
                    repeat tb_rel
                    rw [pyS_tail]
                    refine op_adds (by omega) ?_
                    repeat tb_rel
                    refine ⟨q, _, _, 0, rfl, rfl, .head, by simp, by simp, ?_⟩
                    repeat tb_rel
                    refine ts_delitem ?_
                    repeat tb_rel
                    refine ⟨q, _, _, 1, rfl, rfl, .head, by simp, by simp, ?_⟩
                    repeat tb_rel
                    exact .inr ⟨rfl, _, rfl⟩
                  · omega
                · rintro a (⟨h, _⟩ | ⟨_, vk, rfl⟩)
                  · omega
                  · repeat tb_rel
                    exact ⟨vk, rfl⟩
              rintro a ⟨vk, rfl⟩
              refine at_next ?_
              repeat tb_rel
              rw [hS]
              refine te_joingen 10 T hq hcode n10 rfl (.head _) huv (by simp; exact ⟨hu, hv⟩) (by simp; omega) ?_
              refine ⟨by simp, ?_⟩
              refine at_next ?_
              refine tss_view (a' := ⟨[some (.str pat), some (.val (.ref star)), some (.str [46]), some (.val (.ref p)), some (.app p), some (.int ((pre.length + 1 + (u.length + 2) : Nat) : Int)), some (.int ((pat.length : Nat) : Int)), some (.str [91]), some (.int ((pre.length + 1 + (y0 :: inn').length : Nat) : Int)), some (.str (u ++ v)), some (.val (.ref q)), vk, some (.str (97 :: v))], [], (p, (dd done).map (pAV star)) :: mem'⟩) (less_view (fun _ _ h => h) (fun _ _ h => h) (List.sublist_cons_self ..)) ?_
              repeat tb_rel
              exact ⟨_, _, _, _, _, rfl⟩
          rintro a ⟨vi, vch, vk, vck, mem', rfl⟩
          refine at_next ?_
          repeat tb_rel
          refine te_sub_call T hq hcode g2 v2 bst ?_
          repeat tb_rel
          refine ⟨rfl, ?_⟩
          repeat tb_rel
          have hstl := stuffs_len st bst
          refine tt_str (by omega) ?_
          rcases hfinal with ⟨rfl, rfl⟩ | ⟨rfl, rfl⟩ | ⟨x, r, rfl, rfl⟩ | ⟨x, r, rfl, hx1, hx2, hx3, rfl⟩
          · refine if_t' (by rfl) ?_
            repeat tb_rel
            refine te_add 4 n4 rfl ?_
            repeat tb_rel
            rw [show AV.lit "(?!)" = .str [40, 63, 33, 41] by rw [AV.lit, show chars "(?!)" = [40, 63, 33, 41] by decide +kernel]]
            refine ⟨_, _, .head, hsz1, ?_⟩
            repeat tb_rel
            refine ⟨rem.length, by simp, done ++ [some s], rem, some (.str [91]), some (.int ((pre.length + 1 + (y0 :: inn').length : Nat) : Int)), some (.str []), vch, vk, vck, mem', hts', rfl, ?_⟩
            rw [hl1, hdd]
            rfl
          · refine if_f' (by decide) ?_
            repeat tb_rel
            refine te_add 4 n4 rfl ?_
            repeat tb_rel
            rw [show AV.lit "." = .str [46] by rw [AV.lit, show chars "." = [46] by decide +kernel]]
            refine ⟨_, _, .head, hsz1, ?_⟩
            repeat tb_rel
            refine ⟨rem.length, by simp, done ++ [some s], rem, some (.str [91]), some (.int ((pre.length + 1 + (y0 :: inn').length : Nat) : Int)), some (.str [33]), vch, vk, vck, mem', hts', rfl, ?_⟩
            rw [hl1, hdd]
            rfl
          · refine if_f' (by simp) ?_
            repeat tb_rel
            rw [show chars "!" = [33] by decide +kernel]
            refine if_f' (by simp) ?_
            repeat tb_rel
            refine sub_strN 0 rfl rfl (by decide) ?_
            repeat tb_rel
            have e3 : pyS (33 :: x :: r) (some 1) none = x :: r := by have h3 := pyS_from (33 :: x :: r) 1 (by simp); simpa using h3
            rw [show AV.lit "^" = .str [94] by rw [AV.lit, show chars "^" = [94] by decide +kernel], e3]
            simp only [List.length_cons] at hstl
            refine op_adds (by simp; omega) ?_
            repeat tb_rel
            refine te_add 4 n4 rfl ?_
            repeat tb_rel
            rw [cB]
            repeat tb_rel
            rw [cK]
            repeat tb_rel
            refine ⟨_, _, .head, hsz1, ?_⟩
            repeat tb_rel
            refine ⟨rem.length, by simp, done ++ [some s], rem, some (.str [91]), some (.int ((pre.length + 1 + (y0 :: inn').length : Nat) : Int)), some (.str ([94] ++ x :: r)), vch, vk, vck, mem', hts', rfl, ?_⟩
            rw [hl1, hdd]
            rfl
          · refine if_f' (by simp) ?_
            repeat tb_rel
            rw [show chars "!" = [33] by decide +kernel]
            refine if_f' (by simp [hx1]) ?_
            repeat tb_rel
            refine sub_strN 0 rfl rfl (by decide) ?_
            repeat tb_rel
            rw [show chars "!" = [33] by decide +kernel]
            refine if_f' (by simp [hx1]) ?_
            repeat tb_rel
            refine sub_strN 0 rfl rfl (by decide) ?_
            repeat tb_rel
            show T2 _ _ (.str [x]) (.tup ([chars "^", chars "["].map .str)) _ _
            refine op_intup ?_
            repeat tb_rel
            rw [cB, show chars "^" = [94] by decide +kernel]
            refine if_f' (by simp; exact ⟨Ne.symm hx2, Ne.symm hx3⟩) ?_
            simp only [List.length_cons] at hstl
            repeat tb_rel
            refine te_add 4 n4 rfl ?_
            repeat tb_rel
            rw [cB]
            repeat tb_rel
            rw [cK]
            repeat tb_rel
            refine ⟨_, _, .head, hsz1, ?_⟩
            repeat tb_rel
            refine ⟨rem.length, by simp, done ++ [some s], rem, some (.str [91]), some (.int ((pre.length + 1 + (y0 :: inn').length : Nat) : Int)), some (.str (x :: r)), vch, vk, vck, mem', hts', rfl, ?_⟩
            rw [hl1, hdd]
            rfl
  rintro a ⟨vc, vj, vs, vch, vk, vck, mem', rfl⟩
  refine at_next ?_
  refine tss_view (a' := ⟨[some (.str pat), some (.val (.ref star)), some (.str [46]), some (.val (.ref p)), some (.app p), some (.int ((pat.length : Nat) : Int)), some (.int ((pat.length : Nat) : Int)), vc, vj, vs, vch, vk, vck], [], [(p, (dd ts).map (pAV star))]⟩) (less_view (fun _ _ h => h) (fun _ _ h => h) (by simp)) ?_
  refine tss_view (a' := ⟨[some (.str pat), some (.val (.ref star)), some (.str [46]), some (.lst ((dd ts).map (pAV star))), some (.app p), some (.int ((pat.length : Nat) : Int)), some (.int ((pat.length : Nat) : Int)), vc, vj, vs, vch, vk, vck], [], []⟩)
    (fz_view (p := p) (l := (dd ts).map (pAV star)) (.head _) (.same (.same (.same (.cons (.inr ⟨rfl, rfl⟩) FzO.refl)))) FzO.refl (.here .nil) (by simp)) ?_
  repeat tb_rel
  refine ⟨by simp, ?_⟩
  repeat tb_rel
  exact rfl
end Mine
end
section
namespace Mine
noncomputable def tabS : List (Option Sk) := [none, skTab[0]?, skTab[1]?, skTab[2]?, skTab[3]?, skTab[4]?, skTab[5]?, skTab[6]?, skTab[7]?, skTab[8]?, skTab[9]?, skTab[10]?, skTab[11]?, skTab[12]?, none, none]
theorem tab_S : tab = tabS.map r3Of := by decide +kernel
noncomputable def atS (l : Nat) : Option Sk := tabS[l % 16]?.getD none
theorem at3_S (l : Nat) : at3 l = r3Of (atS l) := by
  have h : l % 16 < tabS.length := Nat.mod_lt _ (by decide)
  unfold at3 atS
  rw [tab_S, List.getElem?_map, List.getElem?_eq_getElem h]; rfl
theorem tabS_ok : ∀ o ∈ tabS, ∀ s, o = some s → s ∈ allSk ∧ s.2.2.1 ≠ 0 := by
  have h : ∀ o ∈ tabS, (match o with | none => true | some s => decide (s ∈ allSk ∧ s.2.2.1 ≠ 0)) = true := by decide +kernel
  intro o ho s e
  have := h o ho
  subst e
  exact of_decide_eq_true this
theorem atS_ok (l : Nat) (s : Sk) (h : atS l = some s) : s ∈ allSk ∧ s.2.2.1 ≠ 0 := by
  have hl : l % 16 < tabS.length := Nat.mod_lt _ (by decide)
  unfold atS at h
  rw [List.getElem?_eq_getElem hl] at h
  exact tabS_ok _ (List.getElem_mem hl) s h
noncomputable def itemsS (n : Nat) : Option (List (Option Sk)) := if n % 5 = 4 then none else some ([atS (n / 5), atS (n / 5 / 16), atS (n / 5 / 256)].take (n % 5))
theorem items_S (n : Nat) : itemsP n = (itemsS n).map (·.map r3Of) := by
  unfold itemsP itemsS
  split
  · rfl
  · rw [Option.map_some, List.map_take]
    simp only [List.map_cons, List.map_nil, at3_S]
theorem itemsS_ok (n : Nat) : ∀ l, itemsS n = some l → l.length ≤ 3 ∧ ∀ s, some s ∈ l → s ∈ allSk ∧ s.2.2.1 ≠ 0 := by
  intro l h
  unfold itemsS at h
  split at h
  · cases h
  · have e := Option.some.inj h
    rw [← e]
    refine ⟨by rw [List.length_take]; exact Nat.min_le_right .., fun s hs => ?_⟩
    have hm := List.mem_of_mem_take hs
    simp only [List.mem_cons, List.not_mem_nil, or_false] at hm
    rcases hm with hm | hm | hm <;> exact atS_ok _ s hm.symm
theorem signs_dot : ∀ x ∈ signs, x ≠ 46 := by decide +kernel
theorem sg_dot (l : Nat) : sg l ≠ 46 := by
  have h : l % 6 < signs.length := Nat.mod_lt _ (by decide +kernel)
  unfold sg
  rw [List.getElem?_eq_getElem h]
  exact signs_dot _ (List.getElem_mem h)
theorem wordP_ok (n : Nat) : ∀ x, wordP n = some x → 46 ∉ x ∧ x.length ≤ 3 := by
  intro x h
  unfold wordP at h
  split at h
  · cases h
  · have e := Option.some.inj h
    rw [← e]
    refine ⟨fun hm => ?_, by rw [List.length_take]; exact Nat.min_le_right ..⟩
    have hm := List.mem_of_mem_take hm
    simp only [List.mem_cons, List.not_mem_nil, or_false] at hm
    rcases hm with hm | hm | hm <;> exact sg_dot _ hm.symm
theorem src_r3 (l : List (Option Sk)) : ((l.map r3Of).map (·.1)).flatten = srcOf l := by
  induction l with
  | nil => rfl
  | cons o l ih =>
    rw [List.map_cons, List.map_cons, List.flatten_cons, ih]
    unfold srcOf
    rw [List.flatMap_cons]
    cases o <;> rfl
theorem dd_mem (ts : List (Option Sk)) (x : List Nat) (h : some x ∈ dd ts) : ∃ s, some s ∈ ts ∧ x = s.2.1 := by
  have key : ∀ (ts : List (Option Sk)) (acc : List Pt), some x ∈ ts.foldl ddStep acc → some x ∈ acc ∨ ∃ s, some s ∈ ts ∧ x = s.2.1 := fun ts => by
    induction ts with
    | nil => intro acc h; exact .inl h
    | cons o ts ih =>
      intro acc h
      rcases ih _ h with h | ⟨s, hs, e⟩
      · cases o with
        | none =>
          have h' : some x ∈ (if acc.getLast? = some none then acc else acc ++ [none]) := h
          split at h'
          · exact .inl h'
          · rcases List.mem_append.mp h' with h' | h'
            · exact .inl h'
            · simp at h'
        | some s =>
          have h' : some x ∈ acc ++ [some s.2.1] := h
          rcases List.mem_append.mp h' with h' | h'
          · exact .inl h'
          · exact .inr ⟨s, .head _, by simpa using h'⟩
      · exact .inr ⟨s, .tail _ hs, e⟩
  rcases key ts [] h with h | h
  · cases h
  · exact h
theorem part_len : ∀ s ∈ allSk, s.2.1.length ≤ 10 := by decide
/-- the source text of what a wish asks -/
theorem name_full (w : WishS) : nameP (w.1.map srcOf, w.2.map srcOf) = srcOf (fullW w) := by
  obtain ⟨w1, w2⟩ := w
  have e : ∀ A B : List (Option Sk), srcOf (A ++ B) = srcOf A ++ srcOf B := fun A B => by unfold srcOf; exact List.flatMap_append
  unfold fullW nameP
  rw [e]
  cases w1 <;> cases w2 <;> simp [srcOf, dotSk]
structure WOK (w : WishS) : Prop where
  l1 : ∀ l, w.1 = some l → l.length ≤ 3 ∧ ∀ s, some s ∈ l → s ∈ allSk ∧ s.2.2.1 ≠ 0
  l2 : ∀ l, w.2 = some l → l.length ≤ 3 ∧ ∀ s, some s ∈ l → s ∈ allSk ∧ s.2.2.1 ≠ 0
theorem WOK.full {w : WishS} (h : WOK w) : (fullW w).length ≤ 10 ∧ ∀ s, some s ∈ fullW w → s ∈ allSk := by
  obtain ⟨w1, w2⟩ := w
  have hC : (([67], ([67], (1, [67]))) : Sk) ∈ allSk := by decide
  have hD : dotSk ∈ allSk := by decide
  have a1 := h.l1
  have a2 := h.l2
  simp only at a1 a2
  unfold fullW
  constructor
  · cases w1 with
    | none => cases w2 with
      | none => simp
      | some e => have := (a2 e rfl).1; simp; omega
    | some l => have := (a1 l rfl).1; cases w2 with
      | none => simp; omega
      | some e => have := (a2 e rfl).1; simp; omega
  · intro s hs
    rcases List.mem_append.mp hs with hs | hs
    · cases w1 with
      | none => simp at hs; rw [hs]; exact hC
      | some l => exact ((a1 l rfl).2 s hs).1
    · cases w2 with
      | none => cases hs
      | some e =>
        rcases List.mem_cons.mp hs with hs | hs
        · cases hs; exact hD
        · exact ((a2 e rfl).2 s hs).1
end Mine
end
section
namespace Mine
set_option maxRecDepth 100000
set_option maxHeartbeats 8000000
theorem stopIs {c : Cx} {a : AS} {l : Expr} {es : List Expr} {p1 p : Pos} {b o r : List Stmt} {K : AFl → AS → Prop} (h : TSs c a (.If (.Compare l [.Is] es p1) b o p :: r) K) : TSs c a (.If (.Compare l [.Is] es p1) b o p :: r) K := h
theorem cE13 : AV.lit "." = .str [46] := by rw [AV.lit, show chars "." = [46] by decide +kernel]
theorem join_of {W : Wd} (hp : PF W) (star : Addr) (ts : List (Option Sk)) (hok : ∀ s, some s ∈ ts → s ∈ allSk) (hlen : ts.length ≤ 100) :
    Fc W true 1 (.ref 76) [.lst ((dd ts).map (pAV star)), .val (.ref star)] (fun r => r = .str (joinT (tx (grp ts).1) ((grp ts).2.map tx))) := by
  have h := join_parts hp star (tx (grp ts).1) ((grp ts).2.map tx) (gsOK_tx _ (grp_ne ts)) (by rw [← dd_grp]; have := dd_len ts; omega) (fun x hx => by
    rw [← dd_grp] at hx
    obtain ⟨s, hs, rfl⟩ := dd_mem ts x hx
    exact part_len s (hok s hs))
  rw [← dd_grp] at h
  exact h
theorem translate_ {W : Wd} (hp : PF W) (T : TF W) (ts : List (Option Sk)) (hok : ∀ s, some s ∈ ts → s ∈ allSk) (hlen : ts.length ≤ 100) : Fc W false 3 (.ref 50) [.str (srcOf ts)] (fun r => r = .str (joinT (tx (grp ts).1) ((grp ts).2.map tx))) := by
  refine' Fc.introK hp ["pat"] ["STAR", "parts"] ["object", "_translate", "_join_translated_parts"] ?ho ?hc ?bd (bind1 ?hb) ?pl ?gg ?nd ?nk ?gk ?cell rfl ?body
  case ho => k_is
  case bd => (conv => lhs; whnf; arg 1; whnf) <;> rfl
  case hc => kernel_rfl
  case pl => exact ⟨rfl, rfl, rfl⟩
  case gg => exact ⟨rfl, rfl⟩
  case hb => intro u; rfl
  case nd => decide +kernel
  case nk => decide +kernel
  case gk => decide +kernel
  case cell => decide +kernel
  case body =>
  intro c hW hn hg hq hl
  subst hW
  have n0 : c.names[0]? = some ("pat" : Str) := by rw [hn]; rfl
  have n1 : c.names[1]? = some ("STAR" : Str) := by rw [hn]; rfl
  have n2 : c.names[2]? = some ("parts" : Str) := by rw [hn]; rfl
  have g0 : ("object" : Str) ∈ c.gl := by rw [hg]; decide +kernel
  have v0 := gf_object hp
  have kv0 : KeptV c.W (.type "object") := trivial
  have g1 : ("_translate" : Str) ∈ c.gl := by rw [hg]; decide +kernel
  have v1 := (gf__translate hp).1
  have kv1 := (gf__translate hp).2
  have g2 : ("_join_translated_parts" : Str) ∈ c.gl := by rw [hg]; decide +kernel
  have v2 := (gf__join_translated_parts hp).1
  have kv2 := (gf__join_translated_parts hp).2
  clear hn hg
  repeat tb_rel
  refine tc_object (fun p => ?_)
  repeat tb_rel
  rw [cE13]
  refine tc_fn (trans_parts hp T p ts hok hlen) (fun h => by rw [hq] at h; cases h) (by omega) ?_
  rintro r rfl
  repeat tb_rel
  refine tc_fn (join_of hp p ts hok hlen) (fun _ => rfl) (by omega) ?_
  rintro r rfl
  repeat tb_rel
  exact rfl
theorem pat_of {W : Wd} (hp : PF W) (o : Option (List (Option Sk))) (ho : ∀ l, o = some l → l.length ≤ 3 ∧ ∀ s, some s ∈ l → s ∈ allSk ∧ s.2.2.1 ≠ 0) : Fc W true 1 (.ref 107) [optAV itemsAV (o.map (·.map r3Of))] (fun r => r = optAV .str (o.map srcOf)) := by
  have h := law_pattern hp (o.map (·.map r3Of)) (fun l hl => by
    cases o with
    | none => cases hl
    | some l' =>
      cases hl
      have h1 := ho l' rfl
      refine ⟨by simp; omega, fun x hx => ?_⟩
      obtain ⟨y, hy, rfl⟩ := List.mem_map.mp hx
      cases y with
      | none => show ([42] : List Nat).length ≤ 100; decide
      | some s =>
        have : ∀ s ∈ allSk, s.1.length ≤ 10 := by decide
        have := this s (h1.2 s hy).1
        show s.1.length ≤ 100
        omega)
  refine h.mono fun r hr => ?_
  rw [hr]
  cases o with
  | none => rfl
  | some l => simp only [Option.map_some]; rw [src_r3]
theorem law_parts {W : Wd} (hp : PF W) (T : TF W) (w : WishS) (hw : WOK w) (star : Addr) : Fc W false 3 (.ref 154) [wishAV (wishOf w), .val (.ref star)] (fun r => r = .lst ((dd (fullW w)).map (pAV star))) := by
  refine' Fc.introK hp ["wish", "star"] ["language", "encoding", "parts"] ["_law_pattern", "_translate"] ?ho ?hc ?bd (bind2 ?hb) ?pl ?gg ?nd ?nk ?gk ?cell rfl ?body
  case ho => k_is
  case bd => (conv => lhs; whnf; arg 1; whnf) <;> rfl
  case hc => kernel_rfl
  case pl => exact ⟨rfl, rfl, rfl⟩
  case gg => exact ⟨rfl, rfl⟩
  case hb => intro u v; rfl
  case nd => decide +kernel
  case nk => decide +kernel
  case gk => decide +kernel
  case cell => decide +kernel
  case body =>
  intro c hW hn hg hq hl
  subst hW
  have n0 : c.names[0]? = some ("wish" : Str) := by rw [hn]; rfl
  have n1 : c.names[1]? = some ("star" : Str) := by rw [hn]; rfl
  have n2 : c.names[2]? = some ("language" : Str) := by rw [hn]; rfl
  have n3 : c.names[3]? = some ("encoding" : Str) := by rw [hn]; rfl
  have n4 : c.names[4]? = some ("parts" : Str) := by rw [hn]; rfl
  have g0 : ("_law_pattern" : Str) ∈ c.gl := by rw [hg]; decide +kernel
  have v0 := (gf__law_pattern hp).1
  have kv0 := (gf__law_pattern hp).2
  have g1 : ("_translate" : Str) ∈ c.gl := by rw [hg]; decide +kernel
  have v1 := (gf__translate hp).1
  have kv1 := (gf__translate hp).2
  clear hn hg
  obtain ⟨w1, w2⟩ := w
  have hl1 := hw.l1
  have hl2 := hw.l2
  have hf := hw.full
  simp only at hl1 hl2
  refine tss_cons ?_
  refine ts_swap2 2 3 n2 n3 (sw_of (by decide +kernel) (by rfl) (by rfl) (by rfl) (by rfl)) ?_
  repeat tb_rel
  refine tc_fn (pat_of hp w1 hl1) (fun _ => rfl) (by omega) ?_
  rintro r rfl
  repeat tb_rel
  refine tc_fn (pat_of hp w2 hl2) (fun _ => rfl) (by omega) ?_
  rintro r rfl
  repeat ((fail_if_success (with_reducible refine stopIs ?_)); tb_rel)
  have cC : AV.lit "C" = .str (srcOf [some ([67], ([67], (1, [67])))]) := by rw [AV.lit, show chars "C" = srcOf [some ([67], ([67], (1, [67])))] by decide +kernel]
  have key : ∀ (L : List (Option Sk)), L = w1.getD [some ([67], ([67], (1, [67])))] → (∀ s, some s ∈ L → s ∈ allSk) ∧ L.length ≤ 10 := fun L hL => by
    subst hL
    have h2 := hf
    unfold fullW at h2
    refine ⟨fun s hs => h2.2 s (List.mem_append_left _ hs), ?_⟩
    have h3 := h2.1
    rw [List.length_append] at h3
    exact Nat.le_trans (Nat.le_add_right _ _) h3
  refine tss_cons ?_
  refine ts_cut (fun a => ∃ enc, enc = optAV .str (w2.map srcOf) ∧ a = ⟨[some (wishAV (wishOf (w1, w2))), some (.val (.ref star)), some (.str (srcOf (w1.getD [some ([67], ([67], (1, [67])))]))), some enc, none], [], []⟩) ?_ ?_
  · cases w1 with
    | none =>
      repeat tb_rel
      rw [cC]
      exact ⟨_, rfl, rfl⟩
    | some l =>
      refine ts_if ?_
      repeat (first | tb_rel | top_args)
      exact ⟨_, rfl, rfl⟩
  rintro a ⟨enc, rfl, rfl⟩
  refine at_next ?_
  obtain ⟨k1, k2⟩ := key _ rfl
  cases w2 with
  | none =>
    have hfull : fullW (w1, none) = w1.getD [some ([67], ([67], (1, [67])))] := by unfold fullW; exact List.append_nil _
    rw [hfull]
    generalize w1.getD [some ([67], ([67], (1, [67])))] = L at k1 k2
    repeat (first | tb_rel | top_args)
    rw [cE13]
    refine tc_fn (trans_parts hp T star L k1 (by omega)) (fun h => by rw [hq] at h; cases h) (by omega) ?_
    rintro r rfl
    repeat (first | tb_rel | top_args)
    exact rfl
  | some e =>
    have hfull : fullW (w1, some e) = w1.getD [some ([67], ([67], (1, [67])))] ++ some dotSk :: e := rfl
    rw [hfull]
    have h3 := hl2 e rfl
    generalize w1.getD [some ([67], ([67], (1, [67])))] = L at k1 k2
    have cDD : AV.lit "\\." = .str [92, 46] := by rw [AV.lit, show chars "\\." = [92, 46] by decide +kernel]
    repeat (first | tb_rel | top_args)
    rw [cE13]
    refine tc_fn (trans_parts hp T star L k1 (by omega)) (fun h => by rw [hq] at h; cases h) (by omega) ?_
    rintro r rfl
    repeat (first | tb_rel | top_args)
    with_reducible refine te_listF ?_ (by with_unfolding_all rfl)
    repeat (first | tb_rel | top_args)
    rw [cDD]
    have d1 := dd_len L
    have d2 := dd_len e
    refine op_addl (by simp; omega) ?_
    repeat (first | tb_rel | top_args)
    rw [cE13]
    refine tc_fn (trans_parts hp T star e (fun s hs => (h3.2 s hs).1) (by omega)) (fun h => by rw [hq] at h; cases h) (by omega) ?_
    rintro r rfl
    refine op_addl (by simp; omega) ?_
    repeat (first | tb_rel | top_args)
    show _ = _
    rw [dd_split, List.map_append, List.map_append]
    rfl
theorem optAV'_eq (o : Option (List Nat)) : optAV' o = optAV .str o := by cases o <;> rfl
theorem name_of {W : Wd} (hp : PF W) (w : WishS) (hw : WOK w) : Fc W true 1 (.ref 38) [.tup [optAV .str (w.1.map srcOf), optAV .str (w.2.map srcOf)]] (fun r => r = .str (srcOf (fullW w))) := by
  have key : ∀ l : List (Option Sk), (l.length ≤ 3 ∧ ∀ s, some s ∈ l → s ∈ allSk ∧ s.2.2.1 ≠ 0) → (srcOf l).length ≤ 1000 := fun l h => by
    have := srcOf_len l fun s hs => (h.2 s hs).1
    omega
  have hb := build_localename hp (w.1.map srcOf, w.2.map srcOf) (fun x hx => by
    obtain ⟨l, hl, rfl⟩ := Option.map_eq_some_iff.mp hx
    exact key l (hw.l1 l hl)) (fun x hx => by
    obtain ⟨l, hl, rfl⟩ := Option.map_eq_some_iff.mp hx
    exact key l (hw.l2 l hl))
  rw [name_full, optAV'_eq, optAV'_eq] at hb
  exact hb
theorem law_wish {W : Wd} (hp : PF W) (T : TF W) (w : WishS) (hw : WOK w) (ls : List Loc) (hls : ls.length ≤ 10) (hloc : ∀ l ∈ ls, (∀ x, l.1 = some x → 46 ∉ x ∧ x.length ≤ 3) ∧ ∀ x, l.2 = some x → 46 ∉ x ∧ x.length ≤ 3) :
    Fc W false 4 (.ref 161) [wishAV (wishOf w), .lst (ls.map locAV), .lst (ls.map fun l => .str (nameP l))] (fun r => r = .bool true) := by
  refine' Fc.introK hp ["wish", "locales", "names"] ["star", "text", "rows", "locale", "name"] ["translate", "_build_localename", "_law_pattern", "_join_translated_parts", "_law_parts", "_law_read", "zip", "_law_takes", "_law_told"] ?ho ?hc ?bd (bind3 ?hb) ?pl ?gg ?nd ?nk ?gk ?cell rfl ?body
  case ho => k_is
  case bd => (conv => lhs; whnf; arg 1; whnf) <;> rfl
  case hc => kernel_rfl
  case pl => exact ⟨rfl, rfl, rfl⟩
  case gg => exact ⟨rfl, rfl⟩
  case hb => intro u v w; rfl
  case nd => decide +kernel
  case nk => decide +kernel
  case gk => decide +kernel
  case cell => decide +kernel
  case body =>
  intro c hW hn hg hq hl
  subst hW
  have n0 : c.names[0]? = some ("wish" : Str) := by rw [hn]; rfl
  have n1 : c.names[1]? = some ("locales" : Str) := by rw [hn]; rfl
  have n2 : c.names[2]? = some ("names" : Str) := by rw [hn]; rfl
  have n3 : c.names[3]? = some ("star" : Str) := by rw [hn]; rfl
  have n4 : c.names[4]? = some ("text" : Str) := by rw [hn]; rfl
  have n5 : c.names[5]? = some ("rows" : Str) := by rw [hn]; rfl
  have n6 : c.names[6]? = some ("locale" : Str) := by rw [hn]; rfl
  have n7 : c.names[7]? = some ("name" : Str) := by rw [hn]; rfl
  have g0 : ("translate" : Str) ∈ c.gl := by rw [hg]; decide +kernel
  have v0 := (gf_translate hp).1
  have kv0 := (gf_translate hp).2
  have g1 : ("_build_localename" : Str) ∈ c.gl := by rw [hg]; decide +kernel
  have v1 := (gf__build_localename hp).1
  have kv1 := (gf__build_localename hp).2
  have g2 : ("_law_pattern" : Str) ∈ c.gl := by rw [hg]; decide +kernel
  have v2 := (gf__law_pattern hp).1
  have kv2 := (gf__law_pattern hp).2
  have g3 : ("_join_translated_parts" : Str) ∈ c.gl := by rw [hg]; decide +kernel
  have v3 := (gf__join_translated_parts hp).1
  have kv3 := (gf__join_translated_parts hp).2
  have g4 : ("_law_parts" : Str) ∈ c.gl := by rw [hg]; decide +kernel
  have v4 := (gf__law_parts hp).1
  have kv4 := (gf__law_parts hp).2
  have g5 : ("_law_read" : Str) ∈ c.gl := by rw [hg]; decide +kernel
  have v5 := (gf__law_read hp).1
  have kv5 := (gf__law_read hp).2
  have g6 : ("zip" : Str) ∈ c.gl := by rw [hg]; decide +kernel
  have v6 := gf_zip hp
  have kv6 : KeptV c.W (.type "zip") := trivial
  have g7 : ("_law_takes" : Str) ∈ c.gl := by rw [hg]; decide +kernel
  have v7 := (gf__law_takes hp).1
  have kv7 := (gf__law_takes hp).2
  have g8 : ("_law_told" : Str) ∈ c.gl := by rw [hg]; decide +kernel
  have v8 := (gf__law_told hp).1
  have kv8 := (gf__law_told hp).2
  clear hn hg
  have hf := hw.full
  repeat (first | tb_rel | top_args)
  refine te_listM ?_ (by rfl)
  repeat (first | tb_rel | top_args)
  intro p _
  repeat (first | tb_rel | top_args)
  refine tc_fn (pat_of hp w.1 hw.l1) (fun _ => rfl) (by omega) ?_
  rintro r rfl
  repeat (first | tb_rel | top_args)
  refine tc_fn (pat_of hp w.2 hw.l2) (fun _ => rfl) (by omega) ?_
  rintro r rfl
  repeat (first | tb_rel | top_args)
  refine tc_fn (name_of hp w hw) (fun _ => rfl) (by omega) ?_
  rintro r rfl
  repeat (first | tb_rel | top_args)
  refine tc_fn (translate_ hp T (fullW w) hf.2 (by omega)) (fun h => by rw [hq] at h; cases h) (by omega) ?_
  rintro r rfl
  repeat (first | tb_rel | top_args)
  refine tc_fn (law_parts hp T w hw p) (fun h => by rw [hq] at h; cases h) (by omega) ?_
  rintro r rfl
  repeat (first | tb_rel | top_args)
  refine tc_fn (join_of hp p (fullW w) hf.2 (by omega)) (fun _ => rfl) (by omega) ?_
  rintro r rfl
  repeat (first | tb_rel | top_args)
  refine if_f' (by simp) ?_
  repeat (first | tb_rel | top_args)
  have hrd := law_read hp (syOf (fullW w)) (syOf_ok hf.2) (by have := syOf_len (fullW w); omega) (rowsP (fullW w)) (read_sy _) _ (joinT_sy (fullW w))
  refine tc_fn hrd (fun _ => rfl) (by omega) ?_
  rintro r rfl
  repeat (first | tb_rel | top_args)
  have hrl := rowsP_len (fullW w)
  refine ts_for_zip g6 v6 (fun _ a => ∃ vl vn, a = ⟨[some (wishAV (wishOf w)), some (.lst (ls.map locAV)), some (.lst (ls.map fun l => .str (nameP l))), some (.val (.ref p)), some (.str (joinT (tx (grp (fullW w)).1) ((grp (fullW w)).2.map tx))), some (rowsAV (rowsP (fullW w))), vl, vn], [], [(p, [AV.lit "*"])]⟩) (ls.map locAV) (ls.map fun l => .str (nameP l)) (by simp) ?_ ?_ ?_
  · repeat (first | tb_rel | top_args)
    refine ⟨rfl, ?_⟩
    repeat (first | tb_rel | top_args)
    exact ⟨rfl, _, _, rfl⟩
  · rintro i x y a hx hy ⟨vl, vn, rfl⟩
    rw [List.getElem?_map] at hx hy
    obtain ⟨l, hl2, rfl⟩ := Option.map_eq_some_iff.mp hx
    rw [hl2] at hy
    obtain rfl : AV.str (nameP l) = y := Option.some.inj hy
    have hll := hloc l (List.mem_of_getElem? hl2)
    have hnl : (nameP l).length ≤ 1000 := by
      obtain ⟨a1, a2⟩ := l
      cases a1 with
      | none => cases a2 with
        | none => simp [nameP]
        | some e => have := (hll.2 e rfl).2; simp [nameP]; omega
      | some z => have := (hll.1 z rfl).2; cases a2 with
        | none => simp [nameP]; omega
        | some e => have := (hll.2 e rfl).2; simp [nameP]; omega
    repeat (first | tb_rel | top_args)
    refine tc_fn (law_takes hp (rowsP (fullW w)) (nameP l) (by simp [rowsP]) (by omega) (fun r hr => by have := hrl.2 r hr; omega) hnl) (fun _ => rfl) (by omega) ?_
    rintro r rfl
    repeat (first | tb_rel | top_args)
    have ml : ∀ (o : Option (List (Option Sk))), (∀ l, o = some l → l.length ≤ 3 ∧ ∀ s, some s ∈ l → s ∈ allSk ∧ s.2.2.1 ≠ 0) → ∀ x, o.map (·.map r3Of) = some x → x.length ≤ 100 := fun o ho x hx => by
      obtain ⟨z, hz, rfl⟩ := Option.map_eq_some_iff.mp hx
      have := (ho z hz).1
      simp; omega
    refine tc_fn (law_told hp (wishOf w) l (ml w.1 hw.l1) (ml w.2 hw.l2) (fun x hx => by have := (hll.1 x hx).2; omega) (fun x hx => by have := (hll.2 x hx).2; omega)) (fun _ => rfl) (by omega) ?_
    rintro r rfl
    repeat (first | tb_rel | top_args)
    have hlaw := wish_law w (fun z hz s hs => ((hw.l1 z hz).2 s hs).2) (fun z hz s hs => ((hw.l2 z hz).2 s hs).2) l (fun x hx => (hll.1 x hx).1) (fun x hx => (hll.2 x hx).1)
    refine if_f' (by rw [hlaw]; simp) ?_
    repeat (first | tb_rel | top_args)
    exact ⟨_, _, rfl⟩
  · rintro a ⟨vl, vn, rfl⟩
    repeat (first | tb_rel | top_args)
    exact rfl
end Mine
end
section
namespace Mine
set_option maxRecDepth 100000
set_option maxHeartbeats 8000000
theorem numP_len (ns : List Int) : (numP ownL ns).length = 10 := by
  unfold numP
  simp [ownL]; omega
noncomputable def nn (ns : List Int) (k : Nat) : Nat := (numP ownL ns)[k]?.getD 0
theorem nn_get (ns : List Int) (k : Nat) (h : k < 10) : ((numP ownL ns).map fun n => AV.int ((n : Nat) : Int))[k]? = some (.int ((nn ns k : Nat) : Int)) := by
  have hl := numP_len ns
  unfold nn
  rw [List.getElem?_map, List.getElem?_eq_getElem (by omega)]; rfl
noncomputable def locK (ns : List Int) (k : Nat) : Loc := (wordP (nn ns k), wordP (nn ns (k + 1)))
noncomputable def wishK (ns : List Int) (k : Nat) : WishS := (itemsS (nn ns k), itemsS (nn ns (k + 1)))
theorem locK_ok (ns : List Int) (k : Nat) : (∀ x, (locK ns k).1 = some x → 46 ∉ x ∧ x.length ≤ 3) ∧ ∀ x, (locK ns k).2 = some x → 46 ∉ x ∧ x.length ≤ 3 := ⟨fun x h => wordP_ok _ x h, fun x h => wordP_ok _ x h⟩
theorem wishK_ok (ns : List Int) (k : Nat) : WOK (wishK ns k) := ⟨itemsS_ok _, itemsS_ok _⟩
theorem wishK_of (ns : List Int) (k : Nat) : wishAV (wishOf (wishK ns k)) = .tup [optAV itemsAV (itemsP (nn ns k)), optAV itemsAV (itemsP (nn ns (k + 1)))] := by
  unfold wishOf wishK
  simp only [wishAV, items_S]
theorem name_loc {W : Wd} (hp : PF W) (l : Loc) (hl : (∀ x, l.1 = some x → 46 ∉ x ∧ x.length ≤ 3) ∧ ∀ x, l.2 = some x → 46 ∉ x ∧ x.length ≤ 3) : Fc W true 1 (.ref 38) [locAV l] (fun r => r = .str (nameP l)) := by
  have h := build_localename hp l (fun x hx => by have := (hl.1 x hx).2; omega) (fun x hx => by have := (hl.2 x hx).2; omega)
  rw [optAV'_eq, optAV'_eq] at h
  exact h
theorem the_law {W : Wd} (hp : PF W) (T : TF W) (ns : List Int) (hns : ns.length ≤ 1000) : Fc W false 5 (.ref 166) [.lst (ns.map .int)] (fun r => r = .bool true) := by
  refine' Fc.introKC hp ["script"] ["script", "k", "locales", "names"] ["numbers"] ["_law_numbers", "_law_wish", "_law_items"] [some 0, none, none, none] [none] ?ho ?hc ?bd (bind1 ?hb) ?pl ?gg ?clo ?nd ?nk ?gk ?ck ?pk ?cn ?lr ?cr rfl ?body
  case ho => k_is
  case bd => (conv => lhs; whnf; arg 1; whnf) <;> rfl
  case hc => kernel_rfl
  case pl => exact ⟨rfl, rfl, rfl⟩
  case gg => exact ⟨rfl, rfl⟩
  case hb => intro u; rfl
  case nd => decide +kernel
  case nk => decide +kernel
  case gk => decide +kernel
  case clo => rfl
  case ck => decide +kernel
  case pk => decide +kernel
  case cn => intro n; rfl
  case lr =>
    intro i x j h1 h2
    match i, h1, h2 with
    | 0, h1, h2 => cases h1; cases h2; rfl
    | 1, h1, h2 => cases h2
    | 2, h1, h2 => cases h2
    | 3, h1, h2 => cases h2
    | n + 4, h1, h2 => simp at h1
  case cr =>
    intro i x j h1 h2
    match i, h1, h2 with
    | 0, h1, h2 => cases h2
    | n + 1, h1, h2 => simp at h1
  case body =>
  intro c hW hn hg hcl hq hl
  subst hW
  have n0 : c.names[0]? = some ("script" : Str) := by rw [hn]; rfl
  have n1 : c.names[1]? = some ("k" : Str) := by rw [hn]; rfl
  have n2 : c.names[2]? = some ("locales" : Str) := by rw [hn]; rfl
  have n3 : c.names[3]? = some ("names" : Str) := by rw [hn]; rfl
  obtain ⟨ca0, c0⟩ := cel_get (x := "numbers") 0 hcl rfl
  have g0 : ("_law_numbers" : Str) ∈ c.gl := by rw [hg]; decide +kernel
  have v0 := (gf__law_numbers hp).1
  have kv0 := (gf__law_numbers hp).2
  have g1 : ("_law_wish" : Str) ∈ c.gl := by rw [hg]; decide +kernel
  have v1 := (gf__law_wish hp).1
  have kv1 := (gf__law_wish hp).2
  have g2 : ("_law_items" : Str) ∈ c.gl := by rw [hg]; decide +kernel
  have v2 := (gf__law_items hp).1
  have kv2 := (gf__law_items hp).2
  clear hn hg
  repeat (first | tb_rel | top_args)
  refine tc_fn (law_numbers hp ns hns) (fun _ => rfl) (by omega) ?_
  rintro r rfl
  repeat (first | tb_rel | top_args)
  refine ts_setmap 2 n2 ([4, 6, 8] : List Nat) (fun k => .int ((k : Nat) : Int)) (fun k => locAV (locK ns k)) (by decide) (CompStat.of (frees := ["numbers"]) (gl := ["_law_word"]) hcl rfl (by constructor <;> decide +kernel)) (fun env h1 h2 => swaps_comp h1 h2 (by decide +kernel)) ?_
  repeat (first | tb_rel | top_args)
  refine ⟨.inr (.inl rfl), fun c' S k hk => ?_, ?_⟩
  · have m0 := S.name
    have f0 := S.free 0 _ _ _ c0 rfl (.head _)
    have hp' : PF c'.W := by rw [S.W]; exact hp
    have gw : ("_law_word" : Str) ∈ c'.gl := S.glob (.head _)
    have vw := (gf__law_word hp').1
    have kw := (gf__law_word hp').2
    have hlv := S.lvl
    have hk8 : k ≤ 8 := by
      simp only [List.mem_cons, List.not_mem_nil, or_false] at hk
      omega
    repeat (first | tb_rel | top_args)
    refine sub_lstN k rfl (nn_get ns k (by omega)) (by omega) ?_
    repeat (first | tb_rel | top_args)
    refine tc_fn (law_word hp' (nn ns k)) (fun _ => rfl) (by omega) ?_
    rintro r rfl
    repeat (first | tb_rel | top_args)
    refine sub_lstN (k + 1) rfl (nn_get ns (k + 1) (by omega)) (by omega) ?_
    repeat (first | tb_rel | top_args)
    refine tc_fn (law_word hp' (nn ns (k + 1))) (fun _ => rfl) (by omega) ?_
    rintro r rfl
    repeat (first | tb_rel | top_args)
    exact rfl
  repeat (first | tb_rel | top_args)
  refine ts_setmap 3 n3 (([4, 6, 8] : List Nat).map (locK ns)) locAV (fun l => .str (nameP l)) (by simp) (CompStat.of (frees := []) (gl := ["_build_localename"]) hcl rfl (by constructor <;> decide +kernel)) (fun env h1 h2 => swaps_comp h1 h2 (by decide +kernel)) ?_
  repeat (first | tb_rel | top_args)
  refine ⟨.inl (by rw [List.map_map]; rfl), fun c' S l hl2 => ?_, ?_⟩
  · have m0 := S.name
    have hp' : PF c'.W := by rw [S.W]; exact hp
    have gw : ("_build_localename" : Str) ∈ c'.gl := S.glob (.head _)
    have vw := (gf__build_localename hp').1
    have kw := (gf__build_localename hp').2
    have hlv := S.lvl
    obtain ⟨k, _, rfl⟩ := List.mem_map.mp hl2
    repeat (first | tb_rel | top_args)
    refine tc_fn (name_loc hp' (locK ns k) (locK_ok ns k)) (fun _ => rfl) (by omega) ?_
    rintro r rfl
    exact rfl
  repeat (first | tb_rel | top_args)
  generalize hls : ([4, 6, 8] : List Nat).map (locK ns) = ls
  have e1 : (([4, 6, 8] : List Nat).map fun k => locAV (locK ns k)) = ls.map locAV := by rw [← hls, List.map_map]; rfl
  rw [e1]
  have hln : ls.length ≤ 10 := by rw [← hls]; simp
  have hlo : ∀ l ∈ ls, (∀ x, l.1 = some x → 46 ∉ x ∧ x.length ≤ 3) ∧ ∀ x, l.2 = some x → 46 ∉ x ∧ x.length ≤ 3 := fun l h => by
    rw [← hls] at h
    obtain ⟨k, _, rfl⟩ := List.mem_map.mp h
    exact locK_ok ns k
  refine ts_for_t (fun _ a => ∃ vk, a = ⟨[some (.lst (ns.map .int)), vk, some (.lst (ls.map locAV)), some (.lst (ls.map fun l => .str (nameP l)))], [some (natsAV (numP ownL ns))], []⟩) ([0, 2] : List Nat) (fun k => .int ((k : Nat) : Int)) ?_ ?_ ?_
  · repeat (first | tb_rel | top_args)
    exact ⟨rfl, _, rfl⟩
  · rintro i k a hk ⟨vk, rfl⟩
    have hk8 : k ≤ 2 := by
      have := List.mem_of_getElem? hk
      simp only [List.mem_cons, List.not_mem_nil, or_false] at this
      omega
    repeat (first | tb_rel | top_args)
    refine sub_lstN k rfl (nn_get ns k (by omega)) (by omega) ?_
    repeat (first | tb_rel | top_args)
    refine tc_fn (law_items hp (nn ns k)) (fun _ => rfl) (by omega) ?_
    rintro r rfl
    repeat (first | tb_rel | top_args)
    refine sub_lstN (k + 1) rfl (nn_get ns (k + 1) (by omega)) (by omega) ?_
    repeat (first | tb_rel | top_args)
    refine tc_fn (law_items hp (nn ns (k + 1))) (fun _ => rfl) (by omega) ?_
    rintro r rfl
    repeat (first | tb_rel | top_args)
    rw [← wishK_of]
    refine tc_fn (law_wish hp T (wishK ns k) (wishK_ok ns k) ls hln hlo) (fun h => by rw [hq] at h; cases h) (by omega) ?_
    rintro r rfl
    repeat (first | tb_rel | top_args)
    exact ⟨_, rfl⟩
  · rintro a ⟨vk, rfl⟩
    repeat (first | tb_rel | top_args)
    exact rfl
end Mine
end
section
namespace Mine
set_option maxRecDepth 100000
theorem cvl_of_ints {h : Heap} {F : Addr → Prop} : ∀ {vs : List Value} {ns : List Int}, IntsAre vs ns → CvL h F (ns.map .int) vs
  | _, _, .nil => CvL.nil
  | _, _, .cons _ _ h => CvL.cons (by rw [Cv]; exact ⟨_, rfl⟩) (cvl_of_ints h)
theorem walk_end {prog : Program} {w : World} {s : Shared} {q : Program} {loose : List Str} {mean : ExcName → Option Value} {mg mb : Str → Option Value} {fa l : Addr} {vs : List Value} {ns : List Int} {Q : Value → Shared → Prop} {E : Value → Shared → Prop}
    (T : Top q loose mean mg mb s.heap) (KX : (hK w.params).In s.heap) (hT : s.heap.get? 64 = some (tabObj #[])) (hg : s.gens = #[]) (hL : s.heap.IsList l vs.toArray) (hI : IntsAre vs ns) (hmg : mg (Str.ofString "law") = some (.ref fa))
    (H : ∀ W : Wd, PF W → TF W → Fc W false 5 (.ref 166) [.lst (ns.map .int)] (fun r => r = .bool true))
    (hQ : ∀ s' ps', (∀ b o, b ≠ 64 → s.heap.get? b = some o → s'.heap.get? b = some o) → s'.heap.get? 64 = some (tabObj ps') → AllBare s'.gens → s'.os = s.os → Q (.bool true) s') :
    wpAny (model prog w) callerA (call (.ref fa) [.ref l]) Q E s := by
  have hfa : fa = 166 := by
    obtain ⟨o, es', ep', e1, e2, e3, e4⟩ := T.g
    rw [show s.heap.get? mainGlobals = _ from KX 3 _ (hK_3 w.params)] at e1; cases e1
    cases e2
    rw [← e4] at hmg
    have e : some (Value.ref fa) = some (Value.ref 166) := hmg.symm.trans (by kernel_rfl)
    cases e; rfl
  subst hfa
  have hid : ∀ b o, (hideAll s.heap [64]).get? b = some o → s.heap.get? b = some o := fun b o e => of_hideAll _ e
  have hgt : ∀ b o, b ≠ 64 → s.heap.get? b = some o → (hideAll s.heap [64]).get? b = some o := fun b o hb e => hideAll_get _ e (by simpa using hb)
  have hcs : cStatics ≠ 64 := by decide
  have hno : (hideAll s.heap [64]).NoLimit := by
    obtain ⟨mc, hn, r⟩ := T.nolimit
    exact ⟨mc, hn.at' fun o e => hgt _ _ hcs e, r⟩
  let W : Wd := { prog := prog, w := w, h0 := hideAll s.heap [64], P := 64, tabOk := fun _ _ ps => TriplesOk ps.toList, tabKeep := fun ok _ _ => ok, nolimit := hno, mg := mg, g := T.g.at' fun o e => hgt _ _ (by decide) e, mb := mb, b := T.b.at' fun o e => hgt _ _ (by decide) e }
  have hp : PF W := ⟨fun a o e => hgt a o (fun q => by
    rw [q] at e
    have e2 : (hK w.params).lookup 64 = none := by kernel_rfl
    have e' : (hK w.params).lookup 64 = some o := e
    rw [e2] at e'; cases e') (KX a o e), T.builtins⟩
  have hTF : TF W := by
    obtain ⟨bm, ob, b1, b2, b3, b4, b5, b6⟩ := T.bmain
    have hbP : bm ≠ 64 := fun q => by rw [q, hT] at b3; cases b3; cases b4
    have hbG : bm ≠ mainGlobals := fun q => by
      obtain ⟨o, es, ep, e, hd, _⟩ := T.g
      rw [q, e] at b3; cases b3; rw [hd] at b6; cases b6
    refine ⟨codeHd_of_K hp.K (by kernel_rfl), fun _ _ _ => Iff.rfl, ⟨bm, ob, b1, b2, hbG, hbP, hgt _ _ hbP b3, b4, b5, b6⟩, (show mainGlobals ≠ 64 by decide), ⟨⟨_, _, hp.K _ _ (hK_43 _)⟩, ⟨_, _, _, _, hp.K _ _ (hK_42 _), by kernel_rfl⟩⟩, ⟨_, hp.K _ _ (hK_43 _), rfl, rfl⟩⟩
  have hSt : St W s (fun b => ∃ o, (hideAll s.heap [64]).get? b = some o) := by
    refine ⟨fun b o e => ⟨⟨o, e⟩, hid b o e⟩, fun b ⟨o, e⟩ => ⟨o, hid b o e⟩, fun ⟨o, e⟩ => ?_, ⟨#[], hT, trivial⟩, AllBare.of_eq hg⟩
    rw [show W.P = 64 from rfl, hideAll_none [64] (.head _)] at e; cases e
  have hl64 : l ≠ 64 := fun q => by
    obtain ⟨o, e1, e2, _⟩ := hL
    rw [q, hT] at e1; cases e1; cases e2
  have hFl : ∃ o, (hideAll s.heap [64]).get? l = some o := by
    obtain ⟨o, e1, _⟩ := hL
    exact ⟨o, hgt _ _ hl64 e1⟩
  have cv : CvL s.heap (fun b => ∃ o, (hideAll s.heap [64]).get? b = some o) [.lst (ns.map .int)] [.ref l] := by
    refine CvL.cons ?_ CvL.nil
    rw [Cv]
    exact ⟨l, vs.toArray, rfl, hFl, hL, by simpa using cvl_of_ints hI⟩
  refine wp_mono (H W hp hTF callerA s _ [.ref l] Q rfl (by decide +kernel) hSt cv fun v r s' F' hr S' hs cr => ?_) fun _ _ q => q
  subst hr
  rw [Cv] at cr
  subst cr
  obtain ⟨ps', hP', _⟩ := S'.tab
  exact hQ s' ps' (fun b o hb e => hs.keep b o (.inr hb) e) hP' S'.bare hs.os
end Mine
end
end
set_option maxRecDepth 100000 in
set_option maxHeartbeats 8000000 in
theorem PySem.Challenge.cw_ij0029_01_holds : PySem.Challenge.rw_ij0029_01.Holds := by
  w_on
  refine holds_law Mine.said_ok fun said => ?_
  refine holds_open (q := Mine.vq) (loose := Mine.lsK) (Xt := Mine.xtK) (XP := XL Mine.vq []) (Yf := Mine.hH.obs) (Ya := Mine.hH.val) (YP := Mine.hH.says) (d := Mine.lawD) (kwd := []) (N := 4068)
    Mine.lo_all Mine.hH.of Mine.hH.keeps (fun s e => xl_of s (Bool.and_eq_true_iff.mp e).1) XL.keeps Mine.def_ok Mine.the_ok Mine.kw_ok (fun s e => recFacts_of (Bool.and_eq_true_iff.mp e).2) (by rfl) said Mine.open_ok Mine.bare_ok ?hw ?hc
  case hw => w_witness2
  case hc =>
    intro w s₀ s₁ mg mb G Y fa o pm cd doc dV kV ho hd hcd hD hmg hg args vals as hpre hlay hrd hwl hlo
    have KX := km_in_of Y
    have hT8 := km_tabs_of Y
    refine Ground.open G ?_
    intro T B D TE TW
    wrow_args hpre hlay hrd hwl hlo
    rename Heap.IsList _ _ _ => hL
    rename IntsAre _ _ => hI
    rename (¬ _ < _) => hlen
    refine Mine.walk_end T KX (hT8 64 (.head _)) hg hL hI hmg (fun W hp hTF => Mine.the_law hp hTF _ (by omega)) fun s' ps' hk hP hb hos => ?_
    have hC : CodeHd s₁.heap 68 64 := codeHd_of_K KX (by kernel_rfl)
    refine ⟨.inl ⟨_, .bool true, [], rfl, fun _ => rfl, .bool true, ?_, fun _ => ⟨List.nodup_nil, fun a ha => nomatch ha⟩⟩, ⟨fun b o e => ?_, fun b o e => ?_⟩, hos, hb⟩
    · refine postW_of (X := true) rfl ?_ rfl
      first
      | rfl
      | exact w_eq_bool (w_res rfl) w_lit
      | exact (w_eq_bool (w_res rfl) w_lit).trans rfl
    · by_cases h64 : b = 64
      · subst h64
        have e2 := hT8 64 (.head _)
        rw [e2] at e; cases e
        exact .inr (.inl ⟨(hC.tab e2).isCodeTable, rfl, #[], ps', rfl, by rw [hP]; simp⟩)
      · exact .inl (hk b o h64 e)
    · by_cases h64 : b = 64
      · subst h64; exact ⟨_, hP⟩
      · exact ⟨o, hk b o h64 e⟩
