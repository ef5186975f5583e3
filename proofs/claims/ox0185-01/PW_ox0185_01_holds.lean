import PyProof.Rows.All
import Wide.All
import OpenK.AllK
import Wide.FinOn
import KE.KPairComp
import Lean
import PySem.Challenge.RW_ox0185_01
open PySem PySem.W PyProof.Rows
set_option Elab.async false
set_option maxRecDepth 100000
set_option maxHeartbeats 8000000
set_option linter.unusedVariables false
namespace Mine
/-! ## the written objects that the proof reads -/
noncomputable def dAt (n : Nat) : Stmt := (PySem.Challenge.pw_ox0185_01.main.body[n]?).getD (.Pass ⟨0, 0, 0, 0⟩)
noncomputable def mNew : Stmt := match dAt 4 with
  | .ClassDef _ _ _ body _ _ _ _ _ _ _ => (body[4]?).getD (.Pass ⟨0, 0, 0, 0⟩)
  | st => st
noncomputable def sv (x : Str) (t : Tok) : Value := .str x t
noncomputable def dc (st : Stmt) (t : Tok) : Value := match st with
  | .FunctionDef _ _ (.Expr (.Constant (.str x) _ _) _ :: _) _ _ _ _ _ _ _ => .str x t
  | _ => .none
noncomputable def fnO (st : Stmt) (c : Addr) (q : Str) (dfl doc md : Value) : Obj := match st with
  | .FunctionDef name params body _ _ _ scope _ _ _ => { cls := .type "function", data := .func { name, qualname := q, params, body := .stmts body, scope, globals := 3, closure := [], defaults := dfl, kwdefaults := .none, doc, pyModule := md, code := .ref c } }
  | _ => { cls := .none, data := .plain }
noncomputable def cdO (n : Str) (t1 : Tok) (q : Str) (t2 t3 : Tok) (l a b c f : Int) (r1 : Addr) (k : Int) (r2 : Addr) (r3 r4 : Value) (r5 : Addr) (x y : Int) (t4 : Tok) : Obj :=
  { cls := .type "code", data := .fields #[.str n t1, .str q t2, .str "/claim/cut.py" t3, .int l 0, .int a 0, .int b 0, .int c 0, .int f 0, .ref r1, .bool true, .int k 0, .ref r2, .none, r3, r4, .ref r5, .int x 0, .int y 0, .str "/claim/cut.py" t4] }
noncomputable def en (P : Params) (x : Str) (t : Tok) (v : Value) : DictEntry := { hash := PyData.keyHash P x, key := .str x t, val := v }
noncomputable def KS (P : Params) : Frag :=
  (nat_lit 2, { cls := .none, data := .dict #[] }) ::
  (nat_lit 3, { cls := .type "dict", data := .dict #[en P "__name__" 165 ((sv "law_ox0185_01" 431)), en P "__doc__" 166 (.none), en P "__package__" 167 (.none), en P "__loader__" 168 (.builtin "__main__.__loader__#opaque"), en P "__spec__" 169 (.none), en P "__annotations__" 170 (.ref 6), en P "__builtins__" 171 (.ref 4), en P "__file__" 173 ((sv "/claim/cut.py" 172)), en P "__cached__" 174 (.none), en P "_wall" 193 (.ref 21), en P "_tuplegetter" 252 (.ref 60), en P "unorderable_list_difference" 263 (.ref 71), en P "Mismatch" 391 (.ref 142), en P "_Mismatch" 392 (.ref 142), en P "_count_diff_all_purpose" 414 (.ref 152), en P "_initial_missing" 417 (.ref 153), en P "reduce" 430 (.ref 161), en P "_law_thing" 439 (.ref 168), en P "_law_bag" 445 (.ref 173), en P "_law_counts" 451 (.ref 178), en P "_law_beyond" 457 (.ref 183), en P "_law_patch" 468 (.ref 190), en P "_law_done" 478 (.ref 197), en P "_law_joined" 488 (.ref 204), en P "_law_fits" 494 (.ref 209), en P "_law_rows" 505 (.ref 216), en P "_law_history" 511 (.ref 221), en P "law" 517 (.ref 226)] 28 }) ::
  (nat_lit 70, cdO "unorderable_list_difference" 253 "unorderable_list_difference" 254 255 23 2 0 0 3 65 181 66 (.ref 67) (.ref 68) 69 260 23 261) ::
  (nat_lit 71, fnO (dAt 3) 70 "unorderable_list_difference" (.none) (dc (dAt 3) 262) (sv "cpy313.unittest.util" 194)) ::
  (nat_lit 72, { cls := .type "tuple", data := .seq #[.type "tuple"] }) ::
  (nat_lit 88, cdO "__new__" 285 "Mismatch.__new__" 286 287 43 4 0 0 3 83 181 84 (.ref 85) (.ref 86) 87 292 43 293) ::
  (nat_lit 89, fnO mNew 88 "Mismatch.__new__" (.none) (dc mNew 294) (sv "cpy313.unittest.util" 194)) ::
  (nat_lit 141, { cls := .type "dict", data := .dict #[en P "__module__" 271 ((sv "cpy313.unittest.util" 194)), en P "__firstlineno__" 275 (.int 37 274), { hash := PyData.keyHash P (Str.ofString "__doc__"), key := (sv "__doc__" 277), val := (sv "Mismatch(actual, expected, value)" 276) }, en P "__slots__" 279 (.ref 80), en P "_fields" 283 (.ref 81), en P "_field_defaults" 284 (.ref 82), en P "__new__" 295 (.ref 143), en P "_make" 317 (.ref 98), en P "_replace" 328 (.ref 107), en P "__replace__" 329 (.ref 107), en P "__repr__" 337 (.ref 114), en P "_asdict" 344 (.ref 121), en P "__getnewargs__" 352 (.ref 128), en P "__match_args__" 356 (.ref 129), en P "actual" 366 (.ref 131), en P "expected" 376 (.ref 134), en P "value" 386 (.ref 137), en P "__static_attributes__" 387 (.ref 139)] 2 }) ::
  (nat_lit 142, { cls := .type "type", data := .cls { name := Str.ofString "Mismatch", bases := [.type "tuple"], mro := [.ref 142, .type "tuple", .type "object"], ns := 141, qualname := Str.ofString "Mismatch", hasDict := false }, slots := #[some (.ref 72), none, some ((sv "Mismatch" 264)), some ((sv "Mismatch" 272)), some .none, some (.bool false)] }) ::
  (nat_lit 143, { cls := .type "staticmethod", data := .fields #[.ref 89] }) ::
  (nat_lit 151, cdO "_count_diff_all_purpose" 393 "_count_diff_all_purpose" 394 395 81 2 0 0 3 146 181 147 (.ref 148) (.ref 149) 150 411 81 412) ::
  (nat_lit 152, fnO (dAt 6) 151 "_count_diff_all_purpose" (.none) (dc (dAt 6) 413) (sv "cpy313.unittest.util" 194)) ::
  (nat_lit 153, { cls := .type "object" }) ::
  (nat_lit 154, { cls := .type "tuple", data := .seq #[.ref 153] }) ::
  (nat_lit 160, cdO "reduce" 418 "reduce" 419 420 115 3 0 0 3 155 181 156 (.ref 157) (.ref 158) 159 427 115 428) ::
  (nat_lit 161, fnO (dAt 9) 160 "reduce" (.ref 154) (dc (dAt 9) 429) (sv "cpy313.functools" 415)) ::
  (nat_lit 167, cdO "_law_thing" 433 "_law_thing" 434 435 140 1 0 0 3 162 181 163 (.ref 164) (.ref 165) 166 437 140 438) ::
  (nat_lit 168, fnO (dAt 11) 167 "_law_thing" (.none) .none (sv "law_ox0185_01" 431)) ::
  (nat_lit 172, cdO "_law_bag" 440 "_law_bag" 441 442 142 1 0 0 3 169 181 170 (.none) (.none) 171 443 142 444) ::
  (nat_lit 173, fnO (dAt 12) 172 "_law_bag" (.none) .none (sv "law_ox0185_01" 431)) ::
  (nat_lit 177, cdO "_law_counts" 446 "_law_counts" 447 448 147 1 0 0 3 174 181 175 (.none) (.none) 176 449 147 450) ::
  (nat_lit 178, fnO (dAt 13) 177 "_law_counts" (.none) .none (sv "law_ox0185_01" 431)) ::
  (nat_lit 182, cdO "_law_beyond" 452 "_law_beyond" 453 454 149 2 0 0 3 179 181 180 (.none) (.none) 181 455 149 456) ::
  (nat_lit 183, fnO (dAt 14) 182 "_law_beyond" (.none) .none (sv "law_ox0185_01" 431)) ::
  (nat_lit 189, cdO "_law_patch" 458 "_law_patch" 459 460 152 2 0 0 3 184 181 185 (.ref 186) (.ref 187) 188 466 152 467) ::
  (nat_lit 190, fnO (dAt 15) 189 "_law_patch" (.none) .none (sv "law_ox0185_01" 431)) ::
  (nat_lit 196, cdO "_law_done" 469 "_law_done" 470 471 158 2 0 0 3 191 181 192 (.ref 193) (.ref 194) 195 476 158 477) ::
  (nat_lit 197, fnO (dAt 16) 196 "_law_done" (.none) .none (sv "law_ox0185_01" 431)) ::
  (nat_lit 203, cdO "_law_joined" 479 "_law_joined" 480 481 163 2 0 0 3 198 181 199 (.ref 200) (.ref 201) 202 486 163 487) ::
  (nat_lit 204, fnO (dAt 17) 203 "_law_joined" (.none) .none (sv "law_ox0185_01" 431)) ::
  (nat_lit 208, cdO "_law_fits" 489 "_law_fits" 490 491 166 3 0 0 3 205 181 206 (.none) (.none) 207 492 166 493) ::
  (nat_lit 209, fnO (dAt 18) 208 "_law_fits" (.none) .none (sv "law_ox0185_01" 431)) ::
  (nat_lit 215, cdO "_law_rows" 495 "_law_rows" 496 497 168 2 0 0 3 210 181 211 (.ref 212) (.ref 213) 214 503 168 504) ::
  (nat_lit 216, fnO (dAt 19) 215 "_law_rows" (.none) .none (sv "law_ox0185_01" 431)) ::
  (nat_lit 220, cdO "_law_history" 506 "_law_history" 507 508 175 1 0 0 3 217 181 218 (.none) (.none) 219 509 175 510) ::
  (nat_lit 221, fnO (dAt 20) 220 "_law_history" (.none) .none (sv "law_ox0185_01" 431)) ::
  (nat_lit 225, cdO "law" 512 "law" 513 514 198 1 0 0 3 222 181 223 (.none) (.none) 224 515 198 516) ::
  (nat_lit 226, fnO (dAt 21) 225 "law" (.none) .none (sv "law_ox0185_01" 431)) :: []
noncomputable def KSas : List Addr := [2, 3, 70, 71, 72, 88, 89, 141, 142, 143, 151, 152, 153, 154, 160, 161, 167, 168, 172, 173, 177, 178, 182, 183, 189, 190, 196, 197, 203, 204, 208, 209, 215, 216, 220, 221, 225, 226]
noncomputable def QV : Program := { PySem.Challenge.pw_ox0185_01 with main := { PySem.Challenge.pw_ox0185_01.main with body := [dAt 21] } }
def LV : List Str := ["_wall", "_tuplegetter", "unorderable_list_difference", "Mismatch", "_Mismatch", "_count_diff_all_purpose", "_initial_missing", "reduce", "_law_thing", "_law_bag", "_law_counts", "_law_beyond", "_law_patch", "_law_done", "_law_joined", "_law_fits", "_law_rows", "_law_history"]
/-! ## the states that the text leaves behind some of its rows -/
noncomputable def hdMt (c j : Nat) : Stmt := match dAt c with
  | .ClassDef _ _ _ body _ _ _ _ _ _ _ => (body[j]?).getD (.Pass ⟨0, 0, 0, 0⟩)
  | st => st
noncomputable def hdFd (st : Stmt) (q : Str) : FuncData := match st with
  | .FunctionDef name params body _ _ _ scope _ _ _ => { name, qualname := q, params, body := .stmts body, scope, globals := 0, closure := [], defaults := .none, kwdefaults := .none }
  | _ => default
noncomputable def za_11 (P : Params) : Obj := { cls := .type "tuple", data := .seq #[] }
noncomputable def za_12 (P : Params) : Obj := { cls := .none, data := .fields #[] }
noncomputable def za_13 (P : Params) : Obj := { cls := .type "code", data := .fields #[(sv "<module>" 182), (sv "<module>" 183), (sv "/claim/cut.py" 184), .int 1 0, .int 0 0, .int 0 0, .int 0 0, .int 0 0, .ref 11, .bool false, .int 181 0, .ref 12, .none, .none, .none, .none, .int 185 0, .int 1 0, (sv "/claim/cut.py" 186)] }
noncomputable def za_14 (P : Params) : Obj := { cls := .type "frame", slots := #[some (.ref 13), some (.ref 3), some (.ref 3), none, some ((sv "__main__" 164)), none, some (.ref 0)] }
noncomputable def zb_3 (P : Params) : Obj := { cls := .type "dict", data := .dict #[en P "__name__" 165 ((sv "cpy313.unittest.util" 194)), en P "__doc__" 166 (.none), en P "__package__" 167 (.none), en P "__loader__" 168 (.builtin "__main__.__loader__#opaque"), en P "__spec__" 169 (.none), en P "__annotations__" 170 (.ref 6), en P "__builtins__" 171 (.ref 4), en P "__file__" 173 ((sv "/claim/cut.py" 172)), en P "__cached__" 174 (.none), en P "_wall" 193 (.ref 21), en P "_tuplegetter" 252 (.ref 60), en P "unorderable_list_difference" 263 (.ref 71)] 12 }
noncomputable def zb_12 (P : Params) : Obj := { cls := .none, data := .fields #[.int 1 0, .int 0 0, .ref 20, .int 5 0, .int 0 0, .ref 27, .int 23 0, .int 0 0, .ref 70] }
noncomputable def zb_15 (P : Params) : Obj := { cls := .type "tuple", data := .seq #[] }
noncomputable def zb_16 (P : Params) : Obj := { cls := .none, data := .fields #[] }
noncomputable def zb_17 (P : Params) : Obj := { cls := .type "tuple", data := .seq #[(sv "k" 190)] }
noncomputable def zb_18 (P : Params) : Obj := { cls := .type "tuple", data := .seq #[] }
noncomputable def zb_19 (P : Params) : Obj := { cls := .none, data := .func { hdFd (dAt 0) "_wall" with globals := 0, closure := [], defaults := .none, kwdefaults := .none } }
noncomputable def zb_20 (P : Params) : Obj := { cls := .type "code", data := .fields #[(sv "_wall" 187), (sv "_wall" 188), (sv "/claim/cut.py" 189), .int 1 0, .int 1 0, .int 0 0, .int 0 0, .int 3 0, .ref 15, .bool true, .int 181 0, .ref 16, .none, .ref 17, .ref 18, .ref 19, .int 191 0, .int 1 0, (sv "/claim/cut.py" 192)] }
noncomputable def zb_21 (P : Params) : Obj := { cls := .type "function", data := .func { hdFd (dAt 0) "_wall" with globals := 3, closure := [], defaults := .none, kwdefaults := .none, pyModule := (sv "__main__" 164), code := .ref 20 } }
noncomputable def zb_22 (P : Params) : Obj := { cls := .type "tuple", data := .seq #[] }
noncomputable def zb_23 (P : Params) : Obj := { cls := .type "builtin_function_or_method", data := .fields #[.builtin "type.__prepare__", .type "type"] }
noncomputable def zb_24 (P : Params) : Obj := { cls := .type "dict", data := .dict #[en P "__module__" 203 ((sv "cpy313.unittest.util" 194)), en P "__qualname__" 205 ((sv "_tuplegetter" 204)), en P "__firstlineno__" 207 (.int 5 206), en P "__init__" 216 (.ref 35), en P "__get__" 225 (.ref 43), en P "__set__" 234 (.ref 50), en P "__delete__" 242 (.ref 57), en P "__static_attributes__" 245 (.ref 58)] 8 }
noncomputable def zb_25 (P : Params) : Obj := { cls := .type "tuple", data := .seq #[] }
noncomputable def zb_26 (P : Params) : Obj := { cls := .none, data := .fields #[.int 7 0, .int 4 0, .ref 34, .int 11 0, .int 4 0, .ref 42, .int 18 0, .int 4 0, .ref 49, .int 21 0, .int 4 0, .ref 56] }
noncomputable def zb_27 (P : Params) : Obj := { cls := .type "code", data := .fields #[(sv "_tuplegetter" 198), (sv "_tuplegetter" 199), (sv "/claim/cut.py" 200), .int 5 0, .int 0 0, .int 0 0, .int 0 0, .int 0 0, .ref 25, .bool false, .int 181 0, .ref 26, .none, .none, .none, .none, .int 201 0, .int 5 0, (sv "/claim/cut.py" 202)] }
noncomputable def zb_28 (P : Params) : Obj := { cls := .type "frame", slots := #[some (.ref 27), some (.ref 3), some (.ref 24), none, some ((sv "cpy313.unittest.util" 194)), none, some (.ref 0)] }
noncomputable def zb_29 (P : Params) : Obj := { cls := .type "tuple", data := .seq #[] }
noncomputable def zb_30 (P : Params) : Obj := { cls := .none, data := .fields #[] }
noncomputable def zb_31 (P : Params) : Obj := { cls := .type "tuple", data := .seq #[(sv "self" 211), (sv "index" 212), (sv "doc" 213)] }
noncomputable def zb_32 (P : Params) : Obj := { cls := .type "tuple", data := .seq #[] }
noncomputable def zb_33 (P : Params) : Obj := { cls := .none, data := .func { hdFd (hdMt 2 0) "_tuplegetter.__init__" with globals := 0, closure := [], defaults := .none, kwdefaults := .none } }
noncomputable def zb_34 (P : Params) : Obj := { cls := .type "code", data := .fields #[(sv "__init__" 208), (sv "_tuplegetter.__init__" 209), (sv "/claim/cut.py" 210), .int 7 0, .int 3 0, .int 0 0, .int 0 0, .int 3 0, .ref 29, .bool true, .int 181 0, .ref 30, .none, .ref 31, .ref 32, .ref 33, .int 214 0, .int 7 0, (sv "/claim/cut.py" 215)] }
noncomputable def zb_35 (P : Params) : Obj := { cls := .type "function", data := .func { hdFd (hdMt 2 0) "_tuplegetter.__init__" with globals := 3, closure := [], defaults := .none, kwdefaults := .none, pyModule := (sv "cpy313.unittest.util" 194), code := .ref 34 } }
noncomputable def zb_36 (P : Params) : Obj := { cls := .type "tuple", data := .seq #[.none] }
noncomputable def zb_37 (P : Params) : Obj := { cls := .type "tuple", data := .seq #[] }
noncomputable def zb_38 (P : Params) : Obj := { cls := .none, data := .fields #[] }
noncomputable def zb_39 (P : Params) : Obj := { cls := .type "tuple", data := .seq #[(sv "self" 220), (sv "obj" 221), (sv "objtype" 222)] }
noncomputable def zb_40 (P : Params) : Obj := { cls := .type "tuple", data := .seq #[] }
noncomputable def zb_41 (P : Params) : Obj := { cls := .none, data := .func { hdFd (hdMt 2 1) "_tuplegetter.__get__" with globals := 0, closure := [], defaults := .none, kwdefaults := .none } }
noncomputable def zb_42 (P : Params) : Obj := { cls := .type "code", data := .fields #[(sv "__get__" 217), (sv "_tuplegetter.__get__" 218), (sv "/claim/cut.py" 219), .int 11 0, .int 3 0, .int 0 0, .int 0 0, .int 3 0, .ref 37, .bool true, .int 181 0, .ref 38, .none, .ref 39, .ref 40, .ref 41, .int 223 0, .int 11 0, (sv "/claim/cut.py" 224)] }
noncomputable def zb_43 (P : Params) : Obj := { cls := .type "function", data := .func { hdFd (hdMt 2 1) "_tuplegetter.__get__" with globals := 3, closure := [], defaults := .ref 36, kwdefaults := .none, pyModule := (sv "cpy313.unittest.util" 194), code := .ref 42 } }
noncomputable def zb_44 (P : Params) : Obj := { cls := .type "tuple", data := .seq #[] }
noncomputable def zb_45 (P : Params) : Obj := { cls := .none, data := .fields #[] }
noncomputable def zb_46 (P : Params) : Obj := { cls := .type "tuple", data := .seq #[(sv "self" 229), (sv "obj" 230), (sv "value" 231)] }
noncomputable def zb_47 (P : Params) : Obj := { cls := .type "tuple", data := .seq #[] }
noncomputable def zb_48 (P : Params) : Obj := { cls := .none, data := .func { hdFd (hdMt 2 2) "_tuplegetter.__set__" with globals := 0, closure := [], defaults := .none, kwdefaults := .none } }
noncomputable def zb_49 (P : Params) : Obj := { cls := .type "code", data := .fields #[(sv "__set__" 226), (sv "_tuplegetter.__set__" 227), (sv "/claim/cut.py" 228), .int 18 0, .int 3 0, .int 0 0, .int 0 0, .int 3 0, .ref 44, .bool true, .int 181 0, .ref 45, .none, .ref 46, .ref 47, .ref 48, .int 232 0, .int 18 0, (sv "/claim/cut.py" 233)] }
noncomputable def zb_50 (P : Params) : Obj := { cls := .type "function", data := .func { hdFd (hdMt 2 2) "_tuplegetter.__set__" with globals := 3, closure := [], defaults := .none, kwdefaults := .none, pyModule := (sv "cpy313.unittest.util" 194), code := .ref 49 } }
noncomputable def zb_51 (P : Params) : Obj := { cls := .type "tuple", data := .seq #[] }
noncomputable def zb_52 (P : Params) : Obj := { cls := .none, data := .fields #[] }
noncomputable def zb_53 (P : Params) : Obj := { cls := .type "tuple", data := .seq #[(sv "self" 238), (sv "obj" 239)] }
noncomputable def zb_54 (P : Params) : Obj := { cls := .type "tuple", data := .seq #[] }
noncomputable def zb_55 (P : Params) : Obj := { cls := .none, data := .func { hdFd (hdMt 2 3) "_tuplegetter.__delete__" with globals := 0, closure := [], defaults := .none, kwdefaults := .none } }
noncomputable def zb_56 (P : Params) : Obj := { cls := .type "code", data := .fields #[(sv "__delete__" 235), (sv "_tuplegetter.__delete__" 236), (sv "/claim/cut.py" 237), .int 21 0, .int 2 0, .int 0 0, .int 0 0, .int 3 0, .ref 51, .bool true, .int 181 0, .ref 52, .none, .ref 53, .ref 54, .ref 55, .int 240 0, .int 21 0, (sv "/claim/cut.py" 241)] }
noncomputable def zb_57 (P : Params) : Obj := { cls := .type "function", data := .func { hdFd (hdMt 2 3) "_tuplegetter.__delete__" with globals := 3, closure := [], defaults := .none, kwdefaults := .none, pyModule := (sv "cpy313.unittest.util" 194), code := .ref 56 } }
noncomputable def zb_58 (P : Params) : Obj := { cls := .type "tuple", data := .seq #[(sv "__doc__" 243), (sv "index" 244)] }
noncomputable def zb_59 (P : Params) : Obj := { cls := .type "dict", data := .dict #[en P "__module__" 203 ((sv "cpy313.unittest.util" 194)), en P "__firstlineno__" 207 (.int 5 206), en P "__init__" 216 (.ref 35), en P "__get__" 225 (.ref 43), en P "__set__" 234 (.ref 50), en P "__delete__" 242 (.ref 57), en P "__static_attributes__" 245 (.ref 58), en P "__dict__" 247 (.ref 61), en P "__weakref__" 249 (.ref 62), en P "__doc__" 250 (.none)] 4 }
noncomputable def zb_60 (P : Params) : Obj := { cls := .type "type", data := .cls { name := Str.ofString "_tuplegetter", bases := [.type "object"], mro := [.ref 60, .type "object"], ns := 59, qualname := Str.ofString "_tuplegetter" }, slots := #[none, none, some ((sv "_tuplegetter" 196)), some ((sv "_tuplegetter" 204)), some (.builtin "object.__new__"), some (.bool true)] }
noncomputable def zb_61 (P : Params) : Obj := { cls := .type "getset_descriptor", data := .fields #[(sv "__dict__" 246), .ref 60, .builtin "function.__dict__", .builtin "function.__dict__#set"] }
noncomputable def zb_62 (P : Params) : Obj := { cls := .type "getset_descriptor", data := .fields #[(sv "__weakref__" 248), .ref 60, .builtin "ExceptionGroup.__weakref__", .none] }
noncomputable def zb_63 (P : Params) : Obj := { cls := .type "super", data := .fields #[.ref 60, .ref 60, .ref 60] }
noncomputable def zb_64 (P : Params) : Obj := { cls := .type "builtin_function_or_method", data := .fields #[.builtin "object.__init_subclass__", .ref 60] }
noncomputable def zb_65 (P : Params) : Obj := { cls := .type "tuple", data := .seq #[] }
noncomputable def zb_66 (P : Params) : Obj := { cls := .none, data := .fields #[] }
noncomputable def zb_67 (P : Params) : Obj := { cls := .type "tuple", data := .seq #[(sv "expected" 256), (sv "actual" 257), (sv "missing" 258), (sv "item" 259)] }
noncomputable def zb_68 (P : Params) : Obj := { cls := .type "tuple", data := .seq #[] }
noncomputable def zb_69 (P : Params) : Obj := { cls := .none, data := .func { hdFd (dAt 3) "unorderable_list_difference" with globals := 0, closure := [], defaults := .none, kwdefaults := .none } }
noncomputable def zb_70 (P : Params) : Obj := { cls := .type "code", data := .fields #[(sv "unorderable_list_difference" 253), (sv "unorderable_list_difference" 254), (sv "/claim/cut.py" 255), .int 23 0, .int 2 0, .int 0 0, .int 0 0, .int 3 0, .ref 65, .bool true, .int 181 0, .ref 66, .none, .ref 67, .ref 68, .ref 69, .int 260 0, .int 23 0, (sv "/claim/cut.py" 261)] }
noncomputable def zb_71 (P : Params) : Obj := { cls := .type "function", data := .func { hdFd (dAt 3) "unorderable_list_difference" with globals := 3, closure := [], defaults := .none, kwdefaults := .none, doc := dc (dAt 3) 262, pyModule := (sv "cpy313.unittest.util" 194), code := .ref 70 } }
noncomputable def zc_3 (P : Params) : Obj := { cls := .type "dict", data := .dict #[en P "__name__" 165 ((sv "cpy313.unittest.util" 194)), en P "__doc__" 166 (.none), en P "__package__" 167 (.none), en P "__loader__" 168 (.builtin "__main__.__loader__#opaque"), en P "__spec__" 169 (.none), en P "__annotations__" 170 (.ref 6), en P "__builtins__" 171 (.ref 4), en P "__file__" 173 ((sv "/claim/cut.py" 172)), en P "__cached__" 174 (.none), en P "_wall" 193 (.ref 21), en P "_tuplegetter" 252 (.ref 60), en P "unorderable_list_difference" 263 (.ref 71), en P "Mismatch" 391 (.ref 142)] 13 }
noncomputable def zc_12 (P : Params) : Obj := { cls := .none, data := .fields #[.int 1 0, .int 0 0, .ref 20, .int 5 0, .int 0 0, .ref 27, .int 23 0, .int 0 0, .ref 70, .int 37 0, .int 0 0, .ref 78] }
noncomputable def zc_72 (P : Params) : Obj := { cls := .type "tuple", data := .seq #[.type "tuple"] }
noncomputable def zc_73 (P : Params) : Obj := { cls := .type "builtin_function_or_method", data := .fields #[.builtin "type.__prepare__", .type "type"] }
noncomputable def zc_74 (P : Params) : Obj := { cls := .type "dict", data := .dict #[en P "__module__" 271 ((sv "cpy313.unittest.util" 194)), en P "__qualname__" 273 ((sv "Mismatch" 272)), en P "__firstlineno__" 275 (.int 37 274), { hash := PyData.keyHash P (Str.ofString "__doc__"), key := (sv "__doc__" 277), val := (sv "Mismatch(actual, expected, value)" 276) }, en P "__slots__" 279 (.ref 80), en P "_fields" 283 (.ref 81), en P "_field_defaults" 284 (.ref 82), en P "__new__" 295 (.ref 89), en P "_make" 317 (.ref 98), en P "_replace" 328 (.ref 107), en P "__replace__" 329 (.ref 107), en P "__repr__" 337 (.ref 114), en P "_asdict" 344 (.ref 121), en P "__getnewargs__" 352 (.ref 128), en P "__match_args__" 356 (.ref 129), en P "actual" 366 (.ref 131), en P "expected" 376 (.ref 134), en P "value" 386 (.ref 137), en P "__static_attributes__" 387 (.ref 139), en P "__classcell__" 388 (.ref 75)] 20 }
noncomputable def zc_75 (P : Params) : Obj := { cls := .type "cell", data := .cell (some (.ref 142)) }
noncomputable def zc_76 (P : Params) : Obj := { cls := .type "tuple", data := .seq #[] }
noncomputable def zc_77 (P : Params) : Obj := { cls := .none, data := .fields #[.int 43 0, .int 4 0, .ref 88, .int 48 0, .int 4 0, .ref 95, .int 55 0, .int 4 0, .ref 106, .int 66 0, .int 4 0, .ref 113, .int 70 0, .int 4 0, .ref 120, .int 73 0, .int 4 0, .ref 127] }
noncomputable def zc_78 (P : Params) : Obj := { cls := .type "code", data := .fields #[(sv "Mismatch" 266), (sv "Mismatch" 267), (sv "/claim/cut.py" 268), .int 37 0, .int 0 0, .int 0 0, .int 0 0, .int 0 0, .ref 76, .bool false, .int 181 0, .ref 77, .none, .none, .none, .none, .int 269 0, .int 37 0, (sv "/claim/cut.py" 270)] }
noncomputable def zc_79 (P : Params) : Obj := { cls := .type "frame", slots := #[some (.ref 78), some (.ref 3), some (.ref 74), none, some ((sv "cpy313.unittest.util" 194)), none, some (.ref 0)] }
noncomputable def zc_80 (P : Params) : Obj := { cls := .type "tuple", data := .seq #[] }
noncomputable def zc_81 (P : Params) : Obj := { cls := .type "tuple", data := .seq #[(sv "actual" 280), (sv "expected" 281), (sv "value" 282)] }
noncomputable def zc_82 (P : Params) : Obj := { cls := .type "dict", data := .dict #[] }
noncomputable def zc_83 (P : Params) : Obj := { cls := .type "tuple", data := .seq #[] }
noncomputable def zc_84 (P : Params) : Obj := { cls := .none, data := .fields #[] }
noncomputable def zc_85 (P : Params) : Obj := { cls := .type "tuple", data := .seq #[(sv "_cls" 288), (sv "actual" 289), (sv "expected" 290), (sv "value" 291)] }
noncomputable def zc_86 (P : Params) : Obj := { cls := .type "tuple", data := .seq #[] }
noncomputable def zc_87 (P : Params) : Obj := { cls := .none, data := .func { hdFd (hdMt 4 4) "Mismatch.__new__" with globals := 0, closure := [], defaults := .none, kwdefaults := .none } }
noncomputable def zc_88 (P : Params) : Obj := { cls := .type "code", data := .fields #[(sv "__new__" 285), (sv "Mismatch.__new__" 286), (sv "/claim/cut.py" 287), .int 43 0, .int 4 0, .int 0 0, .int 0 0, .int 3 0, .ref 83, .bool true, .int 181 0, .ref 84, .none, .ref 85, .ref 86, .ref 87, .int 292 0, .int 43 0, (sv "/claim/cut.py" 293)] }
noncomputable def zc_89 (P : Params) : Obj := { cls := .type "function", data := .func { hdFd (hdMt 4 4) "Mismatch.__new__" with globals := 3, closure := [], defaults := .none, kwdefaults := .none, doc := dc (hdMt 4 4) 294, pyModule := (sv "cpy313.unittest.util" 194), code := .ref 88 } }
noncomputable def zc_90 (P : Params) : Obj := { cls := .type "tuple", data := .seq #[] }
noncomputable def zc_91 (P : Params) : Obj := { cls := .none, data := .fields #[] }
noncomputable def zc_92 (P : Params) : Obj := { cls := .type "tuple", data := .seq #[(sv "cls" 299), (sv "iterable" 300), (sv "result" 301)] }
noncomputable def zc_93 (P : Params) : Obj := { cls := .type "tuple", data := .seq #[] }
noncomputable def zc_94 (P : Params) : Obj := { cls := .none, data := .func { hdFd (hdMt 4 5) "Mismatch._make" with globals := 0, closure := [], defaults := .none, kwdefaults := .none } }
noncomputable def zc_95 (P : Params) : Obj := { cls := .type "code", data := .fields #[(sv "_make" 296), (sv "Mismatch._make" 297), (sv "/claim/cut.py" 298), .int 47 0, .int 2 0, .int 0 0, .int 0 0, .int 3 0, .ref 90, .bool true, .int 181 0, .ref 91, .none, .ref 92, .ref 93, .ref 94, .int 302 0, .int 47 0, (sv "/claim/cut.py" 303)] }
noncomputable def zc_96 (P : Params) : Obj := { cls := .type "function", data := .func { hdFd (hdMt 4 5) "Mismatch._make" with globals := 3, closure := [], defaults := .none, kwdefaults := .none, doc := dc (hdMt 4 5) 304, pyModule := (sv "cpy313.unittest.util" 194), annotations := some 99, code := .ref 95 } }
noncomputable def zc_97 (P : Params) : Obj := { cls := .type "dict", data := .dict #[en P "__module__" 306 ((sv "cpy313.unittest.util" 194)), en P "__name__" 309 ((sv "_make" 308)), en P "__qualname__" 312 ((sv "Mismatch._make" 311)), en P "__doc__" 314 ((sv "Make a new Mismatch object from a sequence or iterable" 304)), en P "__annotations__" 316 (.ref 99)] 5 }
noncomputable def zc_98 (P : Params) : Obj := { cls := .type "classmethod", dict := some 97, data := .fields #[.ref 96, .bool false] }
noncomputable def zc_99 (P : Params) : Obj := { cls := .type "dict", data := .dict #[] }
noncomputable def zc_100 (P : Params) : Obj := { cls := .type "tuple", data := .seq #[.ref 75] }
noncomputable def zc_101 (P : Params) : Obj := { cls := .type "tuple", data := .seq #[(sv "__class__" 321)] }
noncomputable def zc_102 (P : Params) : Obj := { cls := .none, data := .fields #[] }
noncomputable def zc_103 (P : Params) : Obj := { cls := .type "tuple", data := .seq #[(sv "self" 322), (sv "kwds" 323), (sv "result" 324)] }
noncomputable def zc_104 (P : Params) : Obj := { cls := .type "tuple", data := .seq #[] }
noncomputable def zc_105 (P : Params) : Obj := { cls := .none, data := .func { hdFd (hdMt 4 6) "Mismatch._replace" with globals := 0, closure := [], defaults := .none, kwdefaults := .none } }
noncomputable def zc_106 (P : Params) : Obj := { cls := .type "code", data := .fields #[(sv "_replace" 318), (sv "Mismatch._replace" 319), (sv "/claim/cut.py" 320), .int 55 0, .int 1 0, .int 1 0, .int 0 0, .int 11 0, .ref 101, .bool true, .int 181 0, .ref 102, .none, .ref 103, .ref 104, .ref 105, .int 325 0, .int 55 0, (sv "/claim/cut.py" 326)] }
noncomputable def zc_107 (P : Params) : Obj := { cls := .type "function", data := .func { hdFd (hdMt 4 6) "Mismatch._replace" with globals := 3, closure := [(Str.ofString "__class__", 75)], defaults := .none, kwdefaults := .none, doc := dc (hdMt 4 6) 327, pyModule := (sv "cpy313.unittest.util" 194), code := .ref 106, closureTuple := .ref 100 } }
noncomputable def zc_108 (P : Params) : Obj := { cls := .type "tuple", data := .seq #[] }
noncomputable def zc_109 (P : Params) : Obj := { cls := .none, data := .fields #[] }
noncomputable def zc_110 (P : Params) : Obj := { cls := .type "tuple", data := .seq #[(sv "self" 333)] }
noncomputable def zc_111 (P : Params) : Obj := { cls := .type "tuple", data := .seq #[] }
noncomputable def zc_112 (P : Params) : Obj := { cls := .none, data := .func { hdFd (hdMt 4 8) "Mismatch.__repr__" with globals := 0, closure := [], defaults := .none, kwdefaults := .none } }
noncomputable def zc_113 (P : Params) : Obj := { cls := .type "code", data := .fields #[(sv "__repr__" 330), (sv "Mismatch.__repr__" 331), (sv "/claim/cut.py" 332), .int 66 0, .int 1 0, .int 0 0, .int 0 0, .int 3 0, .ref 108, .bool true, .int 181 0, .ref 109, .none, .ref 110, .ref 111, .ref 112, .int 334 0, .int 66 0, (sv "/claim/cut.py" 335)] }
noncomputable def zc_114 (P : Params) : Obj := { cls := .type "function", data := .func { hdFd (hdMt 4 8) "Mismatch.__repr__" with globals := 3, closure := [], defaults := .none, kwdefaults := .none, doc := dc (hdMt 4 8) 336, pyModule := (sv "cpy313.unittest.util" 194), code := .ref 113 } }
noncomputable def zc_115 (P : Params) : Obj := { cls := .type "tuple", data := .seq #[] }
noncomputable def zc_116 (P : Params) : Obj := { cls := .none, data := .fields #[] }
noncomputable def zc_117 (P : Params) : Obj := { cls := .type "tuple", data := .seq #[(sv "self" 341)] }
noncomputable def zc_118 (P : Params) : Obj := { cls := .type "tuple", data := .seq #[] }
noncomputable def zc_119 (P : Params) : Obj := { cls := .none, data := .func { hdFd (hdMt 4 9) "Mismatch._asdict" with globals := 0, closure := [], defaults := .none, kwdefaults := .none } }
noncomputable def zc_120 (P : Params) : Obj := { cls := .type "code", data := .fields #[(sv "_asdict" 338), (sv "Mismatch._asdict" 339), (sv "/claim/cut.py" 340), .int 70 0, .int 1 0, .int 0 0, .int 0 0, .int 3 0, .ref 115, .bool true, .int 181 0, .ref 116, .none, .ref 117, .ref 118, .ref 119, .int 342 0, .int 70 0, (sv "/claim/cut.py" 343)] }
noncomputable def zc_121 (P : Params) : Obj := { cls := .type "function", data := .func { hdFd (hdMt 4 9) "Mismatch._asdict" with globals := 3, closure := [], defaults := .none, kwdefaults := .none, pyModule := (sv "cpy313.unittest.util" 194), code := .ref 120 } }
noncomputable def zc_122 (P : Params) : Obj := { cls := .type "tuple", data := .seq #[] }
noncomputable def zc_123 (P : Params) : Obj := { cls := .none, data := .fields #[] }
noncomputable def zc_124 (P : Params) : Obj := { cls := .type "tuple", data := .seq #[(sv "self" 348)] }
noncomputable def zc_125 (P : Params) : Obj := { cls := .type "tuple", data := .seq #[] }
noncomputable def zc_126 (P : Params) : Obj := { cls := .none, data := .func { hdFd (hdMt 4 10) "Mismatch.__getnewargs__" with globals := 0, closure := [], defaults := .none, kwdefaults := .none } }
noncomputable def zc_127 (P : Params) : Obj := { cls := .type "code", data := .fields #[(sv "__getnewargs__" 345), (sv "Mismatch.__getnewargs__" 346), (sv "/claim/cut.py" 347), .int 73 0, .int 1 0, .int 0 0, .int 0 0, .int 3 0, .ref 122, .bool true, .int 181 0, .ref 123, .none, .ref 124, .ref 125, .ref 126, .int 349 0, .int 73 0, (sv "/claim/cut.py" 350)] }
noncomputable def zc_128 (P : Params) : Obj := { cls := .type "function", data := .func { hdFd (hdMt 4 10) "Mismatch.__getnewargs__" with globals := 3, closure := [], defaults := .none, kwdefaults := .none, doc := dc (hdMt 4 10) 351, pyModule := (sv "cpy313.unittest.util" 194), code := .ref 127 } }
noncomputable def zc_129 (P : Params) : Obj := { cls := .type "tuple", data := .seq #[(sv "actual" 353), (sv "expected" 354), (sv "value" 355)] }
noncomputable def zc_130 (P : Params) : Obj := { cls := .type "dict", data := .dict #[en P "index" 363 (.int 0 357), en P "__doc__" 365 ((sv "Alias for field number 0" 358))] 2 }
noncomputable def zc_131 (P : Params) : Obj := { cls := .ref 60, dict := some 130 }
noncomputable def zc_132 (P : Params) : Obj := { cls := .type "frame", data := .dict #[en P "self" 359 (.ref 131), en P "index" 360 (.int 0 357), en P "doc" 361 ((sv "Alias for field number 0" 358))] 3 }
noncomputable def zc_133 (P : Params) : Obj := { cls := .type "dict", data := .dict #[en P "index" 373 (.int 1 367), en P "__doc__" 375 ((sv "Alias for field number 1" 368))] 2 }
noncomputable def zc_134 (P : Params) : Obj := { cls := .ref 60, dict := some 133 }
noncomputable def zc_135 (P : Params) : Obj := { cls := .type "frame", data := .dict #[en P "self" 369 (.ref 134), en P "index" 370 (.int 1 367), en P "doc" 371 ((sv "Alias for field number 1" 368))] 3 }
noncomputable def zc_136 (P : Params) : Obj := { cls := .type "dict", data := .dict #[en P "index" 383 (.int 2 377), en P "__doc__" 385 ((sv "Alias for field number 2" 378))] 2 }
noncomputable def zc_137 (P : Params) : Obj := { cls := .ref 60, dict := some 136 }
noncomputable def zc_138 (P : Params) : Obj := { cls := .type "frame", data := .dict #[en P "self" 379 (.ref 137), en P "index" 380 (.int 2 377), en P "doc" 381 ((sv "Alias for field number 2" 378))] 3 }
noncomputable def zc_139 (P : Params) : Obj := { cls := .type "tuple", data := .seq #[] }
noncomputable def zc_140 (P : Params) : Obj := { cls := .type "list", data := .seq #[] }
noncomputable def zc_141 (P : Params) : Obj := { cls := .type "dict", data := .dict #[en P "__module__" 271 ((sv "cpy313.unittest.util" 194)), en P "__firstlineno__" 275 (.int 37 274), { hash := PyData.keyHash P (Str.ofString "__doc__"), key := (sv "__doc__" 277), val := (sv "Mismatch(actual, expected, value)" 276) }, en P "__slots__" 279 (.ref 80), en P "_fields" 283 (.ref 81), en P "_field_defaults" 284 (.ref 82), en P "__new__" 295 (.ref 143), en P "_make" 317 (.ref 98), en P "_replace" 328 (.ref 107), en P "__replace__" 329 (.ref 107), en P "__repr__" 337 (.ref 114), en P "_asdict" 344 (.ref 121), en P "__getnewargs__" 352 (.ref 128), en P "__match_args__" 356 (.ref 129), en P "actual" 366 (.ref 131), en P "expected" 376 (.ref 134), en P "value" 386 (.ref 137), en P "__static_attributes__" 387 (.ref 139)] 2 }
noncomputable def zc_142 (P : Params) : Obj := { cls := .type "type", data := .cls { name := Str.ofString "Mismatch", bases := [.type "tuple"], mro := [.ref 142, .type "tuple", .type "object"], ns := 141, qualname := Str.ofString "Mismatch", hasDict := false }, slots := #[some (.ref 72), none, some ((sv "Mismatch" 264)), some ((sv "Mismatch" 272)), some .none, some (.bool false)] }
noncomputable def zc_143 (P : Params) : Obj := { cls := .type "staticmethod", data := .fields #[.ref 89] }
noncomputable def zc_144 (P : Params) : Obj := { cls := .type "super", data := .fields #[.ref 142, .ref 142, .ref 142] }
noncomputable def zc_145 (P : Params) : Obj := { cls := .type "builtin_function_or_method", data := .fields #[.builtin "object.__init_subclass__", .ref 142] }
noncomputable def hdO1 (P : Params) (l : List Obj) : List Obj :=
  zb_15 P :: zb_16 P :: zb_17 P :: zb_18 P :: zb_19 P :: zb_20 P :: zb_21 P :: zb_22 P :: zb_23 P :: zb_24 P :: zb_25 P :: zb_26 P ::
  zb_27 P :: zb_28 P :: zb_29 P :: zb_30 P :: zb_31 P :: zb_32 P :: zb_33 P :: zb_34 P :: zb_35 P :: zb_36 P :: zb_37 P :: zb_38 P ::
  zb_39 P :: zb_40 P :: zb_41 P :: zb_42 P :: zb_43 P :: zb_44 P :: zb_45 P :: zb_46 P :: zb_47 P :: zb_48 P :: zb_49 P :: zb_50 P ::
  zb_51 P :: zb_52 P :: zb_53 P :: zb_54 P :: zb_55 P :: zb_56 P :: zb_57 P :: zb_58 P :: zb_59 P :: zb_60 P :: zb_61 P :: zb_62 P ::
  zb_63 P :: zb_64 P :: zb_65 P :: zb_66 P :: zb_67 P :: zb_68 P :: zb_69 P :: zb_70 P :: zb_71 P :: l
noncomputable def hdO2 (P : Params) : List Obj :=
  zc_72 P :: zc_73 P :: zc_74 P :: zc_75 P :: zc_76 P :: zc_77 P :: zc_78 P :: zc_79 P :: zc_80 P :: zc_81 P :: zc_82 P :: zc_83 P ::
  zc_84 P :: zc_85 P :: zc_86 P :: zc_87 P :: zc_88 P :: zc_89 P :: zc_90 P :: zc_91 P :: zc_92 P :: zc_93 P :: zc_94 P :: zc_95 P ::
  zc_96 P :: zc_97 P :: zc_98 P :: zc_99 P :: zc_100 P :: zc_101 P :: zc_102 P :: zc_103 P :: zc_104 P :: zc_105 P :: zc_106 P :: zc_107 P ::
  zc_108 P :: zc_109 P :: zc_110 P :: zc_111 P :: zc_112 P :: zc_113 P :: zc_114 P :: zc_115 P :: zc_116 P :: zc_117 P :: zc_118 P :: zc_119 P ::
  zc_120 P :: zc_121 P :: zc_122 P :: zc_123 P :: zc_124 P :: zc_125 P :: zc_126 P :: zc_127 P :: zc_128 P :: zc_129 P :: zc_130 P :: zc_131 P ::
  zc_132 P :: zc_133 P :: zc_134 P :: zc_135 P :: zc_136 P :: zc_137 P :: zc_138 P :: zc_139 P :: zc_140 P :: zc_141 P :: zc_142 P :: zc_143 P ::
  zc_144 P :: zc_145 P :: []
noncomputable def hdHA (P : Params) : Heap := ⟨⟨boot_o_0 P :: boot_o_1 P :: boot_o_2 P :: boot_o_3 P :: boot_o_4 P :: boot_o_5 P :: boot_o_6 P :: boot_o_7 P :: boot_o_8 P :: boot_o_9 P :: boot_o_10 P :: za_11 P :: za_12 P :: za_13 P :: za_14 P :: []⟩, {}⟩
noncomputable def hdH3 (P : Params) : Heap := ⟨⟨boot_o_0 P :: boot_o_1 P :: boot_o_2 P :: zb_3 P :: boot_o_4 P :: boot_o_5 P :: boot_o_6 P :: boot_o_7 P :: boot_o_8 P :: boot_o_9 P :: boot_o_10 P :: za_11 P :: zb_12 P :: za_13 P :: za_14 P :: hdO1 P []⟩, {}⟩
noncomputable def hdH4 (P : Params) : Heap := ⟨⟨boot_o_0 P :: boot_o_1 P :: boot_o_2 P :: zc_3 P :: boot_o_4 P :: boot_o_5 P :: boot_o_6 P :: boot_o_7 P :: boot_o_8 P :: boot_o_9 P :: boot_o_10 P :: za_11 P :: zc_12 P :: za_13 P :: za_14 P :: hdO1 P (hdO2 P)⟩, {}⟩
def hdQ (o : Obj) : BT := .node o .nil .nil
noncomputable def hdT3 (P : Params) : BT := .node (boot_o_0 P) (.node (boot_o_1 P) (.node (zb_3 P) (.node (boot_o_7 P) (.node (zb_15 P) (.node (zb_31 P) (hdQ (zb_63 P)) (BT.nil)) (hdQ (zb_47 P))) (.node (zb_23 P) (.node (zb_39 P) (hdQ (zb_71 P)) (BT.nil)) (hdQ (zb_55 P)))) (.node (za_11 P) (.node (zb_19 P) (.node (zb_35 P) (hdQ (zb_67 P)) (BT.nil)) (hdQ (zb_51 P))) (.node (zb_27 P) (hdQ (zb_43 P)) (hdQ (zb_59 P))))) (.node (boot_o_5 P) (.node (boot_o_9 P) (.node (zb_17 P) (.node (zb_33 P) (hdQ (zb_65 P)) (BT.nil)) (hdQ (zb_49 P))) (.node (zb_25 P) (hdQ (zb_41 P)) (hdQ (zb_57 P)))) (.node (za_13 P) (.node (zb_21 P) (.node (zb_37 P) (hdQ (zb_69 P)) (BT.nil)) (hdQ (zb_53 P))) (.node (zb_29 P) (hdQ (zb_45 P)) (hdQ (zb_61 P)))))) (.node (boot_o_2 P) (.node (boot_o_4 P) (.node (boot_o_8 P) (.node (zb_16 P) (.node (zb_32 P) (hdQ (zb_64 P)) (BT.nil)) (hdQ (zb_48 P))) (.node (zb_24 P) (hdQ (zb_40 P)) (hdQ (zb_56 P)))) (.node (zb_12 P) (.node (zb_20 P) (.node (zb_36 P) (hdQ (zb_68 P)) (BT.nil)) (hdQ (zb_52 P))) (.node (zb_28 P) (hdQ (zb_44 P)) (hdQ (zb_60 P))))) (.node (boot_o_6 P) (.node (boot_o_10 P) (.node (zb_18 P) (.node (zb_34 P) (hdQ (zb_66 P)) (BT.nil)) (hdQ (zb_50 P))) (.node (zb_26 P) (hdQ (zb_42 P)) (hdQ (zb_58 P)))) (.node (za_14 P) (.node (zb_22 P) (.node (zb_38 P) (hdQ (zb_70 P)) (BT.nil)) (hdQ (zb_54 P))) (.node (zb_30 P) (hdQ (zb_46 P)) (hdQ (zb_62 P))))))
noncomputable def hdT4 (P : Params) : BT := .node (boot_o_0 P) (.node (boot_o_1 P) (.node (zc_3 P) (.node (boot_o_7 P) (.node (zb_15 P) (.node (zb_31 P) (.node (zb_63 P) (hdQ (zc_127 P)) (BT.nil)) (hdQ (zc_95 P))) (.node (zb_47 P) (.node (zc_79 P) (hdQ (zc_143 P)) (BT.nil)) (hdQ (zc_111 P)))) (.node (zb_23 P) (.node (zb_39 P) (.node (zb_71 P) (hdQ (zc_135 P)) (BT.nil)) (hdQ (zc_103 P))) (.node (zb_55 P) (hdQ (zc_87 P)) (hdQ (zc_119 P))))) (.node (za_11 P) (.node (zb_19 P) (.node (zb_35 P) (.node (zb_67 P) (hdQ (zc_131 P)) (BT.nil)) (hdQ (zc_99 P))) (.node (zb_51 P) (hdQ (zc_83 P)) (hdQ (zc_115 P)))) (.node (zb_27 P) (.node (zb_43 P) (.node (zc_75 P) (hdQ (zc_139 P)) (BT.nil)) (hdQ (zc_107 P))) (.node (zb_59 P) (hdQ (zc_91 P)) (hdQ (zc_123 P)))))) (.node (boot_o_5 P) (.node (boot_o_9 P) (.node (zb_17 P) (.node (zb_33 P) (.node (zb_65 P) (hdQ (zc_129 P)) (BT.nil)) (hdQ (zc_97 P))) (.node (zb_49 P) (.node (zc_81 P) (hdQ (zc_145 P)) (BT.nil)) (hdQ (zc_113 P)))) (.node (zb_25 P) (.node (zb_41 P) (.node (zc_73 P) (hdQ (zc_137 P)) (BT.nil)) (hdQ (zc_105 P))) (.node (zb_57 P) (hdQ (zc_89 P)) (hdQ (zc_121 P))))) (.node (za_13 P) (.node (zb_21 P) (.node (zb_37 P) (.node (zb_69 P) (hdQ (zc_133 P)) (BT.nil)) (hdQ (zc_101 P))) (.node (zb_53 P) (hdQ (zc_85 P)) (hdQ (zc_117 P)))) (.node (zb_29 P) (.node (zb_45 P) (.node (zc_77 P) (hdQ (zc_141 P)) (BT.nil)) (hdQ (zc_109 P))) (.node (zb_61 P) (hdQ (zc_93 P)) (hdQ (zc_125 P))))))) (.node (boot_o_2 P) (.node (boot_o_4 P) (.node (boot_o_8 P) (.node (zb_16 P) (.node (zb_32 P) (.node (zb_64 P) (hdQ (zc_128 P)) (BT.nil)) (hdQ (zc_96 P))) (.node (zb_48 P) (.node (zc_80 P) (hdQ (zc_144 P)) (BT.nil)) (hdQ (zc_112 P)))) (.node (zb_24 P) (.node (zb_40 P) (.node (zc_72 P) (hdQ (zc_136 P)) (BT.nil)) (hdQ (zc_104 P))) (.node (zb_56 P) (hdQ (zc_88 P)) (hdQ (zc_120 P))))) (.node (zc_12 P) (.node (zb_20 P) (.node (zb_36 P) (.node (zb_68 P) (hdQ (zc_132 P)) (BT.nil)) (hdQ (zc_100 P))) (.node (zb_52 P) (hdQ (zc_84 P)) (hdQ (zc_116 P)))) (.node (zb_28 P) (.node (zb_44 P) (.node (zc_76 P) (hdQ (zc_140 P)) (BT.nil)) (hdQ (zc_108 P))) (.node (zb_60 P) (hdQ (zc_92 P)) (hdQ (zc_124 P)))))) (.node (boot_o_6 P) (.node (boot_o_10 P) (.node (zb_18 P) (.node (zb_34 P) (.node (zb_66 P) (hdQ (zc_130 P)) (BT.nil)) (hdQ (zc_98 P))) (.node (zb_50 P) (hdQ (zc_82 P)) (hdQ (zc_114 P)))) (.node (zb_26 P) (.node (zb_42 P) (.node (zc_74 P) (hdQ (zc_138 P)) (BT.nil)) (hdQ (zc_106 P))) (.node (zb_58 P) (hdQ (zc_90 P)) (hdQ (zc_122 P))))) (.node (za_14 P) (.node (zb_22 P) (.node (zb_38 P) (.node (zb_70 P) (hdQ (zc_134 P)) (BT.nil)) (hdQ (zc_102 P))) (.node (zb_54 P) (hdQ (zc_86 P)) (hdQ (zc_118 P)))) (.node (zb_30 P) (.node (zb_46 P) (.node (zc_78 P) (hdQ (zc_142 P)) (BT.nil)) (hdQ (zc_110 P))) (.node (zb_62 P) (hdQ (zc_94 P)) (hdQ (zc_126 P)))))))
theorem hdT3_heap (P : Params) : absHeap (hdT3 P) 72 {} = hdH3 P := by kernel_rfl
theorem hdT4_heap (P : Params) : absHeap (hdT4 P) 146 {} = hdH4 P := by kernel_rfl
noncomputable def hdEnv : Env := { scope := PySem.Challenge.pw_ox0185_01.main.scope, locals := mainNs, globals := mainNs, cells := [], code := .ref 13, frame := some 14 }
noncomputable def hdR1 : List Stmt := dAt 0 :: dAt 1 :: dAt 2 :: dAt 3 :: []
noncomputable def hdR2 : List Stmt := dAt 4 :: []
noncomputable def hdR3 : List Stmt := (behindTheImports PySem.Challenge.pw_ox0185_01).drop 5
noncomputable def hdRB : List Stmt := hdR1 ++ (hdR2 ++ hdR3)
noncomputable def hdRC : Code := .body hdRB hdEnv
abbrev hdRQ : Pos := ⟨0, 0, 0, 0⟩
noncomputable abbrev hdAnn (w : World) : Option Value := (boot_heap w.params).nsMap mainGlobals "__annotations__"
noncomputable abbrev hdSize (w : World) : Nat := (boot_heap w.params).objs.size
theorem hdRun0 (w : World) (os : OsState) : topGo treeTable PySem.Challenge.pw_ox0185_01 w (hdSize w) (hdAnn w) 12 ⟨boot_heap w.params, #[], boot_drawn, boot_toks, os⟩ (topStub PySem.Challenge.pw_ox0185_01) =
    some (⟨hdHA w.params, #[], boot_drawn, 187, os⟩, ⟨denote treeTable hdRC, hdRC, hdRQ, [topFrame hdRQ]⟩) := by kernel_rfl
theorem hdRun1 (w : World) (os : OsState) : segRun treeTable PySem.Challenge.pw_ox0185_01 w (hdSize w) (hdAnn w) 1 1 ⟨hdHA w.params, #[], boot_drawn, 187, os⟩ (blockOf hdRB hdEnv hdRC hdRQ [topFrame hdRQ]) =
    some (.next, ⟨hdHA w.params, #[], boot_drawn, 187, os⟩, hdRC, hdRQ) := by kernel_rfl
theorem hdRun2 (w : World) (os : OsState) : segRun treeTable PySem.Challenge.pw_ox0185_01 w (hdSize w) (hdAnn w) 1 395 ⟨hdHA w.params, #[], boot_drawn, 187, os⟩ (piecesOf hdR1 hdEnv hdRC hdRQ [topFrame hdRQ]) =
    some (.next, ⟨hdH3 w.params, #[], boot_drawn, 264, os⟩, hdRC, ⟨23, 0, 36, 28⟩) := by kernel_rfl
theorem hdRun3T (w : World) (os : OsState) : segRunT treeTable PySem.Challenge.pw_ox0185_01 w (hdSize w) (hdAnn w) 1 1047 ⟨hdT3 w.params, 72, {}, #[], boot_drawn, 264, os⟩ (piecesOf hdR2 hdEnv hdRC ⟨23, 0, 36, 28⟩ [topFrame hdRQ]) =
    some (.next, ⟨hdT4 w.params, 146, {}, #[], boot_drawn, 392, os⟩, hdRC, ⟨37, 0, 79, 55⟩) := by kernel_rfl
theorem hdRun3 (w : World) (os : OsState) : segRun treeTable PySem.Challenge.pw_ox0185_01 w (hdSize w) (hdAnn w) 1 1047 ⟨hdH3 w.params, #[], boot_drawn, 264, os⟩ (piecesOf hdR2 hdEnv hdRC ⟨23, 0, 36, 28⟩ [topFrame hdRQ]) =
    some (.next, ⟨hdH4 w.params, #[], boot_drawn, 392, os⟩, hdRC, ⟨37, 0, 79, 55⟩) := by
  have a := segRun_of (hdRun3T w os)
  unfold SharedT.abs at a
  dsimp only at a
  rw [hdT3_heap, hdT4_heap] at a
  exact a
theorem hdRunAll {β : Type} {G : Shared → β} {R : World → β} (h : ∀ (w : World) (os : OsState), ((topRun treeTable PySem.Challenge.pw_ox0185_01 w (hdSize w) (hdAnn w) 2453 ⟨hdH4 w.params, #[], boot_drawn, 392, os⟩ (restOf hdR3 hdEnv hdRC ⟨37, 0, 79, 55⟩ [topFrame hdRQ])).bind fun s₁ =>
      match staticsOk (importedModules PySem.Challenge.pw_ox0185_01.main.body) (boot_heap w.params) s₁.heap && namesBound PySem.Challenge.pw_ox0185_01 s₁.heap && gensDone s₁ && laidKept (boot_heap w.params) s₁.heap with
      | true => some s₁
      | false => none).map G = some (R w)) (w : World) (os : OsState) :
    (topFrom treeTable PySem.Challenge.pw_ox0185_01 w 3908 ⟨boot_heap w.params, #[], boot_drawn, boot_toks, os⟩).map G = some (R w) := by
  have k := h w os
  cases e : topRun treeTable PySem.Challenge.pw_ox0185_01 w (hdSize w) (hdAnn w) 2453 ⟨hdH4 w.params, #[], boot_drawn, 392, os⟩ (restOf hdR3 hdEnv hdRC ⟨37, 0, 79, 55⟩ [topFrame hdRQ]) with
  | none => rw [e] at k; cases k
  | some r =>
    have a := go_top (hdRun0 w os) (piece_block (hdRun1 w os) (piece_app (hdRun2 w os) (piece_app (hdRun3 w os) e)))
    rw [e] at k
    have i : ((boot_heap w.params).isNs mainGlobals && (#[] : Array GenState).size == 0) = true := by kernel_rfl
    unfold topFrom
    dsimp only
    rw [i]
    dsimp only
    rw [show (3908 : Nat) = 12 + (1 + (395 + (1047 + 2453))) from rfl, a]
    exact k
theorem left_of_boot {p : Program} {N : Nat} {β : Type} {G : Shared → β} {R : World → β} (e : opening p = plainProg p.main.scope.names) (hN : Nat.ble 600 N = true) (f : ∀ s, fenceModules? p s = some s)
    (h : ∀ (w : World) (os : OsState), (topFrom treeTable p w N ⟨boot_heap w.params, #[], boot_drawn, boot_toks, os⟩).map G = some (R w)) : ∀ w, (openEnds treeTable p w N).map G = some (R w) := fun w => by
  obtain ⟨s, hs, hv⟩ := Option.map_eq_some_iff.mp (boot_open e hN f w)
  unfold openEnds
  rw [hs]
  obtain ⟨hp, g, d, t, os⟩ := s
  simp only [Prod.mk.injEq] at hv
  obtain ⟨rfl, rfl, rfl, rfl⟩ := hv
  exact h w os
local macro_rules | `(tactic| k_head) => `(tactic| (
  refine holds_open (q := Mine.QV) (loose := Mine.LV) (Xt := fun s => xlAt Mine.QV [] s && recOk (RowW.records (OpenRow.toRowW (OpenLaw.row PySem.Challenge.rw_ox0185_01))) s) (XP := XL Mine.QV []) (Yf := Hook.obs (kmHook Mine.KS Mine.KSas (fun _ => by kernel_rfl) [218])) (Ya := Hook.val (kmHook Mine.KS Mine.KSas (fun _ => by kernel_rfl) [218])) (YP := Hook.says (kmHook Mine.KS Mine.KSas (fun _ => by kernel_rfl) [218])) (N := 3908) ?hl (Hook.of (kmHook Mine.KS Mine.KSas (fun _ => by kernel_rfl) [218])) (Hook.keeps (kmHook Mine.KS Mine.KSas (fun _ => by kernel_rfl) [218])) (fun s e => xl_of s (Bool.and_eq_true_iff.mp e).1) XL.keeps (by rfl) (by rfl) (by rfl) (fun s e => recFacts_of (Bool.and_eq_true_iff.mp e).2) (by rfl) (by first | assumption | decide +kernel) (by decide +kernel) ⟨rfl, rfl, rfl, rfl, rfl, by decide +kernel⟩ ?hw ?hc
  (case hl => refine left_of_boot (by kernel_rfl) (by kernel_rfl) (fun _ => by kernel_rfl) (Mine.hdRunAll ?_); intro w os; kernel_rfl)))
open_top hd for PySem.Challenge.rw_ox0185_01
end Mine

open PySem.Calls
namespace Mine

noncomputable abbrev KK (w : World) : Frag := Mine.KS w.params

/-! ## heaps: a part of a heap, what is kept, what is laid aside -/

def frz (h : Heap) (p : Addr → Bool) : Heap := ⟨h.objs.mapIdx fun i o => if p i then o else ({ cls := .none, data := .freed } : Obj), h.life⟩
theorem frz_get (h : Heap) (p : Addr → Bool) (b : Addr) : (frz h p).get? b = if p b then h.get? b else none := by
  unfold frz Heap.get?
  simp only [Array.getElem?_mapIdx]
  cases hb : h.objs[b]? with
  | none => simp
  | some o =>
    by_cases hp : p b = true
    · simp [hp]
    · simp [hp]

theorem frz_stays (h : Heap) (p : Addr → Bool) : (frz h p).StaysIn h := fun b o e => by
  rw [frz_get] at e
  split at e
  · exact e
  · cases e

/-- I with the object at a laid to it -/
def add (I h : Heap) (a : Addr) : Heap := frz h fun b => b == a || (I.get? b).isSome
theorem add_new {I h : Heap} {a : Addr} : (add I h a).get? a = h.get? a := by rw [add, frz_get]; simp
theorem add_old {I h : Heap} {a b : Addr} {o : Obj} (st : I.StaysIn h) (e : I.get? b = some o) : (add I h a).get? b = some o := by
  rw [add, frz_get]; simp [e, st b o e]
theorem add_none {I h : Heap} {a b : Addr} (hb : b ≠ a) (e : I.get? b = none) : (add I h a).get? b = none := by
  rw [add, frz_get]; simp [e, hb]
theorem add_stays {I h : Heap} {a : Addr} : (add I h a).StaysIn h := frz_stays _ _
theorem add_up {I h : Heap} {a : Addr} (st : I.StaysIn h) : I.StaysIn (add I h a) := fun _ _ e => add_old st e

theorem stays_refl (h : Heap) : h.StaysIn h := fun _ _ e => e
theorem stays_trans {h₁ h₂ h₃ : Heap} (x : h₁.StaysIn h₂) (y : h₂.StaysIn h₃) : h₁.StaysIn h₃ := fun b o e => y b o (x b o e)

/-- all of h is in h', the frames fs up to their slots -/
def Kp (fs : List Addr) (h h' : Heap) : Prop := ∀ b o, h.get? b = some o → (b ∉ fs → h'.get? b = some o) ∧ ∃ sl, h'.get? b = some { o with slots := sl }
theorem Kp.refl (fs : List Addr) (h : Heap) : Kp fs h h := fun _ o e => ⟨fun _ => e, o.slots, e⟩
theorem Kp.trans {fs : List Addr} {h₁ h₂ h₃ : Heap} (x : Kp fs h₁ h₂) (y : Kp fs h₂ h₃) : Kp fs h₁ h₃ := fun b o e =>
  ⟨fun hb => (y b o ((x b o e).1 hb)).1 hb, let ⟨_, e'⟩ := (x b o e).2; let ⟨sl, e''⟩ := (y b _ e').2; ⟨sl, e''⟩⟩
theorem Kp.of {fs : List Addr} {h h' : Heap} (k : ∀ b o, h.get? b = some o → h'.get? b = some o) : Kp fs h h' := fun b o e => ⟨fun _ => k b o e, o.slots, k b o e⟩
theorem Kp.mono {fs fs' : List Addr} {h h' : Heap} (x : Kp fs h h') (hs : ∀ b ∈ fs, b ∈ fs') : Kp fs' h h' := fun b o e => ⟨fun hb => (x b o e).1 fun q => hb (hs b q), (x b o e).2⟩
theorem Kp.exact {h h' : Heap} (x : Kp [] h h') : ∀ b o, h.get? b = some o → h'.get? b = some o := fun b o e => (x b o e).1 List.not_mem_nil
theorem Kp.there {fs : List Addr} {h h' : Heap} {b : Addr} {o : Obj} (x : Kp fs h h') (e : h.get? b = some o) : ∃ o', h'.get? b = some o' := let ⟨_, e'⟩ := (x b o e).2; ⟨_, e'⟩
theorem Kp.ns {fs : List Addr} {h h' : Heap} {a : Addr} {m : Str → Option Value} (x : Kp fs h h') (n : h.Ns a m) : h'.Ns a m := by
  obtain ⟨o, es, ep, ho, hd, r⟩ := n
  obtain ⟨sl, e⟩ := (x a o ho).2
  exact ⟨_, es, ep, e, hd, r⟩
theorem Kp.cell {fs : List Addr} {h h' : Heap} {a : Addr} {v : Option Value} (x : Kp fs h h') (n : h.IsCell a v) : h'.IsCell a v := by
  obtain ⟨o, ho, hd⟩ := n
  obtain ⟨sl, e⟩ := (x a o ho).2
  exact ⟨_, e, hd⟩

/-- I' is I and some things that are not in h -/
def Ext (h I I' : Heap) : Prop := I.StaysIn I' ∧ ∀ b o, h.get? b = some o → I.get? b = none → I'.get? b = none
theorem Ext.refl (h I : Heap) : Ext h I I := ⟨stays_refl _, fun _ _ _ e => e⟩
theorem Ext.trans {fs : List Addr} {h h' I I' I'' : Heap} (x : Ext h I I') (k : Kp fs h h') (y : Ext h' I' I'') : Ext h I I'' :=
  ⟨stays_trans x.1 y.1, fun b o e n => let ⟨o', e'⟩ := k.there e; y.2 b o' e' (x.2 b o e n)⟩
theorem Ext.add {h I h' : Heap} {a : Addr} (st : I.StaysIn h') (hn : h.get? a = none) : Ext h I (add I h' a) :=
  ⟨add_up st, fun b o e n => add_none (fun q => by rw [q, hn] at e; cases e) n⟩

structure Done (fs : List Addr) (h I h' I' : Heap) : Prop where
  keep : Kp fs h h'
  ext : Ext h I I'
  stays : I'.StaysIn h'
theorem Done.mono {fs fs' : List Addr} {h I h' I' : Heap} (x : Done fs h I h' I') (hs : ∀ b ∈ fs, b ∈ fs') : Done fs' h I h' I' := ⟨x.keep.mono hs, x.ext, x.stays⟩
theorem Done.trans {fs : List Addr} {h I h' I' h'' I'' : Heap} (x : Done fs h I h' I') (y : Done fs h' I' h'' I'') : Done fs h I h'' I'' := ⟨x.keep.trans y.keep, x.ext.trans x.keep y.ext, y.stays⟩
theorem Done.refl {fs : List Addr} {h I : Heap} (st : I.StaysIn h) : Done fs h I h I := ⟨Kp.refl _ _, Ext.refl _ _, st⟩

/-! ## the world -/
structure Wd (w : World) (I : Heap) : Prop where
  X : (KK w).In I
  b : ∃ mb, I.Ns builtinsNs mb ∧ ∀ x : Str, x ≠ "__name__" → mb x = bootBuiltins x
theorem Wd.keeps {w : World} {I I' : Heap} (W : Wd w I) (k : I.StaysIn I') : Wd w I' := ⟨W.X.keeps k, let ⟨mb, x, y⟩ := W.b; ⟨mb, x.keeps k, y⟩⟩
theorem Wd.nolimit {w : World} {I : Heap} (W : Wd w I) : I.NoLimit :=
  ⟨fun _ => none, ⟨_, #[], 0, W.X 2 _ rfl, rfl, fun _ he => by simp at he, fun _ => rfl⟩, rfl⟩

section
variable {M : Model} {A : Around} {E : Value → Shared → Prop} {s : Shared} {env : Env} {w : World} {I : Heap}
theorem Wd.glob {x : Str} {pos : Pos} {v : Value} {Q : Value → Shared → Prop} (W : Wd w I) (st : I.StaysIn s.heap) (hg : env.globals = mainGlobals) (hkd : env.scope.kind = .function)
    (hv : nsIn (KK w) mainGlobals x = some (some v)) (h : Q v s)
    (hk : env.kindOf x = some .globalImplicit := by rfl) (hd : (x == ("__debug__" : Str)) = false := by decide) : wpAny M A (eval (.Name x pos) env) Q E s := by
  refine Name_function_global hkd hk ?_ hd
  unfold loadGlobal
  rw [hg]
  refine wpAny_bind ((looks_nsIn (W.X.keeps st) hv).here ?_)
  exact wpAny_pure h
theorem Wd.built {x : Str} {pos : Pos} {v : Value} {Q : Value → Shared → Prop} (W : Wd w I) (st : I.StaysIn s.heap) (hg : env.globals = mainGlobals) (hbl : env.builtins = builtinsNs) (hkd : env.scope.kind = .function)
    (hm : nsIn (KK w) mainGlobals x = some none) (hv : bootBuiltins x = some v) (h : Q v s)
    (hk : env.kindOf x = some .globalImplicit := by rfl) (hd : (x == ("__debug__" : Str)) = false := by decide) (hn : x ≠ "__name__" := by decide) : wpAny M A (eval (.Name x pos) env) Q E s := by
  refine Name_function_global hkd hk ?_ hd
  unfold loadGlobal
  rw [hg]
  refine wpAny_bind ((looks_nsIn (W.X.keeps st) hm).here ?_)
  obtain ⟨mb, hb, hbb⟩ := W.b
  rw [hbl]
  refine wpAny_bind (wpAny_nsGet (hb.keeps st) ?_)
  rw [hbb x hn, hv]
  exact wpAny_pure h
end
end Mine

namespace Mine

/-! ## a frame (of a def, or of a comprehension) -/
structure Fm (w : World) (fs : List Addr) (h₀ I₀ I : Heap) (env : Env) (h : Heap) (m : Str → Option Value) (ms : List (Addr × Obj)) : Prop where
  kind : env.scope.kind = .function
  glob : env.globals = mainGlobals
  blt : env.builtins = builtinsNs
  wd : Wd w I
  stays : I.StaysIn h
  keep : Kp fs h₀ h
  ext : Ext h₀ I₀ I
  fsIn : ∀ f ∈ fs, ∃ o, h₀.get? f = some o
  ns : ∃ m', h.Ns env.locals m' ∧ ∀ n v, env.kindOf n = some .local → m n = some v → m' n = some v
  cells : ∀ n c, env.cells.lookup n = some c → h.IsCell c (m n)
  hidL : I.get? env.locals = none
  hidC : ∀ n c, env.cells.lookup n = some c → I.get? c = none
  newL : h₀.get? env.locals = none
  made : ∀ p ∈ ms, h.get? p.1 = some p.2 ∧ I.get? p.1 = none ∧ h₀.get? p.1 = none ∧ p.1 ≠ env.locals ∧ ∀ n c, env.cells.lookup n = some c → p.1 ≠ c

def CellsNew (h₀ : Heap) (env : Env) : Prop := (∀ n c, env.cells.lookup n = some c → h₀.get? c = none) ∧ (env.cells.Pairwise fun x y => x.2 ≠ y.2) ∧ ∀ p ∈ env.cells, env.kindOf p.1 ≠ some .local

def nameOk (env : Env) (x : Str) : Bool := match env.kindOf x with
  | some .local => true
  | some .cell => (env.cells.lookup x).isSome
  | _ => false

abbrev upd (m : Str → Option Value) (x : Str) (v : Value) : Str → Option Value := fun y => if y = x then some v else m y

section
variable {M : Model} {A : Around} {E : Value → Shared → Prop} {s : Shared} {env : Env} {w : World} {fs : List Addr} {h₀ I₀ I h h' I' : Heap} {m : Str → Option Value} {ms : List (Addr × Obj)}

theorem Fm.done (F : Fm w fs h₀ I₀ I env h m ms) : Done fs h₀ I₀ h I := ⟨F.keep, F.ext, F.stays⟩

theorem Fm.localsAt (F : Fm w fs h₀ I₀ I env h m ms) : ∃ o es n, h.get? env.locals = some o ∧ o.data = .dict es n := by
  obtain ⟨m', ⟨o, es, n, e, hd, _⟩, _⟩ := F.ns
  exact ⟨o, es, n, e, hd⟩

theorem Fm.name {x : Str} {pos : Pos} {v : Value} {Q : Value → Shared → Prop} (F : Fm w fs h₀ I₀ I env s.heap m ms) (hv : m x = some v) (h : Q v s)
    (hk : nameOk env x = true := by rfl) (hd : (x == ("__debug__" : Str)) = false := by decide) : wpAny M A (eval (.Name x pos) env) Q E s := by
  refine wpAny_Name ?_ hd
  unfold nameOk at hk
  split at hk
  · rename_i hl
    obtain ⟨m', hn, hm⟩ := F.ns
    exact wpAny_loadName_local F.kind hl hn (hm x v hl hv) h
  · rename_i hl
    obtain ⟨c, hc⟩ := Option.isSome_iff_exists.mp hk
    exact wpAny_loadName_cell F.kind hl hc (hv ▸ F.cells x c hc) h
  · cases hk

theorem Fm.glb {x : Str} {pos : Pos} {v : Value} {Q : Value → Shared → Prop} (F : Fm w fs h₀ I₀ I env s.heap m ms) (hv : nsIn (KK w) mainGlobals x = some (some v)) (h : Q v s)
    (hk : env.kindOf x = some .globalImplicit := by rfl) (hd : (x == ("__debug__" : Str)) = false := by decide) : wpAny M A (eval (.Name x pos) env) Q E s :=
  F.wd.glob F.stays F.glob F.kind hv h hk hd
theorem Fm.bui {x : Str} {pos : Pos} {v : Value} {Q : Value → Shared → Prop} (F : Fm w fs h₀ I₀ I env s.heap m ms) (hm : nsIn (KK w) mainGlobals x = some none) (hv : bootBuiltins x = some v) (h : Q v s)
    (hk : env.kindOf x = some .globalImplicit := by rfl) (hd : (x == ("__debug__" : Str)) = false := by decide) (hn : x ≠ "__name__" := by decide) : wpAny M A (eval (.Name x pos) env) Q E s :=
  F.wd.built F.stays F.glob F.blt F.kind hm hv h hk hd hn

/-- a step that keeps all but, perhaps, the slots of the frames -/
theorem Fm.after (F : Fm w fs h₀ I₀ I env h m ms) (D : Done (env.locals :: fs) h I h' I') : Fm w fs h₀ I₀ I' env h' m ms where
  kind := F.kind
  glob := F.glob
  blt := F.blt
  wd := F.wd.keeps D.ext.1
  stays := D.stays
  keep := fun b o e => by
    have hb : b ≠ env.locals := fun q => by rw [q, F.newL] at e; cases e
    refine ⟨fun hn => (D.keep b o ((F.keep b o e).1 hn)).1 (by simp [hb, hn]), ?_⟩
    obtain ⟨sl, e'⟩ := (F.keep b o e).2
    obtain ⟨sl', e''⟩ := (D.keep b _ e').2
    exact ⟨sl', e''⟩
  ext := F.ext.trans F.keep D.ext
  fsIn := F.fsIn
  ns := let ⟨m', hn, hm⟩ := F.ns; ⟨m', D.keep.ns hn, hm⟩
  cells := fun n c hc => D.keep.cell (F.cells n c hc)
  hidL := let ⟨o, _, _, e, _⟩ := F.localsAt; D.ext.2 _ o e F.hidL
  hidC := fun n c hc => let ⟨o, e, _⟩ := F.cells n c hc; D.ext.2 _ o e (F.hidC n c hc)
  newL := F.newL
  made := fun p hp => by
    obtain ⟨h1, h2, h3, h4, h5⟩ := F.made p hp
    refine ⟨(D.keep p.1 p.2 h1).1 ?_, D.ext.2 _ _ h1 h2, h3, h4, h5⟩
    intro q
    rcases List.mem_cons.mp q with q | q
    · exact h4 q
    · obtain ⟨o, e⟩ := F.fsIn _ q
      rw [h3] at e; cases e

theorem Fm.aft (F : Fm w fs h₀ I₀ I env h m ms) (D : Done [] h I h' I') : Fm w fs h₀ I₀ I' env h' m ms := F.after (D.mono fun _ q => nomatch q)

/-- a new object that is laid to I -/
theorem Fm.frozen {a : Addr} (F : Fm w fs h₀ I₀ I env h m ms) (hk : ∀ b o, h.get? b = some o → h'.get? b = some o) (hn : h.get? a = none) : Fm w fs h₀ I₀ (add I h' a) env h' m ms :=
  F.aft ⟨Kp.of hk, Ext.add (stays_trans F.stays hk) hn, add_stays⟩

theorem Fm.keeps (F : Fm w fs h₀ I₀ I env h m ms) (hk : ∀ b o, h.get? b = some o → h'.get? b = some o) : Fm w fs h₀ I₀ I env h' m ms :=
  F.aft ⟨Kp.of hk, Ext.refl _ _, stays_trans F.stays hk⟩

theorem none_in₀ (F : Fm w fs h₀ I₀ I env h m ms) {a : Addr} (e : h.get? a = none) : h₀.get? a = none := by
  cases q : h₀.get? a with
  | none => rfl
  | some o => obtain ⟨o', e'⟩ := F.keep.there q; rw [e] at e'; cases e'
theorem none_inI (F : Fm w fs h₀ I₀ I env h m ms) {a : Addr} (e : h.get? a = none) : I.get? a = none := by
  cases q : I.get? a with
  | none => rfl
  | some o => have := F.stays _ _ q; rw [e] at this; cases this

/-- a new object that may turn -/
theorem Fm.fresh {a : Addr} {o : Obj} (F : Fm w fs h₀ I₀ I env h m ms) (hk : ∀ b o, h.get? b = some o → h'.get? b = some o) (hn : h.get? a = none) (ho : h'.get? a = some o) : Fm w fs h₀ I₀ I env h' m ((a, o) :: ms) :=
  { F.keeps hk with
    made := fun p hp => (List.mem_cons.mp hp).elim (fun q => by subst q; exact ⟨ho, none_inI F hn, none_in₀ F hn, (fun q => by obtain ⟨o, _, _, e, _⟩ := F.localsAt; rw [← q, hn] at e; cases e), fun n c hc q => by obtain ⟨o, e, _⟩ := F.cells n c hc; rw [← q, hn] at e; cases e⟩) fun q => (F.keeps hk).made p q }

theorem Fm.drop {ms' : List (Addr × Obj)} (F : Fm w fs h₀ I₀ I env h m ms) (hs : ∀ p ∈ ms', p ∈ ms) : Fm w fs h₀ I₀ I env h m ms' := { F with made := fun p hp => F.made p (hs p hp) }

/-- one of the things that may turn has turned -/
theorem Fm.turn {a : Addr} {o o' : Obj} {ms' : List (Addr × Obj)} (F : Fm w fs h₀ I₀ I env h m ms) (ha : (a, o) ∈ ms) (hs : Heap.SameBut a h h') (ho : h'.get? a = some o')
    (hms : ∀ p ∈ ms', p = (a, o') ∨ (p ∈ ms ∧ p.1 ≠ a)) : Fm w fs h₀ I₀ I env h' m ms' where
  kind := F.kind
  glob := F.glob
  blt := F.blt
  wd := F.wd
  stays := fun b x e => (hs.2 b fun q => by rw [q, (F.made _ ha).2.1] at e; cases e).trans (F.stays b x e)
  keep := fun b x e => by
    have hb : b ≠ a := fun q => by rw [q, (F.made _ ha).2.2.1] at e; cases e
    refine ⟨fun hn => (hs.2 b hb).trans ((F.keep b x e).1 hn), ?_⟩
    obtain ⟨sl, e'⟩ := (F.keep b x e).2
    exact ⟨sl, (hs.2 b hb).trans e'⟩
  ext := F.ext
  fsIn := F.fsIn
  ns := by
    obtain ⟨m', hn, hm⟩ := F.ns
    exact ⟨m', hn.sameBut hs fun q => (F.made _ ha).2.2.2.1 q.symm, hm⟩
  cells := fun n c hcc => by
    exact (F.cells n c hcc).sameBut hs fun q => (F.made _ ha).2.2.2.2 n c hcc q.symm
  hidL := F.hidL
  hidC := F.hidC
  newL := F.newL
  made := fun p hp => by
    rcases hms p hp with rfl | ⟨hm, hne⟩
    · exact ⟨ho, (F.made _ ha).2⟩
    · obtain ⟨h1, r⟩ := F.made p hm
      exact ⟨(hs.2 _ hne).trans h1, r⟩

/-- a thing that may turn is laid to I -/
theorem Fm.freeze {a : Addr} {o : Obj} {ms' : List (Addr × Obj)} (F : Fm w fs h₀ I₀ I env h m ms) (ha : (a, o) ∈ ms) (hms : ∀ p ∈ ms', p ∈ ms ∧ p.1 ≠ a) : Fm w fs h₀ I₀ (add I h a) env h m ms' where
  kind := F.kind
  glob := F.glob
  blt := F.blt
  wd := F.wd.keeps (add_up F.stays)
  stays := add_stays
  keep := F.keep
  ext := ⟨stays_trans F.ext.1 (add_up F.stays), fun b x e n => add_none (fun q => by rw [q, (F.made _ ha).2.2.1] at e; cases e) (F.ext.2 b x e n)⟩
  fsIn := F.fsIn
  ns := F.ns
  cells := F.cells
  hidL := add_none (Ne.symm (F.made _ ha).2.2.2.1) F.hidL
  hidC := fun n c hc => add_none (Ne.symm ((F.made _ ha).2.2.2.2 n c hc)) (F.hidC n c hc)
  newL := F.newL
  made := fun p hp => by
    obtain ⟨h1, h2, r⟩ := F.made p (hms p hp).1
    exact ⟨h1, add_none (hms p hp).2 h2, r⟩

theorem Fm.putL {x : Str} {v : Value} {m' : Str → Option Value} (F : Fm w fs h₀ I₀ I env h m ms) (C : CellsNew h₀ env) (hl : env.kindOf x = some .local) (hm : ∀ n v, env.kindOf n = some .local → m n = some v → m' n = some v)
    (hn' : h'.Ns env.locals (fun y => if y = x then some v else m' y)) (hs' : Heap.SameBut env.locals h h') : Fm w fs h₀ I₀ I env h' (upd m x v) ms := by
  have ne : ∀ {b : Addr} {o : Obj}, h.get? b = some o → (∀ es n, o.data ≠ .dict es n) → b ≠ env.locals := fun e hd q => by
    obtain ⟨o, es, n, e', hd'⟩ := F.localsAt
    rw [q, e'] at e
    cases e
    exact hd _ _ hd'
  exact
    { kind := F.kind, glob := F.glob, blt := F.blt, wd := F.wd
      stays := fun b o e => (hs'.2 b fun q => by rw [q, F.hidL] at e; cases e).trans (F.stays b o e)
      keep := fun b o e => by
        have hb : b ≠ env.locals := fun q => by rw [q, F.newL] at e; cases e
        refine ⟨fun hn => (hs'.2 b hb).trans ((F.keep b o e).1 hn), ?_⟩
        obtain ⟨sl, e'⟩ := (F.keep b o e).2
        exact ⟨sl, (hs'.2 b hb).trans e'⟩
      ext := F.ext, fsIn := F.fsIn
      ns := ⟨_, hn', fun n u hkn hu => by
        by_cases hnx : n = x
        · simpa [upd, hnx] using hu
        · simp only [upd, if_neg hnx] at hu ⊢
          exact hm n u hkn hu⟩
      cells := fun n c hc => by
        have hnx : n ≠ x := fun q => by
          subst q
          exact C.2.2 _ (mem_of_lookup hc) hl
        simp only [upd, if_neg hnx]
        obtain ⟨o, e, hd⟩ := F.cells n c hc
        exact ⟨o, (hs'.2 c (ne e fun es n q => by rw [hd] at q; cases q)).trans e, hd⟩
      hidL := F.hidL, hidC := F.hidC, newL := F.newL
      made := fun p hp => by
        obtain ⟨h1, h2, h3, h4, h5⟩ := F.made p hp
        exact ⟨(hs'.2 _ h4).trans h1, h2, h3, h4, h5⟩ }

/-- a step that turns an object that is none of the frame's -/
theorem Fm.butC {c : Addr} {hb I₁ : Heap} {m₁ : Str → Option Value} (F : Fm w fs h₀ I₀ I env h m ms) (hs : Heap.SameBut c h h') (B : Fm w fs h₀ I₀ I₁ env hb m₁ ms) (hc : hb.get? c = none) (hI : I.get? c = none) : Fm w fs h₀ I₀ I env h' m ms where
  kind := F.kind
  glob := F.glob
  blt := F.blt
  wd := F.wd
  stays := fun b x e => (hs.2 b fun q => by rw [q, hI] at e; cases e).trans (F.stays b x e)
  keep := fun b x e => by
    have hb' : b ≠ c := fun q => by rw [q, none_in₀ B hc] at e; cases e
    refine ⟨fun hn => (hs.2 b hb').trans ((F.keep b x e).1 hn), ?_⟩
    obtain ⟨sl, e'⟩ := (F.keep b x e).2
    exact ⟨sl, (hs.2 b hb').trans e'⟩
  ext := F.ext
  fsIn := F.fsIn
  ns := by
    obtain ⟨m', hn, hm⟩ := F.ns
    refine ⟨m', hn.sameBut hs fun q => ?_, hm⟩
    obtain ⟨o, _, _, e, _⟩ := B.localsAt
    rw [q, hc] at e; cases e
  cells := fun n a hcc => by
    refine (F.cells n a hcc).sameBut hs fun q => ?_
    obtain ⟨x, e, hdx⟩ := B.cells n a hcc
    rw [q, hc] at e; cases e
  hidL := F.hidL
  hidC := F.hidC
  newL := F.newL
  made := fun p hp => by
    obtain ⟨h1, r⟩ := F.made p hp
    exact ⟨(hs.2 _ fun q => by have := (B.made p hp).1; rw [q, hc] at this; cases this).trans h1, r⟩

theorem Fm.store {x : Str} {v : Value} {Q : Unit → Shared → Prop} (F : Fm w fs h₀ I₀ I env s.heap m ms) (C : CellsNew h₀ env)
    (k : ∀ h' tk, Fm w fs h₀ I₀ I env h' (upd m x v) ms → Q () { s with heap := h', toks := tk })
    (hk : nameOk env x = true := by rfl) : wpAny M A (storeName env x v) Q E s := by
  unfold nameOk at hk
  split at hk
  · rename_i hl
    obtain ⟨m', hn, hm⟩ := F.ns
    exact wpAny_storeName_local hl hn (fun h' hn' hs' => k h' _ (F.putL C hl hm hn' hs')) (by rw [F.kind]; rfl)
  · rename_i hl
    obtain ⟨c, hc⟩ := Option.isSome_iff_exists.mp hk
    refine wpAny_storeName_cell F.kind hl hc (F.cells x c hc) fun h' hc' hs' => k h' s.toks ?_
    have ne : ∀ {b : Addr} {o : Obj}, s.heap.get? b = some o → (∀ v, o.data ≠ .cell v) → b ≠ c := fun e hd q => by
      obtain ⟨o, e', hd'⟩ := F.cells x c hc
      rw [q, e'] at e
      cases e
      exact hd _ hd'
    exact
      { kind := F.kind, glob := F.glob, blt := F.blt, wd := F.wd
        stays := fun b o e => (hs'.2 b fun q => by rw [q, F.hidC x c hc] at e; cases e).trans (F.stays b o e)
        keep := fun b o e => by
          have hb : b ≠ c := fun q => by rw [q, C.1 x c hc] at e; cases e
          refine ⟨fun hn => (hs'.2 b hb).trans ((F.keep b o e).1 hn), ?_⟩
          obtain ⟨sl, e'⟩ := (F.keep b o e).2
          exact ⟨sl, (hs'.2 b hb).trans e'⟩
        ext := F.ext, fsIn := F.fsIn
        ns := by
          obtain ⟨m', hn, hm⟩ := F.ns
          obtain ⟨o, es, ep, e, hd, r⟩ := hn
          refine ⟨m', ⟨o, es, ep, (hs'.2 _ (ne e fun v q => by rw [hd] at q; cases q)).trans e, hd, r⟩, fun n u hkn hu => ?_⟩
          have hnx : n ≠ x := fun q => by rw [q, hl] at hkn; cases hkn
          simp only [upd, if_neg hnx] at hu
          exact hm n u hkn hu
        cells := fun n c' hcn => by
          by_cases hnx : n = x
          · subst hnx
            rw [hc] at hcn; cases hcn
            simpa [upd] using hc'
          · simp only [upd, if_neg hnx]
            exact (F.cells n c' hcn).sameBut hs' fun q => hnx (name_of_addr C.2.1 (mem_of_lookup hcn) (q ▸ mem_of_lookup hc))
        hidL := F.hidL, hidC := F.hidC, newL := F.newL
        made := fun p hp => by
          obtain ⟨h1, h2, h3, h4, h5⟩ := F.made p hp
          exact ⟨(hs'.2 _ (h5 x c hc)).trans h1, h2, h3, h4, h5⟩ }
  · cases hk
end
end Mine

namespace Mine

structure Rm (A : Around) (d u : Nat) : Prop where
  handled : A.handled = none
  depth : A.depth + d < recursionLimit
  units : A.units + u < cLine
theorem Rm.deeper {A : Around} {d u : Nat} (r : Rm A (d + 1) (u + 3)) (env : Env) : Rm (A.deeper env) d u :=
  ⟨r.handled, by have := r.depth; show A.depth + 1 + d < _; omega, by have := r.units; show A.units + 3 + u < _; omega⟩
theorem Rm.mono {A : Around} {d u d' u' : Nat} (r : Rm A d u) (hd : d' ≤ d := by decide) (hu : u' ≤ u := by decide) : Rm A d' u' :=
  ⟨r.handled, by have := r.depth; omega, by have := r.units; omega⟩
theorem Rm.in1 {A : Around} {d u : Nat} (r : Rm A d (u + 1)) : Rm A.in1 d u := ⟨r.handled, r.depth, by have := r.units; show A.units + 1 + u < _; omega⟩
theorem Rm.ule {A : Around} {d u n : Nat} (r : Rm A d u) (h : n ≤ u := by decide) : A.units + n < cLine := Nat.lt_of_le_of_lt (Nat.add_le_add_left h _) r.units
theorem Rm.room {A : Around} {d u : Nat} (r : Rm A d u) : A.depth < recursionLimit := by have := r.depth; omega
theorem Rm.unit {A : Around} {d u : Nat} (r : Rm A d u) : A.units < cLine := by have := r.units; omega

theorem bindL_eq {kindOf : Str → Option NameKind} {n : Str} (hn : kindOf n = some .local) : ∀ (binds : List (Str × Value)) (m : Str → Option Value), bindL kindOf binds m n = (binds.reverse.lookup n).or (m n)
  | [], m => by simp [bindL]
  | (k, v) :: r, m => by
    rw [bindL, bindL_eq hn r, List.reverse_cons, List.lookup_append, Option.or_assoc]
    congr 1
    by_cases hk : n = k
    · subst hk; simp [hn]
    · have : (n == k) = false := by simpa using hk
      simp only [List.lookup_cons, this, List.lookup_nil, Option.none_or]
      split <;> simp [hk]
theorem bindC_eq {kindOf : Str → Option NameKind} {n : Str} (hn : kindOf n ≠ some .local) : ∀ (binds : List (Str × Value)) (m : Str → Option Value), bindC kindOf binds m n = (binds.reverse.lookup n).or (m n)
  | [], m => by simp [bindC]
  | (k, v) :: r, m => by
    rw [bindC, bindC_eq hn r, List.reverse_cons, List.lookup_append, Option.or_assoc]
    congr 1
    by_cases hk : n = k
    · subst hk; simp [hn]
    · have : (n == k) = false := by simpa using hk
      simp only [List.lookup_cons, this, List.lookup_nil, Option.none_or]
      split <;> simp [hk]

def kindsOk (names : List (Str × NameKind)) (binds : List (Str × Value)) : Bool :=
  binds.all fun x => names.lookup x.1 == some .local || (names.lookup x.1 == some .cell && ((cellsFrom 0 names []).lookup x.1).isSome)

theorem cellsFrom_names : ∀ (names : List (Str × NameKind)) (n n' : Nat) (acc acc' : List (Str × Addr)), acc.map (·.1) = acc'.map (·.1) → (cellsFrom n names acc).map (·.1) = (cellsFrom n' names acc').map (·.1)
  | [], _, _, _, _, h => h
  | (x, k) :: r, n, n', acc, acc', h => by
    unfold cellsFrom
    split
    · exact cellsFrom_names r _ _ _ _ (by simp [h])
    · exact cellsFrom_names r _ _ _ _ h
theorem lookup_isSome_names {α β : Type} : ∀ (l : List (Str × α)) (l' : List (Str × β)) (x : Str), l.map (·.1) = l'.map (·.1) → (l.lookup x).isSome = (l'.lookup x).isSome
  | [], [], _, _ => rfl
  | [], _ :: _, _, h => by simp at h
  | _ :: _, [], _, h => by simp at h
  | (a, _) :: l, (b, _) :: l', x, h => by
    simp only [List.map_cons, List.cons.injEq] at h
    obtain ⟨rfl, h⟩ := h
    simp only [List.lookup_cons]
    cases hx : x == a
    · exact lookup_isSome_names l l' x h
    · rfl

/-- no name of a cell is a local's too -/
def cellsApart (names : List (Str × NameKind)) : Bool := (cellsFrom 0 names []).all fun p => names.lookup p.1 != some .local

section
variable {prog : Program} {w : World} {A : Around} {s : Shared} {I : Heap}

theorem enter {R : Result → Shared → Prop} {f : Addr} {fd : FuncData} {body : List Stmt} {vals : List Value} {binds : List (Str × Value)} {oc : Value} {od : Option Addr} {osl : Array (Option Value)}
    (fs : List Addr) (W : Wd w I) (st : I.StaysIn s.heap) (hroom : A.depth < recursionLimit) (hfs : ∀ f ∈ fs, ∃ o, s.heap.get? f = some o)
    (ho : (KK w).lookup f = some ⟨oc, od, .func fd, osl⟩) (hbody : fd.body = .stmts body) (hbind : bindArgs fd ⟨vals, []⟩ = pure binds)
    (h : ∀ h₁ tk, Fm w fs s.heap I I (callEnvC fd s.heap.objs.size f) h₁ (fun x => binds.reverse.lookup x) [] → CellsNew s.heap (callEnvC fd s.heap.objs.size f) →
      wpAny (model prog w) (A.deeper (callEnvC fd s.heap.objs.size f)) (execs body (callEnvC fd s.heap.objs.size f)) (fun fl s' => R (.ok (.ret (match fl with | .ret v => v | _ => .none))) s')
        (fun _ _ => False) { s with heap := h₁, toks := tk })
    (hcd : codeIn (KK w) fd.code fd.qualname = true := by rfl) (hclo : fd.closure = [] := by rfl) (hkinds : kindsOk fd.scope.names binds = true := by rfl) (hap : cellsApart fd.scope.names = true := by rfl)
    (hg : fd.globals = mainGlobals := by rfl) (hbl : fd.builtins = builtinsNs := by rfl)
    (hco : fd.scope.isCoroutine = false := by rfl) (hgen : fd.scope.isGenerator = false := by rfl) (hk : fd.scope.kind = .function := by rfl) :
    codeAny (model prog w) A (.call (.ref f) ⟨vals, []⟩) R s := by
  have X := W.X.keeps st
  have nm : ∀ n, (cellsFrom n fd.scope.names []).map (·.1) = (cellsFrom 0 fd.scope.names []).map (·.1) := fun n => cellsFrom_names _ _ _ _ _ rfl
  have hap' : ∀ p ∈ cellsFrom (s.heap.objs.size + 1) fd.scope.names [], fd.scope.names.lookup p.1 ≠ some .local := fun p hp => by
    have : p.1 ∈ (cellsFrom 0 fd.scope.names []).map (·.1) := by rw [← nm (s.heap.objs.size + 1)]; exact List.mem_map_of_mem hp
    obtain ⟨q, hq, e⟩ := List.mem_map.mp this
    have := List.all_eq_true.mp hap q hq
    rw [e] at this
    simpa using this
  refine codeAny_call_cells hroom (X _ _ ho) rfl (W.nolimit.keeps st) (codeRec_of X hcd) hbody hbind hclo (fun x hx => ?_) (fun s₁ x => ?_) hco hgen hk
  · have := List.all_eq_true.mp hkinds x hx
    simp only [Bool.or_eq_true, Bool.and_eq_true, beq_iff_eq] at this
    refine this.imp id fun q => ⟨q.1, ?_⟩
    rw [lookup_isSome_names _ (cellsFrom 0 fd.scope.names []) x.1 (nm _)]
    exact q.2
  · obtain ⟨h₁, tk, rfl⟩ := x.toInCall.same
    refine wpAny_mono (h h₁ tk ?_ ?_) (fun _ _ q => q) fun _ _ q => q.elim
    · have fr : ∀ a, s.heap.objs.size ≤ a → s.heap.get? a = none := fun a ha => Heap.get?_none_of_le ha
      have frI : ∀ a, s.heap.objs.size ≤ a → I.get? a = none := fun a ha => by
        cases q : I.get? a with
        | none => rfl
        | some o => have := st _ _ q; rw [fr a ha] at this; cases this
      exact
        { kind := hk, glob := hg, blt := hbl, wd := W, stays := stays_trans st x.toInCall.keep, keep := Kp.of x.toInCall.keep, ext := Ext.refl _ _, fsIn := hfs
          ns := ⟨_, x.toInCall.ns, fun n v hn hv => by rw [bindL_eq hn]; simpa using hv⟩
          cells := fun n c hc => by
            have e := x.cell n c hc
            rw [bindC_eq (hap' _ (mem_of_lookup hc))] at e
            simpa using e
          hidL := frI _ (Nat.le_refl _), hidC := fun n c hc => frI _ (Nat.le_of_lt (x.above n c (mem_of_lookup hc)))
          newL := fr _ (Nat.le_refl _), made := fun _ hp => nomatch hp }
    · exact ⟨fun n c hc => Heap.get?_none_of_le (Nat.le_of_lt (x.above n c (mem_of_lookup hc))), x.apart, hap'⟩
end

noncomputable def fdAt (w : World) (f : Addr) : FuncData := match (KK w).lookup f with
  | some ⟨_, _, .func d, _⟩ => d
  | _ => default
noncomputable def bodyAt (w : World) (f : Addr) : List Stmt := match (fdAt w f).body with
  | .stmts b => b
  | _ => []
noncomputable abbrev envAt (w : World) (f L : Addr) : Env := callEnvC (fdAt w f) L f

section
variable {prog : Program} {w : World} {A : Around} {s : Shared} {I : Heap}
theorem enters {R : Result → Shared → Prop} {vals : List Value} {oc : Value} {od : Option Addr} {osl : Array (Option Value)}
    (f : Addr) (binds : List (Str × Value)) (fs : List Addr) (W : Wd w I) (st : I.StaysIn s.heap) (hroom : A.depth < recursionLimit) (hfs : ∀ f ∈ fs, ∃ o, s.heap.get? f = some o)
    (h : ∀ L h₁ tk, Fm w fs s.heap I I (envAt w f L) h₁ (fun x => binds.reverse.lookup x) [] → CellsNew s.heap (envAt w f L) →
      wpAny (model prog w) (A.deeper (envAt w f L)) (execs (bodyAt w f) (envAt w f L)) (fun fl s' => R (.ok (.ret (match fl with | .ret v => v | _ => .none))) s')
        (fun _ _ => False) { s with heap := h₁, toks := tk })
    (ho : (KK w).lookup f = some ⟨oc, od, .func (fdAt w f), osl⟩ := by rfl) (hbody : (fdAt w f).body = .stmts (bodyAt w f) := by kernel_rfl!) (hbind : bindArgs (fdAt w f) ⟨vals, []⟩ = pure binds := by kernel_rfl!)
    (hcd : codeIn (KK w) (fdAt w f).code (fdAt w f).qualname = true := by kernel_rfl!) (hclo : (fdAt w f).closure = [] := by kernel_rfl!) (hkinds : kindsOk (fdAt w f).scope.names binds = true := by kernel_rfl!) (hap : cellsApart (fdAt w f).scope.names = true := by kernel_rfl!)
    (hg : (fdAt w f).globals = mainGlobals := by kernel_rfl!) (hbl : (fdAt w f).builtins = builtinsNs := by kernel_rfl!)
    (hco : (fdAt w f).scope.isCoroutine = false := by kernel_rfl!) (hgen : (fdAt w f).scope.isGenerator = false := by kernel_rfl!) (hk : (fdAt w f).scope.kind = .function := by kernel_rfl!) :
    codeAny (model prog w) A (.call (.ref f) ⟨vals, []⟩) R s :=
  enter fs W st hroom hfs ho hbody hbind (fun h₁ tk F C => h _ h₁ tk F C) hcd hclo hkinds hap hg hbl hco hgen hk
end

/-! ## sources of a loop -/
structure Iter (prog : Program) (w : World) (A : Around) (I : Heap) (it : Addr) (n : Nat) (P : Nat → Value → Prop) (St : Nat → Heap → Prop) : Prop where
  stable : ∀ i h h', St i h → I.StaysIn h' → (∀ o, h.get? it = some o → h'.get? it = some o) → St i h'
  there : ∀ i h, St i h → ∃ o, h.get? it = some o
  item : ∀ i (s : Shared) (Q : Option Value → Shared → Prop) (E : Value → Shared → Prop), i < n → St i s.heap →
    (∀ v h' tk, P i v → St (i + 1) h' → (∀ b o, b ≠ it → s.heap.get? b = some o → h'.get? b = some o) → Q (some v) { s with heap := h', toks := tk }) → wpAny (model prog w) A (pyNext (.ref it)) Q E s
  done : ∀ (s : Shared) (Q : Option Value → Shared → Prop) (E : Value → Shared → Prop), St n s.heap →
    (∀ h' tk, (∀ b o, b ≠ it → s.heap.get? b = some o → h'.get? b = some o) → Q none { s with heap := h', toks := tk }) → wpAny (model prog w) A (pyNext (.ref it)) Q E s
  self : ∀ i (s : Shared) (Q : Value → Shared → Prop) (E : Value → Shared → Prop), St i s.heap → Q (.ref it) s → wpAny (model prog w) A (pyIter (.ref it)) Q E s

theorem Iter.up {prog : Program} {w : World} {A : Around} {I I' : Heap} {it : Addr} {n : Nat} {P : Nat → Value → Prop} {St : Nat → Heap → Prop} (x : Iter prog w A I it n P St) (k : I.StaysIn I') : Iter prog w A I' it n P St :=
  { x with stable := fun i h h' a b c => x.stable i h h' a (stays_trans k b) c }

theorem Iter.list {prog : Program} {w : World} {A : Around} {I : Heap} {it l : Addr} {items : Array Value} (hh : A.handled = none) (hl : I.IsList l items) (hne : l ≠ it) :
    Iter prog w A I it items.size (fun i v => items[i]? = some v) (fun i h => h.IsListIter it l i ∧ h.IsList l items) :=
  let W := Walks.list (prog := prog) (w := w) hh it l hne items
  { stable := fun i h h' st k ki => ⟨st.1.at ki, let ⟨o, e, r⟩ := hl; ⟨o, k _ _ e, r⟩⟩
    there := fun i h st => by obtain ⟨o, e, _, hd⟩ := st.1; exact ⟨o, e⟩
    item := fun i s Q E hi st k => W.item i s Q E hi st fun v h' tk hp st' kk => k v h' tk hp st' fun b o hb e => kk b o (by simpa using hb) e
    done := fun s Q E st k => W.done s Q E st fun h' tk kk => k h' tk fun b o hb e => kk b o (by simpa using hb) e
    self := W.self }
theorem Iter.tuple {prog : Program} {w : World} {A : Around} {I : Heap} {it l : Addr} {items : Array Value} (hh : A.handled = none) (hl : I.IsTuple l items) (hne : l ≠ it) :
    Iter prog w A I it items.size (fun i v => items[i]? = some v) (fun i h => h.IsTupleIter it l i ∧ h.IsTuple l items) :=
  let W := Walks.tuple (prog := prog) (w := w) hh it l hne items
  { stable := fun i h h' st k ki => ⟨let ⟨o, e, r⟩ := st.1; ⟨o, ki _ e, r⟩, let ⟨o, e, r⟩ := hl; ⟨o, k _ _ e, r⟩⟩
    there := fun i h st => by obtain ⟨o, e, _, hd⟩ := st.1; exact ⟨o, e⟩
    item := fun i s Q E hi st k => W.item i s Q E hi st fun v h' tk hp st' kk => k v h' tk hp st' fun b o hb e => kk b o (by simpa using hb) e
    done := fun s Q E st k => W.done s Q E st fun h' tk kk => k h' tk fun b o hb e => kk b o (by simpa using hb) e
    self := W.self }
theorem Iter.range {prog : Program} {w : World} {A : Around} {I : Heap} {it : Addr} (hh : A.handled = none) (a : Int) (n : Nat) :
    Iter prog w A I it n (fun i v => ∃ t, v = .int (a + (i : Int)) t) (fun i h => IsRangeIter h it (a + (i : Nat) * 1) ((n : Int) - (i : Nat)) 1) :=
  let W := LCg.range_walks (prog := prog) (w := w) (I := it) hh a n
  { stable := fun i h h' st k ki => ki _ st
    there := fun i h st => ⟨_, st⟩
    item := fun i s Q E hi st k => W.item i s Q E hi st fun v h' tk hp st' kk => k v h' tk hp st' fun b o hb e => kk b o (by simpa using hb) e
    done := fun s Q E st k => W.done s Q E st fun h' tk kk => k h' tk fun b o hb e => kk b o (by simpa using hb) e
    self := W.self }
end Mine

namespace Mine

theorem Paired.imp {α β : Type} {F G : α → β → Prop} (h : ∀ a b, F a b → G a b) : ∀ {l : List α} {l' : List β}, Paired F l l' → Paired G l l'
  | _, _, .nil => .nil
  | _, _, .cons x r => .cons (h _ _ x) (Paired.imp h r)
theorem Paired.get {α β : Type} {F : α → β → Prop} : ∀ {l : List α} {l' : List β}, Paired F l l' → ∀ {i : Nat} {a : α}, l[i]? = some a → ∃ b, l'[i]? = some b ∧ F a b
  | _, _, .nil, i, a, h => by simp at h
  | _, _, .cons x r, 0, a, h => by simp at h; subst h; exact ⟨_, rfl, x⟩
  | _, _, .cons x r, i + 1, a, h => by simp at h; obtain ⟨b, h1, h2⟩ := Paired.get r h; exact ⟨b, by simpa using h1, h2⟩
theorem Paired.get' {α β : Type} {F : α → β → Prop} : ∀ {l : List α} {l' : List β}, Paired F l l' → ∀ {i : Nat} {b : β}, l'[i]? = some b → ∃ a, l[i]? = some a ∧ F a b
  | _, _, .nil, i, a, h => by simp at h
  | _, _, .cons x r, 0, a, h => by simp at h; subst h; exact ⟨_, rfl, x⟩
  | _, _, .cons x r, i + 1, a, h => by simp at h; obtain ⟨b, h1, h2⟩ := Paired.get' r h; exact ⟨b, by simpa using h1, h2⟩
theorem Paired.append {α β : Type} {F : α → β → Prop} : ∀ {l l2 : List α} {l' l2' : List β}, Paired F l l' → Paired F l2 l2' → Paired F (l ++ l2) (l' ++ l2')
  | _, _, _, _, .nil, y => y
  | _, _, _, _, .cons x r, y => .cons x (Paired.append r y)
theorem Paired.reverse {α β : Type} {F : α → β → Prop} : ∀ {l : List α} {l' : List β}, Paired F l l' → Paired F l.reverse l'.reverse
  | _, _, .nil => .nil
  | _, _, .cons x r => by rw [List.reverse_cons, List.reverse_cons]; exact Paired.snoc (Paired.reverse r) x

abbrev Rep (α : Type) := Heap → Value → α → Prop
def Mono {α : Type} (R : Rep α) : Prop := ∀ I I' v d, I.StaysIn I' → R I v d → R I' v d

inductive LOf {α : Type} (R : Rep α) (I : Heap) (v : Value) (ds : List α) : Prop
  | mk (a : Addr) (vs : List Value) (e : v = .ref a) (hl : I.PlainList a (List.toArray vs)) (hp : Paired (R I) vs ds)
theorem LOf.mono {α : Type} {R : Rep α} (m : Mono R) : Mono (LOf R) := fun I I' _ _ k ⟨a, vs, e, ⟨n, ho⟩, p⟩ => ⟨a, vs, e, ⟨n, k _ _ ho⟩, Paired.imp (fun _ _ => m I I' _ _ k) p⟩
theorem Mono.paired {α : Type} {R : Rep α} (m : Mono R) {I I' : Heap} (k : I.StaysIn I') {vs : List Value} {ds : List α} (p : Paired (R I) vs ds) : Paired (R I') vs ds := Paired.imp (fun _ _ => m I I' _ _ k) p

def IntR : Rep Int := fun _ v i => ∃ t, v = .int i t
theorem IntR.mono : Mono IntR := fun _ _ _ _ _ x => x
def NatR : Rep Nat := fun _ v i => ∃ t, v = .int (i : Int) t
theorem NatR.mono : Mono NatR := fun _ _ _ _ _ x => x

/-! ## comprehensions -/
def clFrom (env : Env) : List (Str × NameKind) → List (Str × Addr) → List (Str × Addr)
  | [], acc => acc
  | (n, k) :: r, acc => if k == .free then (match env.cells.lookup n with | some c => clFrom env r ((n, c) :: acc) | none => clFrom env r acc) else clFrom env r acc
def freeOk (env : Env) (names : List (Str × NameKind)) : Bool := names.all fun p => p.2 != .free || (env.cells.lookup p.1).isSome

theorem closureFor_eq {scope : Scope} {env : Env} (h : freeOk env scope.names = true) : closureFor scope env = pure (clFrom env scope.names []) := by
  have key : ∀ (names : List (Str × NameKind)) (acc : List (Str × Addr)), freeOk env names = true →
      (forIn (m := Sem) names acc fun x r => if x.2 == NameKind.free then (do let c ← cellOf env x.1; pure (ForInStep.yield ((x.1, c) :: r))) else pure (ForInStep.yield r)) = pure (clFrom env names acc) := by
    intro names
    induction names with
    | nil => intro acc _; rfl
    | cons p r ih =>
      intro acc hf
      obtain ⟨n, k⟩ := p
      have hf' : freeOk env r = true := by simp only [freeOk, List.all_cons, Bool.and_eq_true] at hf ⊢; exact hf.2
      have h1 : (k != .free || (env.cells.lookup n).isSome) = true := by simp only [freeOk, List.all_cons, Bool.and_eq_true] at hf; exact hf.1
      rw [List.forIn_cons]
      unfold clFrom
      cases hk : (k == NameKind.free) with
      | false =>
        simp only [Bool.false_eq_true, if_false, pure_bind]
        exact ih acc hf'
      | true =>
        have hk' : k = .free := by simpa using hk
        subst hk'
        have h2 : (env.cells.lookup n).isSome = true := by simpa using h1
        obtain ⟨c, hc⟩ := Option.isSome_iff_exists.mp h2
        have e : cellOf env n = pure c := by unfold cellOf; rw [hc]
        simp only [if_true, e, hc, pure_bind]
        exact ih _ hf'
  unfold closureFor
  have := key scope.names [] h
  simp only [bind_pure]
  exact this

theorem clFrom_lookup {env : Env} : ∀ (names : List (Str × NameKind)) (acc : List (Str × Addr)), (∀ n c, acc.lookup n = some c → env.cells.lookup n = some c) →
    ∀ n c, (clFrom env names acc).lookup n = some c → env.cells.lookup n = some c
  | [], _, h => h
  | (x, k) :: r, acc, h => by
    unfold clFrom
    split
    · split
      · rename_i c hc
        refine clFrom_lookup r _ fun n c' e => ?_
        rw [List.lookup_cons] at e
        cases hb : n == x with
        | true => rw [hb] at e; cases e; rw [beq_iff_eq.mp hb]; exact hc
        | false => rw [hb] at e; exact h n c' e
      · exact clFrom_lookup r _ h
    · exact clFrom_lookup r _ h
theorem clFrom_free {env : Env} : ∀ (names : List (Str × NameKind)) (acc : List (Str × Addr)) (p : Str × Addr), p ∈ clFrom env names acc → p ∈ acc ∨ (p.1, NameKind.free) ∈ names
  | [], _, _, h => .inl h
  | (x, k) :: r, acc, p, h => by
    unfold clFrom at h
    split at h
    · rename_i hk
      have hk' : k = .free := by simpa using hk
      subst hk'
      split at h
      · rcases clFrom_free r _ p h with q | q
        · rcases List.mem_cons.mp q with q | q
          · right; rw [q]; exact .head _
          · exact .inl q
        · exact .inr (.tail _ q)
      · exact (clFrom_free r _ p h).imp id (.tail _)
    · exact (clFrom_free r _ p h).imp id (.tail _)

/-- a source: an iterator can be had of it -/
def SrcOf {α : Type} (prog : Program) (w : World) (A : Around) (I : Heap) (xv : Value) (s₁ : Shared) (R : Rep α) (xs : List α) : Prop :=
  ∀ (Q : Value → Shared → Prop) (E : Value → Shared → Prop), (∀ it h' St, s₁.heap.get? it = none → (∀ b o, s₁.heap.get? b = some o → h'.get? b = some o) →
      Iter prog w A I it xs.length (fun i v => ∃ d, xs[i]? = some d ∧ R I v d) St → St 0 h' → Q (.ref it) { s₁ with heap := h' }) → wpAny (model prog w) A (pyIter xv) Q E s₁

theorem SrcOf.list {α : Type} {prog : Program} {w : World} {A : Around} {I : Heap} {xv : Value} {s₁ : Shared} {R : Rep α} {xs : List α} (hh : A.handled = none) (st : I.StaysIn s₁.heap) (h : LOf R I xv xs) : SrcOf prog w A I xv s₁ R xs := by
  intro Q E k
  obtain ⟨a, vs, rfl, hl, hp⟩ := h
  have hl := hl.isList
  have hl' : s₁.heap.IsList a vs.toArray := let ⟨o, e, r⟩ := hl; ⟨o, st _ _ e, r⟩
  have hlt : a < s₁.heap.objs.size := by obtain ⟨_, e, _⟩ := hl'; exact Heap.lt_size e
  refine wpAny_pyIter_list hl' (k _ _ (fun i h => h.IsListIter s₁.heap.objs.size a i ∧ h.IsList a vs.toArray) (Heap.get?_none_of_le (Nat.le_refl _)) (fun b o e => Heap.get?_push_of_some _ e) ?_ ⟨⟨_, Heap.get?_push_size _ rfl, rfl, rfl⟩, hl'.push _⟩)
  have W := Iter.list (prog := prog) (w := w) (A := A) hh hl (Nat.ne_of_lt hlt)
  have hn : vs.toArray.size = xs.length := by simpa using hp.length
  rw [hn] at W
  exact { W with item := fun i s Q E hi st k => W.item i s Q E hi st fun v h' tk hv => k v h' tk (Paired.get hp (by simpa using hv)) }
theorem SrcOf.range {prog : Program} {w : World} {A : Around} {I : Heap} {r : Addr} {s₁ : Shared} {n : Nat} {t u v : Tok} (hh : A.handled = none) (hr : IsRange s₁.heap r 0 (n : Int) 1 t u v) (hs : Builtin.Range.small 0 (n : Int) 1 = true) (hn : Builtin.Range.rangeSize 0 (n : Int) 1 = (n : Int)) :
    SrcOf prog w A I (.ref r) s₁ NatR (List.range n) := by
  intro Q E k
  refine wpAny_pyIter_range hr hs (k _ _ (fun i h => IsRangeIter h s₁.heap.objs.size (0 + (i : Nat) * 1) ((n : Int) - (i : Nat)) 1) (Heap.get?_none_of_le (Nat.le_refl _)) (fun b o e => Heap.get?_push_of_some _ e) ?_ ?_)
  · have W := Iter.range (prog := prog) (w := w) (A := A) (I := I) (it := s₁.heap.objs.size) hh 0 n
    have e : (List.range n).length = n := by simp
    rw [e]
    exact { W with item := fun i s Q E hi st k => W.item i s Q E hi st fun v h' tk hv => k v h' tk (by
      obtain ⟨t, rfl⟩ := hv
      exact ⟨i, by simp [hi], t, by simp⟩) }
  · rw [hn]; simpa using Heap.get?_push_size _ rfl
theorem SrcOf.tuple {α : Type} {prog : Program} {w : World} {A : Around} {I : Heap} {a : Addr} {vs : List Value} {s₁ : Shared} {R : Rep α} {xs : List α} (hh : A.handled = none) (st : I.StaysIn s₁.heap) (hl : I.IsTuple a vs.toArray) (hp : Paired (R I) vs xs) : SrcOf prog w A I (.ref a) s₁ R xs := by
  intro Q E k
  have hl' : s₁.heap.IsTuple a vs.toArray := let ⟨o, e, r⟩ := hl; ⟨o, st _ _ e, r⟩
  have hlt : a < s₁.heap.objs.size := by obtain ⟨_, e, _⟩ := hl'; exact Heap.lt_size e
  refine wpAny_pyIter_tuple hl' (k _ _ (fun i h => h.IsTupleIter s₁.heap.objs.size a i ∧ h.IsTuple a vs.toArray) (Heap.get?_none_of_le (Nat.le_refl _)) (fun b o e => Heap.get?_push_of_some _ e) ?_ ⟨⟨_, Heap.get?_push_size _ rfl, rfl, rfl⟩, hl'.push _⟩)
  have W := Iter.tuple (prog := prog) (w := w) (A := A) hh hl (Nat.ne_of_lt hlt)
  have hn : vs.toArray.size = xs.length := by simpa using hp.length
  rw [hn] at W
  exact { W with item := fun i s Q E hi st k => W.item i s Q E hi st fun v h' tk hv => k v h' tk (Paired.get hp (by simpa using hv)) }
end Mine

namespace Mine

/-- the comprehension's scope: its own names are the loop's and «.0» -/
def scopeOk (scope : Scope) (x : Str) : Bool :=
  scope.kind == .function && scope.names.lookup x == some .local && scope.names.all fun p => p.2 != .cell && (p.2 != .free || p.1 != x) && (p.2 != .local || p.1 == x || p.1 == (".0" : Str)) && (p.2 != .local || scope.names.lookup p.1 == some .local)

theorem relabel_lookup_local {env : Env} {n : Str} : ∀ {names : List (Str × NameKind)}, 
    (names.map fun (n, k) => if (k == NameKind.free && env.scope.kind == .function && env.kindOf n == some .cell) then (n, NameKind.cell) else (n, k)).lookup n = some .local → (n, NameKind.local) ∈ names
  | [], h => by simp at h
  | (y, k) :: r, h => by
    simp only [List.map_cons] at h
    by_cases hc : (k == NameKind.free && env.scope.kind == .function && env.kindOf y == some .cell) = true
    · rw [if_pos hc, List.lookup_cons] at h
      cases hx : n == y with
      | true => rw [hx] at h; cases h
      | false => rw [hx] at h; exact .tail _ (relabel_lookup_local h)
    · rw [if_neg hc, List.lookup_cons] at h
      cases hx : n == y with
      | true => rw [hx] at h; cases h; rw [beq_iff_eq.mp hx]; exact .head _
      | false => rw [hx] at h; exact .tail _ (relabel_lookup_local h)

theorem iteT' {A B : Prop} (k : A) : if true = true then A else B := (if_pos rfl).symm ▸ k
theorem iteF' {A B : Prop} (k : B) : if false = true then A else B := (if_neg Bool.false_ne_true).symm ▸ k

section
variable {prog : Program} {w : World} {A : Around} {E : Value → Shared → Prop} {s : Shared} {env : Env} {fs : List Addr} {h₀ I₀ I : Heap} {m : Str → Option Value} {ms : List (Addr × Obj)}

/-- one turn of a comprehension -/
def Turn {α β : Type} (prog : Program) (w : World) (A : Around) (fs : List Addr) (env : Env) (m : Str → Option Value) (scope : Scope) (x : Str) (ifs : List Expr) (elt : Expr) (RI : Rep α) (RO : Rep β) (p : α → Bool) (f : α → β) (s₁ : Shared) (I₁ : Heap) (d : α) : Prop :=
  ∀ (v : Value) (C : Addr) (I' : Heap) (h' : Heap) (tk : Nat) (E' : Value → Shared → Prop) (ms' : List (Addr × Obj)), RI I' v d → I₁.StaysIn I' →
    Fm w fs s₁.heap I₁ I' (compEnvC scope (clFrom env scope.names []) C env) h' (upd m x v) ms' →
    wpAny (model prog w) A (forIn ifs true fun c r => if r = true then do let ok ← isTrue c (compEnvC scope (clFrom env scope.names []) C env) (eval c (compEnvC scope (clFrom env scope.names []) C env)); pure (ForInStep.yield ok) else pure (ForInStep.yield r))
      (fun ok s₂ => ok = p d ∧ ∃ h₂ tk₂ I₂, s₂ = { s₁ with heap := h₂, toks := tk₂ } ∧ Fm w fs s₁.heap I₁ I₂ (compEnvC scope (clFrom env scope.names []) C env) h₂ (upd m x v) ms' ∧ I'.StaysIn I₂ ∧ (p d = true →
        wpAny (model prog w) A (eval elt (compEnvC scope (clFrom env scope.names []) C env))
          (fun y s₃ => ∃ h₃ tk₃ I₃, s₃ = { s₁ with heap := h₃, toks := tk₃ } ∧ Fm w fs s₁.heap I₁ I₃ (compEnvC scope (clFrom env scope.names []) C env) h₃ (upd m x v) ms' ∧ I₂.StaysIn I₃ ∧ RO I₃ y (f d)) E' s₂)) E' { s₁ with heap := h', toks := tk }

/-! ## the state of a comprehension's loop -/
structure CApart (h : Heap) (it D C : Addr) : Prop where
  nit : h.get? it = none
  nD : h.get? D = none
  nC : h.get? C = none
  itD : it ≠ D
  itC : it ≠ C
  DC : D ≠ C
inductive CInv {β : Type} (s₁ : Shared) (fs' : List Addr) (I₁ : Heap) (St : Nat → Heap → Prop) (it D C : Addr) (N : Nat) (RO : Rep β) (zs : Nat → List β) (k : Nat) (s' : Shared) : Prop
  | mk (h' : Heap) (tk : Nat) (i : Nat) (ys : List Value) (I' : Heap) (mC : Str → Option Value) (e : s' = { s₁ with heap := h', toks := tk }) (hi : i ≤ N) (ek : k = N + 1 - i) (st : St i h') (ns : h'.Ns C mC)
    (nC : I'.get? C = none) (nit : I'.get? it = none) (nD : I'.get? D = none) (hD : h'.PlainList D (List.toArray ys)) (done : Done fs' s₁.heap I₁ h' I') (hp : Paired (RO I') ys (zs i))

theorem Done.step {fs' : List Addr} {h I h' I' h'' : Heap} (d : Done fs' h I h' I') {x y : Addr} (hx : h.get? x = none) (hy : h.get? y = none) (ix : I'.get? x = none) (iy : I'.get? y = none) (kk : ∀ b o, b ≠ x → b ≠ y → h'.get? b = some o → h''.get? b = some o) : Done fs' h I h'' I' := by
  refine ⟨fun b o e => ?_, d.ext, fun b o e => kk b o (fun q => by rw [q, ix] at e; cases e) (fun q => by rw [q, iy] at e; cases e) (d.stays b o e)⟩
  have b1 : b ≠ x := fun q => by rw [q, hx] at e; cases e
  have b2 : b ≠ y := fun q => by rw [q, hy] at e; cases e
  exact ⟨fun hb => kk b o b1 b2 ((d.keep b o e).1 hb), let ⟨sl, e'⟩ := (d.keep b o e).2; ⟨sl, kk b _ b1 b2 e'⟩⟩

theorem comp_start {elt tgt iter : Expr} {pos : Pos} {ifs : List Expr} {scope : Scope} {s₁ : Shared} {h₂ : Heap} {it : Addr} {RR : Value → Addr → Result → Shared → Prop} {cl : List (Str × Addr)}
    (hcell : ∀ y ∈ scope.names, y.2 ≠ .cell) (hkind : scope.kind = .function) (hit : s₁.heap.get? it = none) (hlt : it < h₂.objs.size) (hk₂ : ∀ b o, s₁.heap.get? b = some o → h₂.get? b = some o)
    (k : ∀ D C h₃ mC, CApart s₁.heap it D C → (∀ b o, h₂.get? b = some o → h₃.get? b = some o) → h₃.Ns C mC → h₃.PlainList D #[] →
      codeAny (model prog w) A (.compStart (.ListComp elt [⟨tgt, iter, ifs, 0⟩] scope pos) 0 (.ref it) (.ref D) (compEnvC scope cl C env)) (RR (.ref D) C) { s₁ with heap := h₃, toks := s₁.toks + ([] : List (Str × Value)).length }) :
    wpAny (model prog w) A (newList []) (fun acc s₃ => wpAny (model prog w) A (newFunctionEnv scope env.globals cl [] env.qual none .none (some env)) (fun cenv s₄ =>
      codeAny (model prog w) A (.compStart (.ListComp elt [⟨tgt, iter, ifs, 0⟩] scope pos) 0 (.ref it) acc { cenv with scope := relabel scope env }) (RR acc cenv.locals) s₄) E s₃) E { s₁ with heap := h₂ } := by
  refine wpAny_newObj_type (wpAny_newFunctionEnv hcell (by intro y hy; simp at hy) (fun h₃ hns₃ hsb₃ => ?_) hkind)
  have hC : (h₂.push { cls := .type "list", dict := none, data := .seq ([] : List Value).toArray }).objs.size = h₂.objs.size + 1 := Heap.size_push _ _
  have hDC : h₂.objs.size ≠ (h₂.push { cls := .type "list", dict := none, data := .seq ([] : List Value).toArray }).objs.size := by rw [hC]; exact Nat.ne_of_lt (Nat.lt_succ_self _)
  have nn : ∀ a, h₂.objs.size ≤ a → s₁.heap.get? a = none := fun a ha => by
    cases e : s₁.heap.get? a with
    | none => rfl
    | some o => exact absurd (Heap.lt_size (hk₂ _ _ e)) (Nat.not_lt.mpr ha)
  refine k h₂.objs.size _ h₃ _ ⟨hit, nn _ (Nat.le_refl _), nn _ (by rw [hC]; exact Nat.le_succ _), Nat.ne_of_lt hlt, ?_, hDC⟩ (fun b o e => hsb₃.extBut b o ?_ (Heap.get?_push_of_some _ (Heap.get?_push_of_some _ e))) hns₃ ⟨_, hsb₃.extBut _ _ hDC (Heap.get?_push_of_some _ (Heap.get?_push_size _ rfl))⟩
  · rw [hC]; exact Nat.ne_of_lt (Nat.lt_succ_of_lt hlt)
  · rw [hC]; exact Nat.ne_of_lt (Nat.lt_succ_of_lt (Heap.lt_size e))

/-- the comprehension's own frame, in a turn -/
theorem compFm {scope : Scope} {fs' : List Addr} {h₁ I₁ h' I' : Heap} {it D C : Addr} {mC mm : Str → Option Value} {oi oD : Obj} (hkind : scope.kind = .function) (ap : CApart h₁ it D C) (F₁ : Fm w fs h₀ I₀ I₁ env h₁ m ms) (hfs₁ : ∀ b ∈ fs', ∃ o, h₁.get? b = some o)
    (done : Done fs' h₁ I₁ h' I') (nC : I'.get? C = none) (nit : I'.get? it = none) (nD : I'.get? D = none) (hi : h'.get? it = some oi) (hD : h'.get? D = some oD) (ns : h'.Ns C mC)
    (hl : ∀ n u, (compEnvC scope (clFrom env scope.names []) C env).kindOf n = some .local → mm n = some u → mC n = some u) (hf : ∀ n c, (clFrom env scope.names []).lookup n = some c → mm n = m n) :
    Fm w fs' h₁ I₁ I' (compEnvC scope (clFrom env scope.names []) C env) h' mm [(it, oi), (D, oD)] := by
  have old : ∀ n c, (clFrom env scope.names []).lookup n = some c → env.cells.lookup n = some c := clFrom_lookup scope.names [] (fun _ _ e => nomatch e)
  have off : ∀ {a : Addr}, h₁.get? a = none → ∀ n c, (clFrom env scope.names []).lookup n = some c → a ≠ c := fun ha n c hc q => by
    obtain ⟨o, e, _⟩ := F₁.cells n c (old n c hc)
    rw [← q, ha] at e; cases e
  exact
    { kind := hkind, glob := F₁.glob, blt := F₁.blt, wd := F₁.wd.keeps done.ext.1, stays := done.stays, keep := done.keep, ext := done.ext, fsIn := hfs₁
      ns := ⟨mC, ns, hl⟩
      cells := fun n c hc => by
        rw [hf n c hc]
        exact done.keep.cell (F₁.cells n c (old n c hc))
      hidL := nC
      hidC := fun n c hc => let ⟨o, e, _⟩ := F₁.cells n c (old n c hc); done.ext.2 c o e (F₁.hidC n c (old n c hc))
      newL := ap.nC
      made := fun q hq => by
        rcases List.mem_cons.mp hq with rfl | hq
        · exact ⟨hi, nit, ap.nit, ap.itC, off ap.nit⟩
        · cases List.mem_singleton.mp hq
          exact ⟨hD, nD, ap.nD, ap.DC, off ap.nD⟩ }

/-- the loop's end -/
theorem comp_end {β : Type} {s₁ : Shared} {fs' : List Addr} {I₁ h' I' h₄ : Heap} {it D C : Addr} {ys : List Value} {zs : List β} {RO : Rep β} {mC : Str → Option Value} {G : Prop} (mo : Mono RO) (hfs' : ∀ b ∈ fs', b ∈ env.locals :: fs) (ap : CApart s₁.heap it D C) (F₁ : Fm w fs h₀ I₀ I₁ env s₁.heap m ms)
    (ns : h'.Ns C mC) (nC : I'.get? C = none) (nit : I'.get? it = none) (hD : h'.PlainList D (List.toArray ys)) (done : Done fs' s₁.heap I₁ h' I') (hp : Paired (RO I') ys zs) (hk₄ : ∀ b o, b ≠ it → h'.get? b = some o → h₄.get? b = some o)
    (fin : ∀ I'', h₄.Ns C mC → I''.get? C = none → Fm w fs h₀ I₀ I'' env h₄ m ms → I₁.StaysIn I'' → Done (env.locals :: fs) s₁.heap I₁ h₄ I'' → LOf RO I'' (.ref D) zs → G) : G := by
  have done₄ := done.step ap.nit ap.nit nit nit fun b o hb _ e => hk₄ b o hb e
  have done₅ : Done (env.locals :: fs) s₁.heap I₁ h₄ (add I' h₄ D) :=
    ⟨done₄.keep.mono hfs', ⟨stays_trans done.ext.1 (add_up done₄.stays), fun b o e n => add_none (fun q => by rw [q, ap.nD] at e; cases e) (done.ext.2 b o e n)⟩, add_stays⟩
  refine fin _ (ns.at' fun o e => hk₄ _ o (Ne.symm ap.itC) e) (add_none (Ne.symm ap.DC) nC) (F₁.after done₅) done₅.ext.1 done₅ ⟨D, ys, rfl, ?_, mo.paired (add_up done₄.stays) hp⟩
  obtain ⟨n, e⟩ := hD
  exact ⟨n, add_new.trans (hk₄ _ _ (Ne.symm ap.itD) e)⟩

/-- the loop's turn is done: what it made is laid to the list -/
theorem comp_push {β : Type} {s₁ : Shared} {fs' : List Addr} {I₁ h' I' I₀' : Heap} {St : Nat → Heap → Prop} {P : Nat → Value → Prop} {it D C : Addr} {N i : Nat} {ys : List Value} {z : β} {zs : Nat → List β} {RO : Rep β} {y : Value} {oi : Obj} {nD : Nat} {env' : Env} {m' : Str → Option Value} {tk : Nat} {h₅ : Heap}
    (mo : Mono RO) (hN : N ≤ 1000) (hi : i < N) (ap : CApart s₁.heap it D C) (W : Iter prog w A I₁ it N P St) (st : St (i + 1) h₅) (hoi : h₅.get? it = some oi) (hC : env'.locals = C) (F : Fm w fs' s₁.heap I₁ I' env' h' m' [(it, oi), (D, { cls := .type "list", data := .seq (List.toArray ys) nD })]) (u : I₀'.StaysIn I')
    (hp : Paired (RO I₀') ys (zs i)) (hz : zs (i + 1) = zs i ++ [z]) (hl : (zs i).length ≤ i) (hy : RO I' y z) {Q : Value → Shared → Prop} (k : ∀ s', (∃ n, n < N + 1 - i ∧ CInv s₁ fs' I₁ St it D C N RO zs n s') → Q .none s') :
    wpAny (model prog w) A (call (.builtin "list.append") [.ref D, y]) Q E { s₁ with heap := h', toks := tk } := by
  subst hC
  have n1 := F.made _ (.head _)
  have n2 := F.made _ (.tail _ (.head _))
  have hsz : (List.toArray ys).size ≤ sizeLine := by rw [List.size_toArray, hp.length, sizeLine_eq]; omega
  refine wpAny_list_append_plain (hsz := hsz) ⟨_, n2.1⟩ fun h₈ hD₈ hs₈ => k _ ?_
  obtain ⟨m7, hn7, _⟩ := F.ns
  have keep₈ : ∀ b o, b ≠ D → h'.get? b = some o → h₈.get? b = some o := fun b o hb e => (hs₈.2 b hb).trans e
  have done₈ := F.done.step ap.nD ap.nD n2.2.1 n2.2.1 fun b o hb _ e => keep₈ b o hb e
  refine ⟨N + 1 - (i + 1), by first | assumption | exact Nat.le_trans (by assumption) (by decide) | omega, h₈, tk, i + 1, ys ++ [y], I', m7, rfl, hi, rfl, W.stable _ _ _ st (stays_trans F.ext.1 done₈.stays) (fun o e => ?_), hn7.sameBut hs₈ (Ne.symm ap.DC), F.hidL, n1.2.1, n2.2.1, by simpa using hD₈, done₈, ?_⟩
  · rw [hoi] at e; cases e; exact keep₈ _ _ ap.itD n1.1
  · rw [hz]; exact Paired.snoc (mo.paired u hp) hy

theorem comp_loopN {α β : Type} {elt iter : Expr} {x : Str} {px pos : Pos} {ifs : List Expr} {scope : Scope} {s₁ : Shared} {I₁ : Heap} {it D C : Addr} {St : Nat → Heap → Prop} {RR : Value → Addr → Result → Shared → Prop}
    (xs : List α) (p : α → Bool) (f : α → β) (RI : Rep α) (RO : Rep β) (mi : Mono RI) (mo : Mono RO) (fs' : List Addr) (hfs' : ∀ b ∈ fs', b ∈ env.locals :: fs) (hn : xs.length ≤ 1000)
    (F₁ : Fm w fs h₀ I₀ I₁ env s₁.heap m ms) (hfs₁ : ∀ b ∈ fs', ∃ o, s₁.heap.get? b = some o) (turn : ∀ d ∈ xs, Turn prog w A fs' env m scope x ifs elt RI RO p f s₁ I₁ d)
    (ap : CApart s₁.heap it D C) (W : Iter prog w A I₁ it xs.length (fun i v => ∃ d, xs[i]? = some d ∧ RI I₁ v d) St)
    (fin : ∀ D C h' tk I' mC, s₁.heap.get? C = none → h'.Ns C mC → I'.get? C = none → Fm w fs h₀ I₀ I' env h' m ms → I₁.StaysIn I' → Done (env.locals :: fs) s₁.heap I₁ h' I' → LOf RO I' (.ref D) ((xs.filter p).map f) → D ≠ C →
      RR (.ref D) C (.ok .next) { s₁ with heap := h', toks := tk })
    (hsc : scopeOk scope x = true) (hdot : m ".0" = none) (n : Nat) (s₃ : Shared) (inv : CInv s₁ fs' I₁ St it D C xs.length RO (fun i => ((xs.take i).filter p).map f) n s₃) :
    codeAny (model prog w) A (.compLoop (.ListComp elt [⟨.Name x px, iter, ifs, 0⟩] scope pos) 0 (.ref it) (.ref D) (compEnvC scope (clFrom env scope.names []) C env)) (RR (.ref D) C) s₃ := by
  have hall : ∀ q ∈ scope.names, (q.2 != .cell && (q.2 != .free || q.1 != x) && (q.2 != .local || q.1 == x || q.1 == (".0" : Str)) && (q.2 != .local || scope.names.lookup q.1 == some .local)) = true := by
    have := hsc
    simp only [scopeOk, Bool.and_eq_true] at this
    exact List.all_eq_true.mp this.2
  have hkind : scope.kind = .function := by have := hsc; simp only [scopeOk, Bool.and_eq_true, beq_iff_eq] at this; exact this.1.1
  have hx : scope.names.lookup x = some .local := by have := hsc; simp only [scopeOk, Bool.and_eq_true, beq_iff_eq] at this; exact this.1.2
  refine codeAny_compLoop_tests (CInv s₁ fs' I₁ St it D C xs.length RO (fun i => ((xs.take i).filter p).map f)) ?_ n inv
  rintro k s' ⟨h', tk, i, ys, I', mC, rfl, hi, rfl, hst, hns, nC, nit, nD, hD, done, hp⟩
  by_cases hlt : i < xs.length
  · refine W.item i _ _ _ hlt hst fun v h₄ tk₄ hv hst₄ hk₄ => ?_
    obtain ⟨d, hd, hR⟩ := hv
    have hdm : d ∈ xs := List.mem_of_getElem? hd
    have hns₄ : h₄.Ns C mC := hns.at' fun o e => hk₄ _ o (Ne.symm ap.itC) e
    refine wpAny_assign_Name (wpAny_storeName_local (lookup_relabel_local hx) hns₄ (fun h₅ hns₅ hsb₅ => ?_) (by simp [compEnvC, relabel, hkind]))
    have hns₅ : h₅.Ns C (fun y => if y = x then some v else mC y) := hns₅
    have hsb₅ : Heap.SameBut C h₄ h₅ := hsb₅
    have done₅ := done.step ap.nit ap.nC nit nC fun b o h1 h2 e => hsb₅.extBut b o h2 (hk₄ b o h1 e)
    have hst₅ : St (i + 1) h₅ := W.stable _ _ _ hst₄ (stays_trans done.ext.1 done₅.stays) fun o e => hsb₅.extBut _ o ap.itC e
    obtain ⟨oi₅, hoi₅⟩ := W.there _ _ hst₅
    obtain ⟨nD₅, hD₅⟩ := hD
    have hD₅' := hsb₅.extBut _ _ ap.DC (hk₄ _ _ (Ne.symm ap.itD) hD₅)
    have FC := compFm (mm := upd m x v) hkind ap F₁ hfs₁ done₅ nC nit nD hoi₅ hD₅' hns₅ (fun n u hkn hu => by
      by_cases hnx : n = x
      · simpa [upd, hnx] using hu
      · simp only [upd, if_neg hnx] at hu ⊢
        have hmem := relabel_lookup_local (show _ = some NameKind.local from hkn)
        have := hall _ hmem
        simp [hnx] at this
        have e0 : n = ".0" := this.1
        rw [e0, hdot] at hu; cases hu) (fun n c hc => by
      have hnx : n ≠ x := fun q => by
        rcases clFrom_free _ _ _ (mem_of_lookup hc) with q' | q'
        · cases q'
        · have := hall _ q'
          simp [q] at this
      simp only [upd, if_neg hnx])
    refine wpAny_mono (turn d hdm v C I' h₅ _ _ _ (mi _ _ _ _ done.ext.1 hR) done.ext.1 FC) (fun ok s₂ h₂' => ?_) fun _ _ e => e
    obtain ⟨rfl, h₆, tk₆, I₆, rfl, F₆, up₆, helt⟩ := h₂'
    have htake : (xs.take (i + 1)).filter p = (xs.take i).filter p ++ (if p d then [d] else []) := take_succ_filter p xs i d hd
    cases hpd : p d with
    | false =>
      refine iteF' ?_
      have m1 := F₆.made _ (.head _)
      have m2 := F₆.made _ (.tail _ (.head _))
      obtain ⟨m6, hn6, _⟩ := F₆.ns
      refine ⟨xs.length + 1 - (i + 1), by first | assumption | exact Nat.le_trans (by assumption) (by decide) | omega, h₆, tk₆, i + 1, ys, I₆, m6, rfl, hlt, rfl, W.stable _ _ _ hst₅ (stays_trans F₆.ext.1 F₆.stays) (fun o e => by rw [hoi₅] at e; cases e; exact m1.1), hn6, F₆.hidL, m1.2.1, m2.2.1, ⟨_, m2.1⟩, F₆.done, ?_⟩
      rw [htake, hpd]
      simpa using mo.paired up₆ hp
    | true =>
      refine iteT' (wpAny_mono (helt hpd) (fun y s₄ h₄' => ?_) fun _ _ e => e)
      obtain ⟨h₇, tk₇, I₇, rfl, F₇, up₇, hy⟩ := h₄'
      refine comp_push mo hn hlt ap W hst₅ hoi₅ rfl F₇ (stays_trans up₆ up₇) hp ?_ ?_ hy fun _ q => q
      · rw [htake, hpd]; exact List.map_append
      · rw [List.length_map]; exact Nat.le_trans (List.length_filter_le _ _) (by rw [List.length_take]; omega)
  · obtain rfl : i = xs.length := Nat.le_antisymm hi (Nat.not_lt.mp hlt)
    rw [List.take_length] at hp
    exact W.done _ _ _ hst fun h₄ tk₄ hk₄ => comp_end mo hfs' ap F₁ hns nC nit hD done hp hk₄ fun I'' a b c d e f => fin D C h₄ tk₄ I'' mC ap.nC a b c d e f ap.DC

theorem comp_core {α β : Type} {elt iter : Expr} {x : Str} {px pos : Pos} {ifs : List Expr} {scope : Scope} {s₁ : Shared} {h₂ I₁ : Heap} {it : Addr} {St : Nat → Heap → Prop} {RR : Value → Addr → Result → Shared → Prop}
    (xs : List α) (p : α → Bool) (f : α → β) (RI : Rep α) (RO : Rep β) (mi : Mono RI) (mo : Mono RO) (fs' : List Addr) (hfs' : ∀ b ∈ fs', b ∈ env.locals :: fs) (hn : xs.length ≤ 1000)
    (F₁ : Fm w fs h₀ I₀ I₁ env s₁.heap m ms) (hfs₁ : ∀ b ∈ fs', ∃ o, s₁.heap.get? b = some o) (turn : ∀ d ∈ xs, Turn prog w A fs' env m scope x ifs elt RI RO p f s₁ I₁ d)
    (hit : s₁.heap.get? it = none) (hk₂ : ∀ b o, s₁.heap.get? b = some o → h₂.get? b = some o) (W : Iter prog w A I₁ it xs.length (fun i v => ∃ d, xs[i]? = some d ∧ RI I₁ v d) St) (st₀ : St 0 h₂)
    (fin : ∀ D C h' tk I' mC, s₁.heap.get? C = none → h'.Ns C mC → I'.get? C = none → Fm w fs h₀ I₀ I' env h' m ms → I₁.StaysIn I' → Done (env.locals :: fs) s₁.heap I₁ h' I' → LOf RO I' (.ref D) ((xs.filter p).map f) → D ≠ C →
      RR (.ref D) C (.ok .next) { s₁ with heap := h', toks := tk })
    (hsc : scopeOk scope x = true) (hdot : m ".0" = none) :
    wpAny (model prog w) A (newList []) (fun acc s₃ => wpAny (model prog w) A (newFunctionEnv scope env.globals (clFrom env scope.names []) [] env.qual none .none (some env)) (fun cenv s₄ =>
      codeAny (model prog w) A (.compStart (.ListComp elt [⟨.Name x px, iter, ifs, 0⟩] scope pos) 0 (.ref it) acc { cenv with scope := relabel scope env }) (RR acc cenv.locals) s₄) E s₃) E { s₁ with heap := h₂ } := by
  have hall : ∀ q ∈ scope.names, (q.2 != .cell && (q.2 != .free || q.1 != x) && (q.2 != .local || q.1 == x || q.1 == (".0" : Str)) && (q.2 != .local || scope.names.lookup q.1 == some .local)) = true := by
    have := hsc
    simp only [scopeOk, Bool.and_eq_true] at this
    exact List.all_eq_true.mp this.2
  have hkind : scope.kind = .function := by have := hsc; simp only [scopeOk, Bool.and_eq_true, beq_iff_eq] at this; exact this.1.1
  obtain ⟨oi, hoi⟩ := W.there _ _ st₀
  refine comp_start (fun y hy => by have := hall y hy; simp only [Bool.and_eq_true, bne_iff_ne] at this; exact this.1.1.1) hkind hit (Heap.lt_size hoi) hk₂ fun D C h₃ mC ap old hns hacc => ?_
  have oldS := fun b o e => old b o (hk₂ b o e)
  have hst₃ : St 0 h₃ := W.stable _ _ _ st₀ (stays_trans F₁.stays oldS) fun o e => old _ o e
  have go := comp_loopN (iter := iter) (px := px) (pos := pos) (RR := RR) xs p f RI RO mi mo fs' hfs' hn F₁ hfs₁ turn ap W fin hsc hdot (xs.length + 1) { s₁ with heap := h₃, toks := s₁.toks + ([] : List (Str × Value)).length }
    ⟨h₃, _, 0, [], I₁, mC, rfl, Nat.zero_le _, rfl, hst₃, hns, none_inI F₁ ap.nC, none_inI F₁ ap.nit, none_inI F₁ ap.nD, hacc, ⟨Kp.of oldS, Ext.refl _ _, stays_trans F₁.stays oldS⟩, .nil⟩
  exact codeAny_compStart_list go (W.self 0 _ _ _ hst₃ go)

theorem comp_rule {α β : Type} {elt iter : Expr} {x : Str} {px pos : Pos} {ifs : List Expr} {scope : Scope} {Q : Value → Shared → Prop}
    (xs : List α) (p : α → Bool) (f : α → β) (RI : Rep α) (RO : Rep β) (mi : Mono RI) (mo : Mono RO) (fs' : List Addr) (hfs' : ∀ b ∈ fs', b ∈ env.locals :: fs) (hn : xs.length ≤ 1000)
    (h : wpAny (model prog w) A (eval iter env) (fun xv s₁ => ∃ I₁, Fm w fs h₀ I₀ I₁ env s₁.heap m ms ∧ (∀ b ∈ fs', ∃ o, s₁.heap.get? b = some o) ∧ SrcOf prog w A I₁ xv s₁ RI xs ∧
      (∀ d ∈ xs, Turn prog w A fs' env m scope x ifs elt RI RO p f s₁ I₁ d) ∧
      (∀ D h' tk I', Fm w fs h₀ I₀ I' env h' m ms → I₁.StaysIn I' → LOf RO I' (.ref D) ((xs.filter p).map f) → Q (.ref D) { s₁ with heap := h', toks := tk })) E s)
    (hsc : scopeOk scope x = true := by rfl) (hfr : freeOk env scope.names = true := by rfl) (hdot : m ".0" = none := by rfl)
    (hs : ∀ x, foldedSetIterable iter env x = pure x := by intro _; rfl) :
    wpAny (model prog w) A (eval (.ListComp elt [⟨.Name x px, iter, ifs, 0⟩] scope pos) env) Q E s := by
  have hall : ∀ q ∈ scope.names, (q.2 != .cell && (q.2 != .free || q.1 != x) && (q.2 != .local || q.1 == x || q.1 == (".0" : Str)) && (q.2 != .local || scope.names.lookup q.1 == some .local)) = true := by
    have := hsc
    simp only [scopeOk, Bool.and_eq_true] at this
    exact List.all_eq_true.mp this.2
  have hkind : scope.kind = .function := by have := hsc; simp only [scopeOk, Bool.and_eq_true, beq_iff_eq] at this; exact this.1.1
  have hnames : ∀ y ∈ scope.names, y.2 = .local → scope.names.lookup y.1 = some .local := fun y hy e => by have := hall y hy; simp only [Bool.and_eq_true] at this; simpa [e] using this.2
  rw [eval_ListComp]
  refine wpAny_comprehension_free (use := none) (cl := clFrom env scope.names []) rfl hs (closureFor_eq hfr) hkind hnames (wpAny_mono h (fun xv s₁ h₁ => ?_) fun _ _ e => e)
  obtain ⟨I₁, F₁, hfs₁, src, turn, fin⟩ := h₁
  refine src _ _ fun it h₂ St hit hk₂ W st₀ => ?_
  refine comp_core (RR := fun acc C => compPost (model prog w) A E none Q acc C) xs p f RI RO mi mo fs' hfs' hn F₁ hfs₁ turn hit hk₂ W st₀ (fun D C h' tk I' mC hC hns hIC F' up done hl hDC => ?_) hsc hdot
  refine ⟨mC, hns, fun h₅ hsb => fin D h₅ tk I' ?_ up hl⟩
  exact F'.butC hsb F₁ hC hIC

theorem comp_assign {α β : Type} {elt iter : Expr} {x y : Str} {px py pos spos : Pos} {ifs : List Expr} {scope : Scope} {Q : Flow → Shared → Prop} (CN : CellsNew h₀ env)
    (xs : List α) (p : α → Bool) (f : α → β) (RI : Rep α) (RO : Rep β) (mi : Mono RI) (mo : Mono RO) (fs' : List Addr) (hfs' : ∀ b ∈ fs', b ∈ env.locals :: fs) (hn : xs.length ≤ 1000)
    (h : wpAny (model prog w) A (eval iter env) (fun xv s₁ => ∃ I₁, Fm w fs h₀ I₀ I₁ env s₁.heap m ms ∧ (∀ b ∈ fs', ∃ o, s₁.heap.get? b = some o) ∧ SrcOf prog w A I₁ xv s₁ RI xs ∧
      (∀ d ∈ xs, Turn prog w A fs' env m scope x ifs elt RI RO p f s₁ I₁ d) ∧
      (∀ D h' tk I', Fm w fs h₀ I₀ I' env h' (upd m y (.ref D)) ms → I₁.StaysIn I' → LOf RO I' (.ref D) ((xs.filter p).map f) → Q .next { s₁ with heap := h', toks := tk })) E s)
    (hsw : swapsWith (.ListComp elt [⟨.Name x px, iter, ifs, 0⟩] scope pos) (some (.Name y py)) spos.line env = pure true := by rfl) (hy : env.kindOf y = some .local := by rfl)
    (hsc : scopeOk scope x = true := by rfl) (hfr : freeOk env scope.names = true := by rfl) (hdot : m ".0" = none := by rfl)
    (hs : ∀ x, foldedSetIterable iter env x = pure x := by intro _; rfl) :
    wpAny (model prog w) A (exec (.Assign [.Name y py] (.ListComp elt [⟨.Name x px, iter, ifs, 0⟩] scope pos) spos) env) Q E s := by
  have hall : ∀ q ∈ scope.names, (q.2 != .cell && (q.2 != .free || q.1 != x) && (q.2 != .local || q.1 == x || q.1 == (".0" : Str)) && (q.2 != .local || scope.names.lookup q.1 == some .local)) = true := by
    have := hsc
    simp only [scopeOk, Bool.and_eq_true] at this
    exact List.all_eq_true.mp this.2
  have hkind : scope.kind = .function := by have := hsc; simp only [scopeOk, Bool.and_eq_true, beq_iff_eq] at this; exact this.1.1
  have hnames : ∀ y ∈ scope.names, y.2 = .local → scope.names.lookup y.1 = some .local := fun y hy e => by have := hall y hy; simp only [Bool.and_eq_true] at this; simpa [e] using this.2
  rw [exec_Assign_Name_used _ _ _ _ hsw]
  refine wpAny_bind (wpAny_standAt (wpAny_bind ?_))
  show wpAny _ A (do let _ ← comprehension (.ListComp elt [⟨.Name x px, iter, ifs, 0⟩] scope pos) scope env _ (newList []) false (eval iter env) (some (assign (.Name y py) env))) _ _ s
  refine wpAny_bind (wpAny_mono (wpAny_comprehension_free (use := some (assign (.Name y py) env)) (Q := fun _ s' => Q .next s') (cl := clFrom env scope.names []) rfl hs (closureFor_eq hfr) hkind hnames
    (wpAny_mono h (fun xv s₁ h₁ => ?_) fun _ _ e => e)) (fun _ s' hq => wpAny_pure (wpAny_pure hq)) fun _ _ e => e)
  obtain ⟨I₁, F₁, hfs₁, src, turn, fin⟩ := h₁
  refine src _ _ fun it h₂ St hit hk₂ W st₀ => ?_
  refine comp_core (RR := fun acc C => compPost (model prog w) A E (some (assign (.Name y py) env)) (fun _ s' => Q .next s') acc C) xs p f RI RO mi mo fs' hfs' hn F₁ hfs₁ turn hit hk₂ W st₀ (fun D C h' tk I' mC hC hns hIC F' up done hl hDC => ?_) hsc hdot
  show wpAny _ A (assign (.Name y py) env (.ref D)) _ _ _
  obtain ⟨m', hn', hm'⟩ := F'.ns
  have hLC : C ≠ env.locals := fun q => by obtain ⟨o, _, _, e, _⟩ := F₁.localsAt; rw [← q, hC] at e; cases e
  refine wpAny_assign_Name (wpAny_storeName_local hy hn' (fun h₃ hn₃ hs₃ => ?_) (by rw [F'.kind]; rfl))
  refine ⟨mC, hns.sameBut hs₃ hLC, fun h₅ hsb => fin D h₅ _ I' ?_ up hl⟩
  exact (F'.putL CN hy hm' hn₃ hs₃).butC hsb F₁ hC hIC
end
end Mine

open PySem.SeqAt
namespace Mine
open AutoSeq1 (wpAny_loadPart')
open MeetsSeq

section
variable {A : Around} {s : Shared}

theorem dictFind1 {M : Model} {E : Value → Shared → Prop} {b : Addr} {ob : Obj} {h1 h2 : Int} {x : Str} {t1 t2 : Tok} {v2 : Value} {n2 : Nat} {Q : Option Nat → Shared → Prop}
    (eqs : ∀ Q' : Bool → Shared → Prop, Q' true s → wpAny M A (eqBool (.str x t2) (.str x t1)) Q' E s)
    (hob : s.heap.get? b = some ob) (db : ob.data = .dict #[⟨h2, .str x t2, v2⟩] n2) (h : Q (some 0) s) : wpAny M A (dictFind b (.str x t1) h1) Q E s := by
  unfold dictFind
  try with_reducible refine wpAny_holding ?_
  refine wpAny_bind (wpAny_dictEntries hob db ?_)
  have e1 : ((#[⟨h2, .str x t2, v2⟩] : Array DictEntry).all fun e => isExactStrKey e.key) = true := by simp [isExactStrKey]
  simp only [e1, if_true]
  unfold foundByValue
  have e2 : (#[⟨h2, .str x t2, v2⟩] : Array DictEntry).findIdx? (·.key.isStr x) = some 0 := by simp [Value.isStr]
  rw [e2]
  dsimp only
  have e3 : (#[⟨h2, .str x t2, v2⟩] : Array DictEntry)[0]? = some ⟨h2, .str x t2, v2⟩ := rfl
  simp only [e3]
  refine wpAny_bind (wpAny_dictEpoch hob db ?_)
  refine wpAny_bind (eqs _ ?_)
  refine wpAny_bind (wpAny_dictEpoch hob db ?_)
  simp only [bne_self_eq_false, Bool.false_eq_true, if_false, if_true]
  exact wpAny_bind (wpAny_rule (wpAny_pure h))

theorem rc_dict1 {a b : Addr} {oa ob : Obj} {h1 h2 : Int} {x : Str} {t1 t2 : Tok} {v1 v2 : Value} {n1 n2 : Nat} {r : Bool} (ha : (a == sysModules) = false) (hb : (b == sysModules) = false)
    (hoa : s.heap.get? a = some oa) (ca : oa.cls = .type "dict") (da : oa.data = .dict #[⟨h1, .str x t1, v1⟩] n1) (hob : s.heap.get? b = some ob) (cb : ob.cls = .type "dict") (db : ob.data = .dict #[⟨h2, .str x t2, v2⟩] n2)
    (hu : A.units < cLine) (he : EqAt A.in1 s v1 v2 r) : RcAt A s (.ref a) (.ref b) r := by
  intro prog w E Q h
  have ta : s.TypeIs (.ref a) "dict" := ⟨oa, hoa, ca⟩
  have tb : s.TypeIs (.ref b) "dict" := ⟨ob, hob, cb⟩
  refine wpAny_richCompare_same_room (op := .Eq) ta tb PySem.F.slot_dict_eq (wpAny_call_entry PySem.F.slot_dict_eq ta PySem.F.entry_dict_eq ?_ (PySem.F.args_dict_eq_2 _ _)) hu
  show wpAny _ _ (Builtin.Dict.dictSlotArgs "__eq__" ⟨[.ref a, .ref b], []⟩ >>= _) _ _ s
  refine wpAny_bind ?_
  unfold Builtin.Dict.dictSlotArgs
  refine wpAny_bind (wpAny_notOrdered_dict ta ?_)
  show wpAny _ _ (pure (Value.ref a, Value.ref b)) _ _ s
  refine wpAny_pure ?_
  refine wpAny_bind (wpAny_isInstance (T := "dict") tb PySem.F.sub_dict_dict ?_)
  simp only [Bool.not_true, Bool.false_eq_true, if_false]
  refine wpAny_bind (wpAny_pure (wpAny_bind (wpAny_pure ?_)))
  refine wpAny_bind ?_
  unfold Builtin.Dict.samePairs Builtin.Dict.showsAll
  rw [if_neg (show ¬ (a == sysModules) = true by rw [ha]; exact Bool.false_ne_true), if_neg (show ¬ (b == sysModules) = true by rw [hb]; exact Bool.false_ne_true)]
  refine wpAny_bind (wpAny_pure (wpAny_bind (wpAny_pure ?_)))
  refine wpAny_bind (wpAny_dictEntries hoa da ?_)
  dsimp only
  refine wpAny_bind (wpAny_dictEntries hob db ?_)
  rw [if_neg (by simp)]
  refine wpAny_bind (wpAny_dictEpoch hoa da ?_)
  refine wpAny_bind ?_
  rw [Std.Legacy.Range.forIn_eq_forIn_range']
  simp only [Std.Legacy.Range.size, Nat.sub_zero, Nat.add_sub_cancel, Nat.div_one, List.size_toArray, List.length_cons, List.length_nil, Nat.zero_add]
  show wpAny _ _ (forIn [0] _ _) _ _ _
  rw [List.forIn_cons]
  refine wpAny_bind (wpAny_bind (wpAny_dictEntries hoa da ?_))
  simp only [List.size_toArray, List.length_cons, List.length_nil, Nat.zero_add, Nat.lt_add_one, getElem?_pos, List.getElem_toArray, List.getElem_cons_zero]
  refine wpAny_bind (wpAny_holding (wpAny_bind (dictFind1 (fun Q' q => EqAt.str_str x t2 x t1 prog w E Q' (by simpa using q)) hob db ?_)))
  refine wpAny_bind (wpAny_dictEntries hob db ?_)
  simp only [List.size_toArray, List.length_cons, List.length_nil, Nat.zero_add, Nat.lt_add_one, getElem?_pos, List.getElem_toArray, List.getElem_cons_zero]
  refine wpAny_holding (he prog w _ _ ?_)
  cases r with
  | false =>
    simp only [Bool.not_false, if_true]
    refine wpAny_pure (wpAny_pure (wpAny_pure ?_))
    exact wpAny_pure ⟨_, rfl, fun x => (nomatch x), h⟩
  | true =>
    simp only [Bool.not_true, Bool.false_eq_true, if_false]
    refine wpAny_bind (wpAny_dictEpoch hoa da ?_)
    simp only [bne_self_eq_false, Bool.false_eq_true, if_false]
    refine wpAny_pure ?_
    dsimp only
    rw [List.forIn_nil]
    refine wpAny_pure (wpAny_pure ?_)
    exact wpAny_pure ⟨_, rfl, fun x => (nomatch x), h⟩
end
end Mine

namespace Mine

theorem list_eq_declines_dict (l b : Addr) (items : Array Value) (es : Array DictEntry) (n n2 : Nat) (dd dd2 : Option Addr) (sl sl2 : Array (Option Value)) :
    Meets (Builtin.«list.__eq__» ⟨[.ref l, .ref b], []⟩) (fun _ R s => s.heap.get? l = some { cls := .type "list", dict := dd, data := .seq items n, slots := sl } ∧ s.heap.get? b = some { cls := .type "dict", dict := dd2, data := .dict es n2, slots := sl2 } ∧ R (.ok (.ret .notImplemented)) s) :=
  .of_wp fun prog w A R s h => by obtain ⟨hp, g, d, tk, os⟩ := s; obtain ⟨hl, hb, h⟩ := h; have f1 := PySem.F.sub_dict_list; wp_walk using wpAny_loadPart' hl, wpAny_loadPart' hb; exact ⟨_, rfl, h⟩

section
variable {A : Around} {s : Shared}
theorem dict_eq_declines {prog : Program} {w : World} {E : Value → Shared → Prop} {a b : Addr} {oa : Obj} {T : String} {Q : Value → Shared → Prop} (hoa : s.heap.get? a = some oa) (ca : oa.cls = .type "dict") (tb : s.TypeIs (.ref b) T)
    (hs : isSubtype (.type T) (.type "dict") = pure false) (h : Q .notImplemented s) : wpAny (model prog w) A (call (.builtin "dict.__eq__") [.ref a, .ref b]) Q E s := by
  have ta : s.TypeIs (.ref a) "dict" := ⟨oa, hoa, ca⟩
  refine wpAny_call_entry PySem.F.slot_dict_eq ta PySem.F.entry_dict_eq ?_ (PySem.F.args_dict_eq_2 _ _)
  show wpAny _ _ (Builtin.Dict.dictSlotArgs "__eq__" ⟨[.ref a, .ref b], []⟩ >>= _) _ _ s
  refine wpAny_bind ?_
  unfold Builtin.Dict.dictSlotArgs
  refine wpAny_bind (wpAny_notOrdered_dict ta ?_)
  show wpAny _ _ (pure (Value.ref a, Value.ref b)) _ _ s
  refine wpAny_pure ?_
  refine wpAny_bind (wpAny_isInstance (T := T) tb hs ?_)
  simp only [Bool.not_false, if_true]
  refine wpAny_bind (wpAny_rule ?_)
  exact wpAny_pure ⟨_, rfl, h⟩

theorem rc_list_dict {l b : Addr} {items : Array Value} {ob : Obj} {es : Array DictEntry} {n : Nat} (hl : s.heap.IsList l items) (hob : s.heap.get? b = some ob) (cb : ob.cls = .type "dict") (db : ob.data = .dict es n) (hu : A.units < cLine) : RcAt A s (.ref l) (.ref b) false := fun prog w E Q h => by
  obtain ⟨⟨cls, dd, data, sl⟩, ho, hc, n', hd⟩ := id hl
  obtain ⟨cls2, dd2, data2, sl2⟩ := ob
  simp only at hc hd cb db
  subst hc hd cb db
  have hne : l ≠ b := fun e => by rw [e, hob] at ho; simp at ho
  exact (rc_eq_decline_or (k := false) ⟨_, ho, rfl⟩ ⟨_, hob, rfl⟩ (by decide) PySem.F.sub_dict_list PySem.F.slot_list_eq PySem.F.slot_dict_eq_refl
    (fun _ hq => call_meets PySem.F.slot_list_eq ⟨_, ho, rfl⟩ PySem.F.entry_list_eq (PySem.F.args_list_eq_2 _ _) (list_eq_declines_dict l b items es n' n dd dd2 sl sl2) ⟨ho, hob, hq⟩)
    (fun _ hq => dict_eq_declines hob rfl ⟨_, ho, rfl⟩ PySem.F.sub_list_dict hq)
    (fun _ hq => wpAny_isSame_ref_other hne ho hob (by simp) hq) (.inr hu) h)
theorem rc_dict_list {l b : Addr} {items : Array Value} {ob : Obj} {es : Array DictEntry} {n : Nat} (hl : s.heap.IsList l items) (hob : s.heap.get? b = some ob) (cb : ob.cls = .type "dict") (db : ob.data = .dict es n) (hu : A.units < cLine) : RcAt A s (.ref b) (.ref l) false := fun prog w E Q h => by
  obtain ⟨⟨cls, dd, data, sl⟩, ho, hc, n', hd⟩ := id hl
  obtain ⟨cls2, dd2, data2, sl2⟩ := ob
  simp only at hc hd cb db
  subst hc hd cb db
  have hne : b ≠ l := fun e => by rw [← e, hob] at ho; simp at ho
  exact (rc_eq_decline_or (k := false) ⟨_, hob, rfl⟩ ⟨_, ho, rfl⟩ (by decide) PySem.F.sub_list_dict PySem.F.slot_dict_eq PySem.F.slot_list_eq_refl
    (fun _ hq => dict_eq_declines hob rfl ⟨_, ho, rfl⟩ PySem.F.sub_list_dict hq)
    (fun _ hq => call_meets PySem.F.slot_list_eq_refl ⟨_, ho, rfl⟩ PySem.F.entry_list_eq (PySem.F.args_list_eq_2 _ _) (list_eq_declines_dict l b items es n' n dd dd2 sl sl2) ⟨ho, hob, hq⟩)
    (fun _ hq => wpAny_isSame_ref_other hne hob ho (by simp) hq) (.inr hu) h)
end

/-! ## the five things -/
def ofKey : Str := Str.ofString "of"
inductive ThO1 (I : Heap) (a : Addr) (k : Nat) : Prop
  | mk (p : k % 2 = 1) (o : Obj) (hs : Int) (t : Tok) (l : Addr) (n : Nat) (tk : Tok) (q1 : I.get? a = some o) (q2 : o.cls = .type "dict") (q3 : o.data = .dict #[⟨hs, .str ofKey t, .ref l⟩] n) (q4 : I.IsList l #[.int (k : Int) tk])
inductive ThE0 (I : Heap) (a : Addr) (k : Nat) : Prop
  | mk (p : k % 2 = 0) (tk : Tok) (e : Addr) (q1 : I.IsList a #[.int (k : Int) tk, .ref e]) (q2 : I.IsList e #[])
inductive Th (I : Heap) (v : Value) (k : Nat) : Prop
  | mk (lt : k < 5) (a : Addr) (e : v = .ref a) (ne : a ≠ sysModules) (h : ThO1 I a k ∨ ThE0 I a k)

theorem IsList.up {h h' : Heap} {a : Addr} {items : Array Value} (x : h.IsList a items) (k : h.StaysIn h') : h'.IsList a items := let ⟨o, e, r⟩ := x; ⟨o, k _ _ e, r⟩
theorem PlainList.up {h h' : Heap} {a : Addr} {items : Array Value} (x : h.PlainList a items) (k : h.StaysIn h') : h'.PlainList a items := let ⟨n, e⟩ := x; ⟨n, k _ _ e⟩
theorem IsTuple.up {h h' : Heap} {a : Addr} {items : Array Value} (x : h.IsTuple a items) (k : h.StaysIn h') : h'.IsTuple a items := let ⟨o, e, r⟩ := x; ⟨o, k _ _ e, r⟩
theorem Th.mono : Mono Th := fun _ _ _ _ st ⟨h1, a, h2, h3, h4⟩ => ⟨h1, a, h2, h3, h4.imp
  (fun ⟨p, o, hs, t, l, n, tk, q1, q2, q3, q4⟩ => ⟨p, o, hs, t, l, n, tk, st _ _ q1, q2, q3, IsList.up q4 st⟩) fun ⟨p, tk, e, q1, q2⟩ => ⟨p, tk, e, IsList.up q1 st, IsList.up q2 st⟩⟩

def EqRep {α : Type} [DecidableEq α] (R : Rep α) (u : Nat) : Prop := ∀ (A : Around) (s : Shared) (v v' : Value) (d d' : α), A.units + u < cLine → R s.heap v d → R s.heap v' d' → EqAt A s v v' (decide (d = d'))
def Uniq {α : Type} (R : Rep α) : Prop := ∀ I v d d', R I v d → R I v d' → d = d'

theorem IsList.inj {h : Heap} {a : Addr} {x y : Array Value} (p : h.IsList a x) (q : h.IsList a y) : x = y := by
  obtain ⟨o, e, _, n, hd⟩ := p
  obtain ⟨o', e', _, n', hd'⟩ := q
  rw [e] at e'; cases e'
  rw [hd] at hd'; cases hd'; rfl

theorem IntR.uniq : Uniq IntR := fun _ _ _ _ ⟨_, e⟩ ⟨_, e'⟩ => by rw [e] at e'; cases e'; rfl
theorem NatR.uniq : Uniq NatR := fun _ _ d d' ⟨_, e⟩ ⟨_, e'⟩ => by rw [e] at e'; injection e' with e' _; omega
theorem Th.uniq : Uniq Th := by
  rintro I v k k' ⟨_, a, rfl, _, h⟩ ⟨_, a', e, _, h'⟩
  cases e
  rcases h with ⟨p, o, hs, t, l, n, tk, q1, q2, q3, q4⟩ | ⟨p, tk, e, q1, q2⟩ <;> rcases h' with ⟨p', o', hs', t', l', n', tk', q1', q2', q3', q4'⟩ | ⟨p', tk', e', q1', q2'⟩
  · rw [q1] at q1'; cases q1'
    rw [q3] at q3'; cases q3'
    have := IsList.inj q4 q4'
    simp at this
    omega
  · exfalso
    obtain ⟨o', e', _, n', hd'⟩ := q1'
    rw [q1] at e'; cases e'; rw [q3] at hd'; cases hd'
  · exfalso
    obtain ⟨o', e', _, n', hd'⟩ := q1
    rw [q1'] at e'; cases e'; rw [q3'] at hd'; cases hd'
  · have := IsList.inj q1 q1'
    simp at this
    omega

theorem reads_int1 {h : Heap} {l : Addr} {k : Int} {t : Tok} (x : h.IsList l #[.int k t]) : Reads h (.ref l) (.list [.int k]) [l] := by
  obtain ⟨o, e, hc, n, hd⟩ := x
  exact .list e hc hd (.cons (.int k t) .nil)
theorem reads_even {h : Heap} {l e : Addr} {k : Int} {t : Tok} (x : h.IsList l #[.int k t, .ref e]) (y : h.IsList e #[]) : Reads h (.ref l) (.list [.int k, .list []]) [l, e] := by
  obtain ⟨o, q, hc, n, hd⟩ := x
  obtain ⟨o', q', hc', n', hd'⟩ := y
  exact .list q hc hd (.cons (.int k t) (.cons (.list q' hc' hd' .nil) .nil))

theorem IntR.eqRep : EqRep IntR 0 := fun A s v v' d d' _ ⟨t, e⟩ ⟨t', e'⟩ => by
  subst e e'
  have := EqAt.int_int (A := A) (s := s) d t d' t'
  rwa [show (d == d') = decide (d = d') from by cases h : decide (d = d') <;> simp_all] at this

theorem Th.eqRep : EqRep Th 4 := by
  rintro A s v v' k k' hu x y
  have x0 := x
  have y0 := y
  obtain ⟨hk, a, rfl, ha, h⟩ := x
  obtain ⟨hk', a', rfl, ha', h'⟩ := y
  have hu1 : A.units < cLine := by omega
  by_cases haa : a = a'
  · subst haa
    have e := Th.uniq _ _ _ _ x0 y0
    subst e
    simpa using EqAt.same (A := A) (s := s) (Value.ref a)
  have bx : (a == sysModules) = false := by simpa using ha
  have by' : (a' == sysModules) = false := by simpa using ha'
  rcases h with ⟨p, o, hs, t, l, n, tk, q1, q2, q3, q4⟩ | ⟨p, tk, e, q1, q2⟩ <;> rcases h' with ⟨p', o', hs', t', l', n', tk', q1', q2', q3', q4'⟩ | ⟨p', tk', e', q1', q2'⟩
  · have he := eqAt_reads (.list [.int (k : Int)]) (.list [.int (k' : Int)]) A.in1 s (.ref l) (.ref l') _ _ (reads_int1 q4) (reads_int1 q4') rfl rfl (by show A.units + 1 + _ < _; simp [PyData.depth, PyData.depthAll]; omega)
    refine EqAt.of_refs haa (rc_dict1 bx by' q1 q2 q3 q1' q2' q3' hu1 ?_)
    have e2 : PyData.eqv (.list [.int (k : Int)]) (.list [.int (k' : Int)]) = decide (k = k') := by
      simp [PyData.eqv, PyData.eqvAll]
      by_cases hkk : k = k'
      · simp [hkk]
      · simp [hkk]; omega
    rwa [e2] at he
  · have e2 : decide (k = k') = false := by simp; omega
    rw [e2]
    exact EqAt.of_refs haa (rc_dict_list q1' q1 q2 q3 hu1)
  · have e2 : decide (k = k') = false := by simp; omega
    rw [e2]
    exact EqAt.of_refs haa (rc_list_dict q1 q1' q2' q3' hu1)
  · have he := eqAt_reads (.list [.int (k : Int), .list []]) (.list [.int (k' : Int), .list []]) A s (.ref a) (.ref a') _ _ (reads_even q1 q2) (reads_even q1' q2') rfl rfl (by simp [PyData.depth, PyData.depthAll]; omega)
    have e2 : PyData.eqv (.list [.int (k : Int), .list []]) (.list [.int (k' : Int), .list []]) = decide (k = k') := by
      simp [PyData.eqv, PyData.eqvAll]
      by_cases hkk : k = k'
      · simp [hkk]
      · simp [hkk]; omega
    rwa [e2] at he
end Mine

namespace Mine

/-! ## the state, written plainly -/
def St (b : Shared) (h : Heap) (tk : Nat) : Shared := { b with heap := h, toks := tk }

theorem get_size (h : Heap) : h.get? h.objs.size = none := Heap.get?_none_of_le (Nat.le_refl _)

section
variable {M : Model} {A : Around} {E : Value → Shared → Prop} {b : Shared} {env : Env} {w : World} {fs : List Addr} {h₀ I₀ I h h' I' : Heap} {m : Str → Option Value} {ms : List (Addr × Obj)} {tk : Nat} {Q : Value → Shared → Prop}

theorem Fm.nm {x : Str} {pos : Pos} {v : Value} (F : Fm w fs h₀ I₀ I env h m ms) (hv : m x = some v) (k : Q v (St b h tk))
    (hk : nameOk env x = true := by kernel_rfl!) (hd : (x == ("__debug__" : Str)) = false := by kernel_rfl!) : wpAny M A (eval (.Name x pos) env) Q E (St b h tk) := Fm.name (s := St b h tk) F hv k hk hd
theorem Fm.gl {x : Str} {pos : Pos} {v : Value} (F : Fm w fs h₀ I₀ I env h m ms) (hv : nsIn (KK w) mainGlobals x = some (some v)) (k : Q v (St b h tk))
    (hk : env.kindOf x = some .globalImplicit := by kernel_rfl!) (hd : (x == ("__debug__" : Str)) = false := by kernel_rfl!) : wpAny M A (eval (.Name x pos) env) Q E (St b h tk) := Fm.glb (s := St b h tk) F hv k hk hd
theorem Fm.bu {x : Str} {pos : Pos} {v : Value} (F : Fm w fs h₀ I₀ I env h m ms) (hv : bootBuiltins x = some v) (k : Q v (St b h tk)) (hm : nsIn (KK w) mainGlobals x = some none := by kernel_rfl!)
    (hk : env.kindOf x = some .globalImplicit := by kernel_rfl!) (hd : (x == ("__debug__" : Str)) = false := by kernel_rfl!) (hn : x ≠ "__name__" := by decide) : wpAny M A (eval (.Name x pos) env) Q E (St b h tk) := Fm.bui (s := St b h tk) F hm hv k hk hd hn

theorem cInt {i : Int} {n : Nat} {pos : Pos} (k : ∀ t tk', Q (.int i t) (St b h tk')) : wpAny M A (eval (.Constant (.int i) n pos) env) Q E (St b h tk) := wpAny_Constant_int (k _ _)
theorem cStr {x : Str} {n : Nat} {pos : Pos} (k : ∀ t tk', Q (.str x t) (St b h tk')) : wpAny M A (eval (.Constant (.str x) n pos) env) Q E (St b h tk) := Constant_str (k _ _)

theorem Fm.st {x : Str} {v : Value} {Q : Unit → Shared → Prop} (F : Fm w fs h₀ I₀ I env h m ms) (C : CellsNew h₀ env)
    (k : ∀ h' tk', Fm w fs h₀ I₀ I env h' (upd m x v) ms → Q () (St b h' tk')) (hk : nameOk env x = true := by kernel_rfl!) : wpAny M A (storeName env x v) Q E (St b h tk) := Fm.store (s := St b h tk) F C k hk

theorem Fm.newListI {vs : List Value} (F : Fm w fs h₀ I₀ I env h m ms)
    (k : ∀ a h' I', h.get? a = none → a ≠ sysModules → Fm w fs h₀ I₀ I' env h' m ms → I.StaysIn I' → I'.PlainList a vs.toArray → Q (.ref a) (St b h' tk)) (hsz : vs.length ≤ 1000000 := by (first | decide | simp)) :
    wpAny M A (newList vs) Q E (St b h tk) := by
  refine wpAny_newObj_type ?_ (by show vs.toArray.size ≤ sizeLine; rw [List.size_toArray, sizeLine_eq]; omega)
  have hk : ∀ b o, h.get? b = some o → (h.push { cls := .type "list", data := .seq vs.toArray }).get? b = some o := fun b o e => Heap.get?_push_of_some _ e
  have hs : 226 < h.objs.size := Heap.lt_size (F.stays _ _ (F.wd.X 226 _ rfl))
  exact k h.objs.size _ _ (get_size _) (fun q => by rw [q] at hs; exact absurd hs (by decide)) (F.frozen hk (get_size _)) (add_up (stays_trans F.stays hk)) ⟨_, add_new.trans (Heap.get?_push_size _ rfl)⟩
theorem Fm.newTupleI {vs : List Value} (F : Fm w fs h₀ I₀ I env h m ms)
    (k : ∀ a h' I', h.get? a = none → Fm w fs h₀ I₀ I' env h' m ms → I.StaysIn I' → I'.IsTuple a vs.toArray → Q (.ref a) (St b h' tk)) (hsz : vs.length ≤ 1000000 := by (first | decide | simp)) :
    wpAny M A (newTuple vs) Q E (St b h tk) := by
  refine wpAny_newObj_type ?_ (by show vs.toArray.size ≤ sizeLine; rw [List.size_toArray, sizeLine_eq]; omega)
  have hk : ∀ b o, h.get? b = some o → (h.push { cls := .type "tuple", data := .seq vs.toArray }).get? b = some o := fun b o e => Heap.get?_push_of_some _ e
  exact k h.objs.size _ _ (get_size _) (F.frozen hk (get_size _)) (add_up (stays_trans F.stays hk)) ⟨_, add_new.trans (Heap.get?_push_size _ rfl), rfl, _, rfl⟩
theorem Fm.newListM {vs : List Value} (F : Fm w fs h₀ I₀ I env h m ms)
    (k : ∀ a h', h.get? a = none → Fm w fs h₀ I₀ I env h' m ((a, { cls := .type "list", data := .seq vs.toArray }) :: ms) → (∀ p ∈ ms, p.1 ≠ a) → Q (.ref a) (St b h' tk)) (hsz : vs.length ≤ 1000000 := by (first | decide | simp)) :
    wpAny M A (newList vs) Q E (St b h tk) := by
  refine wpAny_newObj_type ?_ (by show vs.toArray.size ≤ sizeLine; rw [List.size_toArray, sizeLine_eq]; omega)
  have hk : ∀ b o, h.get? b = some o → (h.push { cls := .type "list", data := .seq vs.toArray }).get? b = some o := fun b o e => Heap.get?_push_of_some _ e
  exact k h.objs.size _ (get_size _) (F.fresh hk (get_size _) (Heap.get?_push_size _ rfl)) fun p hp e => by
    have := (F.made p hp).1
    rw [e, get_size] at this; cases this

theorem Fm.list {elts : List Expr} {pos : Pos} (k : wpAny M A (spliced (backTo pos (starEach elts env))) (fun vs s₁ => wpAny M A (newList vs) Q E s₁) E (St b h tk)) : wpAny M A (eval (.List elts pos) env) Q E (St b h tk) := List_ k
end

section
variable {prog : Program} {w : World} {A : Around} {E : Value → Shared → Prop} {b : Shared} {env : Env} {fs : List Addr} {h₀ I₀ I h : Heap} {m : Str → Option Value} {ms : List (Addr × Obj)} {tk : Nat} {Q : Value → Shared → Prop} {x y : Int} {t u : Tok}

theorem iAdd (k : ∀ t' tk', Q (.int (x + y) t') (St b h tk')) : wpAny (model prog w) A (binaryOp .Add (.int x t) (.int y u)) Q E (St b h tk) := PyProof.Rows.add_int (k _ _)
theorem iSub (k : ∀ t' tk', Q (.int (x - y) t') (St b h tk')) : wpAny (model prog w) A (binaryOp .Sub (.int x t) (.int y u)) Q E (St b h tk) := PyProof.Rows.sub_int (k _ _)
theorem iMod (hy : y ≠ 0) (k : ∀ t' tk', Q (.int (x.fmod y) t') (St b h tk')) : wpAny (model prog w) A (binaryOp .Mod (.int x t) (.int y u)) Q E (St b h tk) := PyProof.Rows.mod_int hy (k _ _)
theorem iDiv (hy : y ≠ 0) (hx : Builtin.divisionGoesByPylong x y = false) (k : ∀ t' tk', Q (.int (x.fdiv y) t') (St b h tk')) : wpAny (model prog w) A (binaryOp .FloorDiv (.int x t) (.int y u)) Q E (St b h tk) := PyProof.Rows.floordiv_int hy (k _ _) (.inl hx)
theorem iPow (hn : 0 ≤ y) (hn2 : y ≤ 1000000) (ha : x.natAbs < 2 ^ 64) (k : ∀ t' tk', Q (.int (x ^ y.toNat) t') (St b h tk')) : wpAny (model prog w) A (binaryOp .Pow (.int x t) (.int y u)) Q E (St b h tk) := PyProof.Rows.pow_int_small hn hn2 ha (k _ _)
end

section
variable {prog : Program} {w : World} {A : Around} {s : Shared} {I : Heap}
theorem entersS {R : Result → Shared → Prop} {vals : List Value} {oc : Value} {od : Option Addr} {osl : Array (Option Value)} {b : Shared} {h : Heap} {tk : Nat}
    (f : Addr) (binds : List (Str × Value)) (fs : List Addr) (W : Wd w I) (st : I.StaysIn h) (hroom : A.depth < recursionLimit) (hfs : ∀ f ∈ fs, ∃ o, h.get? f = some o)
    (k : ∀ L h₁ tk', Fm w fs h I I (envAt w f L) h₁ (fun x => binds.reverse.lookup x) [] → CellsNew h (envAt w f L) →
      wpAny (model prog w) (A.deeper (envAt w f L)) (execs (bodyAt w f) (envAt w f L)) (fun fl s' => R (.ok (.ret (match fl with | .ret v => v | _ => .none))) s')
        (fun _ _ => False) (St b h₁ tk'))
    (ho : (KK w).lookup f = some ⟨oc, od, .func (fdAt w f), osl⟩ := by rfl) (hbody : (fdAt w f).body = .stmts (bodyAt w f) := by kernel_rfl!) (hbind : bindArgs (fdAt w f) ⟨vals, []⟩ = pure binds := by kernel_rfl!)
    (hcd : codeIn (KK w) (fdAt w f).code (fdAt w f).qualname = true := by kernel_rfl!) (hclo : (fdAt w f).closure = [] := by kernel_rfl!) (hkinds : kindsOk (fdAt w f).scope.names binds = true := by kernel_rfl!) (hap : cellsApart (fdAt w f).scope.names = true := by kernel_rfl!)
    (hg : (fdAt w f).globals = mainGlobals := by kernel_rfl!) (hbl : (fdAt w f).builtins = builtinsNs := by kernel_rfl!)
    (hco : (fdAt w f).scope.isCoroutine = false := by kernel_rfl!) (hgen : (fdAt w f).scope.isGenerator = false := by kernel_rfl!) (hk : (fdAt w f).scope.kind = .function := by kernel_rfl!) :
    codeAny (model prog w) A (.call (.ref f) ⟨vals, []⟩) R (St b h tk) :=
  enters (s := St b h tk) f binds fs W st hroom hfs k ho hbody hbind hcd hclo hkinds hap hg hbl hco hgen hk
end
end Mine

namespace Mine

/-! ## the rules, once more, over a form that is not unfolded -/
structure WP {α : Type} (M : Model) (A : Around) (t : Sem α) (Q : α → Shared → Prop) (E : Value → Shared → Prop) (s : Shared) : Prop where
  run : wpAny M A t Q E s

theorem iteT {p : Prop} [Decidable p] {A B : Prop} (h : p) (k : A) : if p then A else B := (if_pos h).symm ▸ k
theorem iteF {p : Prop} [Decidable p] {A B : Prop} (h : ¬p) (k : B) : if p then A else B := (if_neg h).symm ▸ k

/-- what a def gives back -/
inductive RetQ (Q : Value → Shared → Prop) (fl : Flow) (s : Shared) : Prop
  | mk (v : Value) (e : fl = .ret v) (q : Q v s)
/-- the end of a loop's turn -/
def LoopQ (Q : Flow → Shared → Prop) (N : Shared → Prop) : Flow → Shared → Prop
  | .next, s => N s
  | .cont, s => N s
  | .brk, s => Q .next s
  | .ret v, s => Q (.ret v) s
inductive Less (n : Nat) (Inv : Nat → Shared → Prop) (s : Shared) : Prop
  | mk (m : Nat) (lt : m < n) (i : Inv m s)

def Nxt (k : Shared → Prop) (Q : Flow → Shared → Prop) : Flow → Shared → Prop
  | .next, s => k s
  | f, s => Q f s

section
variable {M : Model} {A : Around} {E : Value → Shared → Prop} {s : Shared} {b : Shared} {env : Env} {w : World} {fs : List Addr} {h₀ I₀ I h h' I' : Heap} {m : Str → Option Value} {ms : List (Addr × Obj)} {tk : Nat} {Q : Value → Shared → Prop}

theorem WP.mono {α : Type} {t : Sem α} {Q Q' : α → Shared → Prop} (x : WP M A t Q E s) (k : ∀ a s, Q a s → Q' a s) : WP M A t Q' E s := ⟨wpAny_mono x.run k fun _ _ e => e⟩
theorem WP.err {α : Type} {t : Sem α} {Q : α → Shared → Prop} {E' : Value → Shared → Prop} (x : WP M A t Q (fun _ _ => False) s) : WP M A t Q E' s := ⟨wpAny_mono x.run (fun _ _ q => q) fun _ _ e => e.elim⟩

-- statements
theorem sNil {Q : Flow → Shared → Prop} (k : Q .next s) : WP M A (execs [] env) Q E s := ⟨wpAny_execs_nil k⟩
theorem sAgain {Q : Flow → Shared → Prop} {N : Shared → Prop} (k : N s) : WP M A (execs [] env) (LoopQ Q N) E s := ⟨wpAny_execs_nil k⟩
theorem sContAgain {pos : Pos} {K K' : Shared → Prop} {Q : Flow → Shared → Prop} {N : Shared → Prop} (k : N s) : WP M A (exec (.Continue pos) env) (Nxt K (Nxt K' (LoopQ Q N))) E s := ⟨wpAny_Continue k⟩
theorem sCons {st : Stmt} {rest : List Stmt} {Q : Flow → Shared → Prop} (k : WP M A (exec st env) (Nxt (fun s' => WP M A (execs rest env) Q E s') Q) E s) : WP M A (execs (st :: rest) env) Q E s :=
  ⟨wpAny_execs_cons (wpAny_mono k.run (fun f _ h' => by cases f <;> first | exact WP.run h' | exact h') fun _ _ e => e)⟩
theorem sRet {e : Expr} {pos : Pos} {Q : Flow → Shared → Prop} (k : WP M A (eval e env) (fun v => Q (.ret v)) E s) : WP M A (exec (.Return (some e) pos) env) Q E s := ⟨wpAny_Return_some k.run⟩
theorem sAssign {x : Str} {p : Pos} {e : Expr} {pos : Pos} {Q : Flow → Shared → Prop} (k : WP M A (eval e env) (fun v s₁ => WP M A (storeName env x v) (fun _ => Q .next) E s₁) E s)
    (hs : swapsWith e (some (.Name x p)) pos.line env = pure false := by kernel_rfl!) : WP M A (exec (.Assign [.Name x p] e pos) env) Q E s :=
  ⟨wpAny_Assign_Name (wpAny_mono k.run (fun _ _ q => q.run) fun _ _ e => e) hs⟩
theorem sIf {test : Expr} {body orelse : List Stmt} {pos : Pos} {Q : Flow → Shared → Prop}
    (k : WP M A (isTrue test env (eval test env)) (fun c s₂ => if c then WP M A (execs body env) Q E s₂ else WP M A (execs orelse env) Q E s₂) E s) : WP M A (exec (.If test body orelse pos) env) Q E s :=
  ⟨wpAny_If (wpAny_mono k.run (fun c _ q => by cases c <;> exact q.run) fun _ _ e => e)⟩
theorem sExpr {e : Expr} {pos : Pos} {Q : Flow → Shared → Prop} (k : WP M A (eval e env) (fun v s' => (∀ a, v ≠ .ref a) ∧ Q .next s') E s)
    (hi : interactive env = false := by kernel_rfl!) (hs : swapsWith e none pos.line env = pure false := by kernel_rfl!) : WP M A (exec (.Expr e pos) env) Q E s :=
  ⟨wpAny_Expr (wpAny_mono k.run (fun v _ q => by cases v <;> first | exact q.2 | exact (q.1 _ rfl).elim) fun _ _ e => e) hi hs⟩
theorem sAug {x : Str} {p : Pos} {op : Operator} {e : Expr} {pos : Pos} {Q : Flow → Shared → Prop}
    (k : WP M A (loadName env x) (fun old s₁ => WP M A (eval e env) (fun v s₂ => WP M A (inplaceOp op old v) (fun r s₃ => WP M A (storeName env x r) (fun _ => Q .next) E s₃) E s₂) E s₁) E s) : WP M A (exec (.AugAssign (.Name x p) op e pos) env) Q E s :=
  ⟨wpAny_AugAssign_Name (wpAny_mono k.run (fun _ _ q => wpAny_mono q.run (fun _ _ q => wpAny_mono q.run (fun _ _ q => q.run) fun _ _ e => e) fun _ _ e => e) fun _ _ e => e)⟩
theorem xLd {x : Str} {v : Value} (F : Fm w fs h₀ I₀ I env h m ms) (hv : m x = some v) (k : Q v (St b h tk)) (hk : nameOk env x = true := by kernel_rfl!) : WP M A (loadName env x) Q E (St b h tk) := by
  refine ⟨?_⟩
  unfold nameOk at hk
  split at hk
  · rename_i hl
    obtain ⟨m', hn, hm⟩ := F.ns
    exact wpAny_loadName_local (s := St b h tk) F.kind hl hn (hm x v hl hv) k
  · rename_i hl
    obtain ⟨c, hc⟩ := Option.isSome_iff_exists.mp hk
    exact wpAny_loadName_cell (s := St b h tk) F.kind hl hc (hv ▸ F.cells x c hc) k
  · cases hk
theorem sContinue {pos : Pos} {Q : Flow → Shared → Prop} (k : Q .cont s) : WP M A (exec (.Continue pos) env) Q E s := ⟨wpAny_Continue k⟩

-- expressions
theorem eIf {test body orelse : Expr} {pos : Pos}
    (k : WP M A (isTrue test env (eval test env)) (fun c s₂ => if c then WP M A (eval body env) Q E s₂ else WP M A (eval orelse env) Q E s₂) E s) : WP M A (eval (.IfExp test body orelse pos) env) Q E s :=
  ⟨IfExp_ (wpAny_mono k.run (fun c _ q => by cases c <;> exact q.run) fun _ _ e => e)⟩
theorem eBin {l r : Expr} {op : Operator} {pos : Pos} (k : WP M A (eval l env) (fun a s₁ => WP M A (eval r env) (fun b s₂ => WP M A (binaryOp op a b) Q E s₂) E s₁) E s) : WP M A (eval (.BinOp l op r pos) env) Q E s :=
  ⟨wpAny_BinOp (wpAny_mono k.run (fun _ _ q => wpAny_mono q.run (fun _ _ q => q.run) fun _ _ e => e) fun _ _ e => e)⟩
theorem eCmp {l r : Expr} {op : CmpOp} {pos : Pos} (k : WP M A (eval l env) (fun a s₁ => WP M A (eval r env) (fun b s₂ => WP M A (compareOp op a b) Q E s₂) E s₁) E s)
    (hm : behindInMarks op r = false := by kernel_rfl!) : WP M A (eval (.Compare l [op] [r] pos) env) Q E s :=
  ⟨wpAny_Compare1 (wpAny_mono k.run (fun _ _ q => wpAny_mono q.run (fun _ _ q => q.run) fun _ _ e => e) fun _ _ e => e) hm⟩
theorem tCmp {l r : Expr} {op : CmpOp} {pos : Pos} {whole : Sem Value} {Q : Bool → Shared → Prop} (k : WP M A (eval l env) (fun a s₁ => WP M A (eval r env) (fun b s₂ => WP M A (compareOp op a b) (fun c s₃ => WP M A (truthy c) Q E s₃) E s₂) E s₁) E s)
    (hm : behindInMarks op r = false := by kernel_rfl!) : WP M A (isTrue (.Compare l [op] [r] pos) env whole) Q E s :=
  ⟨wpAny_isTrue_Compare1 (wpAny_mono k.run (fun _ _ q => wpAny_mono q.run (fun _ _ q => wpAny_mono q.run (fun _ _ q => q.run) fun _ _ e => e) fun _ _ e => e) fun _ _ e => e) hm⟩
theorem tPlain {e : Expr} {whole : Sem Value} {Q : Bool → Shared → Prop} (k : WP M A whole (fun v s₁ => WP M A (truthy v) Q E s₁) E s)
    (he : isTrue e env whole = (do let v ← whole; standAt e.pos; holding [v] (truthy v)) := by with_unfolding_all rfl) : WP M A (isTrue e env whole) Q E s :=
  ⟨isTrue_plain (wpAny_mono k.run (fun _ _ q => q.run) fun _ _ e => e) he⟩
theorem tNot {x : Expr} {pos : Pos} {whole : Sem Value} {Q : Bool → Shared → Prop} (k : WP M A (isTrue x env (eval x env)) (fun c s' => Q (!c) s') E s) : WP M A (isTrue (.UnaryOp .Not x pos) env whole) Q E s := ⟨isTrue_not k.run⟩
theorem tOr {x : Expr} {rest : List Expr} {pos : Pos} {whole : Sem Value} {Q : Bool → Shared → Prop}
    (k : WP M A (isTrue x env (eval x env)) (fun c s' => if c then Q true s' else WP M A (isTrue (.BoolOp .Or rest pos) env whole) Q E s') E s) : WP M A (isTrue (.BoolOp .Or (x :: rest) pos) env whole) Q E s :=
  ⟨isTrue_or (wpAny_mono k.run (fun c _ q => by cases c <;> first | exact WP.run q | exact q) fun _ _ e => e)⟩
theorem tOrNil {pos : Pos} {whole : Sem Value} {Q : Bool → Shared → Prop} (k : Q false s) : WP M A (isTrue (.BoolOp .Or [] pos) env whole) Q E s := ⟨isTrue_or_nil k⟩
theorem tAnd {x : Expr} {rest : List Expr} {pos : Pos} {whole : Sem Value} {Q : Bool → Shared → Prop}
    (k : WP M A (isTrue x env (eval x env)) (fun c s' => if c then WP M A (isTrue (.BoolOp .And rest pos) env whole) Q E s' else Q false s') E s) : WP M A (isTrue (.BoolOp .And (x :: rest) pos) env whole) Q E s :=
  ⟨isTrue_and (wpAny_mono k.run (fun c _ q => by cases c <;> first | exact WP.run q | exact q) fun _ _ e => e)⟩
theorem tAndNil {pos : Pos} {whole : Sem Value} {Q : Bool → Shared → Prop} (k : Q true s) : WP M A (isTrue (.BoolOp .And [] pos) env whole) Q E s := ⟨isTrue_and_nil k⟩
theorem eList {elts : List Expr} {pos : Pos} (k : WP M A (spliced (backTo pos (starEach elts env))) (fun vs s₁ => WP M A (newList vs) Q E s₁) E s) : WP M A (eval (.List elts pos) env) Q E s :=
  ⟨List_ (wpAny_mono k.run (fun _ _ q => q.run) fun _ _ e => e)⟩
theorem eTuple {elts : List Expr} {n : Nat} {pos : Pos} (k : WP M A (spliced (backTo pos (starEach elts env))) (fun vs s₁ => WP M A (newTuple vs) Q E s₁) E s) : WP M A (eval (.Tuple elts n pos) env) Q E s :=
  ⟨Tuple_ (wpAny_mono k.run (fun _ _ q => q.run) fun _ _ e => e)⟩
theorem aNil {pos : Pos} {Q : List Value → Shared → Prop} (k : Q [] s) : WP M A (spliced (backTo pos (starEach [] env))) Q E s := ⟨args_nil k⟩
theorem aCons {e : Expr} {rest : List Expr} {pos : Pos} {Q : List Value → Shared → Prop}
    (k : WP M A (eval e env) (fun v s₁ => WP M A (spliced (backTo pos (starEach rest env))) (fun vs s₂ => Q (v :: vs) s₂) E s₁) E s)
    (he : starEach (e :: rest) env = (false, eval e env) :: starEach rest env := by with_unfolding_all rfl) : WP M A (spliced (backTo pos (starEach (e :: rest) env))) Q E s :=
  ⟨args_cons (wpAny_mono k.run (fun _ _ q => q.run) fun _ _ e => e) he⟩
theorem eBool {c : Bool} {n : Nat} {pos : Pos} (k : Q (.bool c) s) : WP M A (eval (.Constant (.bool c) n pos) env) Q E s := ⟨Constant_bool k⟩
theorem eSub {value slice : Expr} {pos : Pos} (k : WP M A (eval value env) (fun o s₁ => WP M A (eval slice env) (fun i s₂ => WP M A (subscriptTail value slice o i) Q E s₂) E s₁) E s) : WP M A (eval (.Subscript value slice pos) env) Q E s :=
  ⟨Subscript_ (wpAny_mono k.run (fun _ _ q => wpAny_mono q.run (fun _ _ q => q.run) fun _ _ e => e) fun _ _ e => e)⟩
theorem eAnd {e₁ e₂ : Expr} {rest : List Expr} {pos : Pos}
    (k : WP M A (eval e₁ env) (fun v s₁ => WP M A (truthy v) (fun c s₂ => if c then WP M A (eval (.BoolOp .And (e₂ :: rest) pos) env) Q E s₂ else Q v s₂) E s₁) E s) : WP M A (eval (.BoolOp .And (e₁ :: e₂ :: rest) pos) env) Q E s :=
  ⟨BoolOp_and (wpAny_mono k.run (fun _ _ q => wpAny_mono q.run (fun c _ q => by cases c <;> first | exact WP.run q | exact q) fun _ _ e => e) fun _ _ e => e)⟩
theorem eOr {e₁ e₂ : Expr} {rest : List Expr} {pos : Pos}
    (k : WP M A (eval e₁ env) (fun v s₁ => WP M A (truthy v) (fun c s₂ => if c then Q v s₂ else WP M A (eval (.BoolOp .Or (e₂ :: rest) pos) env) Q E s₂) E s₁) E s) : WP M A (eval (.BoolOp .Or (e₁ :: e₂ :: rest) pos) env) Q E s :=
  ⟨BoolOp_or (wpAny_mono k.run (fun _ _ q => wpAny_mono q.run (fun c _ q => by cases c <;> first | exact WP.run q | exact q) fun _ _ e => e) fun _ _ e => e)⟩
theorem eOne {op : BoolOp} {e : Expr} {pos : Pos} (k : WP M A (eval e env) Q E s) : WP M A (eval (.BoolOp op [e] pos) env) Q E s := ⟨BoolOp_one k.run⟩
theorem vBool {c : Bool} {Q : Bool → Shared → Prop} (k : Q c s) : WP M A (truthy (.bool c)) Q E s := ⟨wpAny_truthy_bool k⟩

theorem eName {x : Str} {pos : Pos} {v : Value} (F : Fm w fs h₀ I₀ I env h m ms) (hv : m x = some v) (k : Q v (St b h tk))
    (hk : nameOk env x = true := by kernel_rfl!) (hd : (x == ("__debug__" : Str)) = false := by kernel_rfl!) : WP M A (eval (.Name x pos) env) Q E (St b h tk) := ⟨F.nm hv k hk hd⟩
theorem eGlob {x : Str} {pos : Pos} (v : Value) (F : Fm w fs h₀ I₀ I env h m ms) (k : Q v (St b h tk)) (hv : nsIn (KK w) mainGlobals x = some (some v) := by kernel_rfl!)
    (hk : env.kindOf x = some .globalImplicit := by kernel_rfl!) (hd : (x == ("__debug__" : Str)) = false := by kernel_rfl!) : WP M A (eval (.Name x pos) env) Q E (St b h tk) := ⟨F.gl hv k hk hd⟩
theorem eBui {x : Str} {pos : Pos} (v : Value) (F : Fm w fs h₀ I₀ I env h m ms) (k : Q v (St b h tk)) (hv : bootBuiltins x = some v := by decide +kernel) (hm : nsIn (KK w) mainGlobals x = some none := by kernel_rfl!)
    (hk : env.kindOf x = some .globalImplicit := by kernel_rfl!) (hd : (x == ("__debug__" : Str)) = false := by kernel_rfl!) (hn : x ≠ "__name__" := by decide) : WP M A (eval (.Name x pos) env) Q E (St b h tk) := ⟨F.bu hv k hm hk hd hn⟩
theorem eInt {i : Int} {n : Nat} {pos : Pos} (k : ∀ t tk', Q (.int i t) (St b h tk')) : WP M A (eval (.Constant (.int i) n pos) env) Q E (St b h tk) := ⟨cInt k⟩
theorem eStr {x : Str} {n : Nat} {pos : Pos} (k : ∀ t tk', Q (.str x t) (St b h tk')) : WP M A (eval (.Constant (.str x) n pos) env) Q E (St b h tk) := ⟨cStr k⟩
theorem xSt {x : Str} {v : Value} {Q : Unit → Shared → Prop} (F : Fm w fs h₀ I₀ I env h m ms) (C : CellsNew h₀ env)
    (k : ∀ h' tk', Fm w fs h₀ I₀ I env h' (upd m x v) ms → Q () (St b h' tk')) (hk : nameOk env x = true := by kernel_rfl!) : WP M A (storeName env x v) Q E (St b h tk) := ⟨F.st C k hk⟩
theorem xListI {vs : List Value} (F : Fm w fs h₀ I₀ I env h m ms)
    (k : ∀ a h' I', h.get? a = none → a ≠ sysModules → Fm w fs h₀ I₀ I' env h' m ms → I.StaysIn I' → I'.PlainList a vs.toArray → Q (.ref a) (St b h' tk)) (hsz : vs.length ≤ 1000000 := by (first | decide | simp)) :
    WP M A (newList vs) Q E (St b h tk) := ⟨F.newListI k hsz⟩
theorem xTupleI {vs : List Value} (F : Fm w fs h₀ I₀ I env h m ms)
    (k : ∀ a h' I', h.get? a = none → Fm w fs h₀ I₀ I' env h' m ms → I.StaysIn I' → I'.IsTuple a vs.toArray → Q (.ref a) (St b h' tk)) (hsz : vs.length ≤ 1000000 := by (first | decide | simp)) :
    WP M A (newTuple vs) Q E (St b h tk) := ⟨F.newTupleI k hsz⟩
theorem xListM {vs : List Value} (F : Fm w fs h₀ I₀ I env h m ms)
    (k : ∀ a h', h.get? a = none → Fm w fs h₀ I₀ I env h' m ((a, { cls := .type "list", data := .seq vs.toArray }) :: ms) → (∀ p ∈ ms, p.1 ≠ a) → Q (.ref a) (St b h' tk)) (hsz : vs.length ≤ 1000000 := by (first | decide | simp)) :
    WP M A (newList vs) Q E (St b h tk) := ⟨F.newListM k hsz⟩
end

section
variable {prog : Program} {w : World} {A : Around} {E : Value → Shared → Prop} {s b : Shared} {env : Env} {fs : List Addr} {h₀ I₀ I h : Heap} {m : Str → Option Value} {ms : List (Addr × Obj)} {tk : Nat} {Q : Value → Shared → Prop} {x y : Int} {t u : Tok}
theorem oAdd (k : ∀ t' tk', Q (.int (x + y) t') (St b h tk')) : WP (model prog w) A (binaryOp .Add (.int x t) (.int y u)) Q E (St b h tk) := ⟨iAdd k⟩
theorem oSub (k : ∀ t' tk', Q (.int (x - y) t') (St b h tk')) : WP (model prog w) A (binaryOp .Sub (.int x t) (.int y u)) Q E (St b h tk) := ⟨iSub k⟩
theorem oMod (hy : y ≠ 0) (k : ∀ t' tk', Q (.int (x.fmod y) t') (St b h tk')) : WP (model prog w) A (binaryOp .Mod (.int x t) (.int y u)) Q E (St b h tk) := ⟨iMod hy k⟩
theorem oDiv (hy : y ≠ 0) (hx : y.natAbs < 1073741824) (k : ∀ t' tk', Q (.int (x.fdiv y) t') (St b h tk')) : WP (model prog w) A (binaryOp .FloorDiv (.int x t) (.int y u)) Q E (St b h tk) := ⟨iDiv hy (PyProof.noPylong_small hx) k⟩
theorem oPow (hn : 0 ≤ y) (hn2 : y ≤ 1000000) (ha : x.natAbs < 2 ^ 64) (k : ∀ t' tk', Q (.int (x ^ y.toNat) t') (St b h tk')) : WP (model prog w) A (binaryOp .Pow (.int x t) (.int y u)) Q E (St b h tk) := ⟨iPow hn hn2 ha k⟩
theorem oIAdd (k : ∀ t' tk', Q (.int (x + y) t') (St b h tk')) : WP (model prog w) A (inplaceOp .Add (.int x t) (.int y u)) Q E (St b h tk) := ⟨wpAny_iadd_int (k _ _)⟩
theorem qGt (k : Q (.bool (decide (y < x))) s) : WP (model prog w) A (compareOp .Gt (.int x t) (.int y u)) Q E s := ⟨PyProof.Rows.gt_int k⟩
theorem qEq (k : Q (.bool (x == y)) s) : WP (model prog w) A (compareOp .Eq (.int x t) (.int y u)) Q E s := ⟨PyProof.Rows.eq_int k⟩
theorem qNe (k : Q (.bool (x != y)) s) : WP (model prog w) A (compareOp .NotEq (.int x t) (.int y u)) Q E s := ⟨PyProof.Rows.ne_int k⟩
theorem vInt {Q : Bool → Shared → Prop} (k : Q (x != 0) s) : WP (model prog w) A (truthy (.int x t)) Q E s := ⟨PyProof.Rows.truthy_int k⟩
end
end Mine

namespace Mine

section
variable {M : Model} {A : Around} {E : Value → Shared → Prop} {s : Shared} {b : Shared} {env : Env} {w : World} {fs : List Addr} {h₀ I₀ I h h' I' : Heap} {m : Str → Option Value} {ms : List (Addr × Obj)} {tk : Nat} {Q : Value → Shared → Prop}

theorem Fm.fn (F : Fm w fs h₀ I₀ I env h m ms) (f : Addr) {oc : Value} {od : Option Addr} {osl : Array (Option Value)} (ho : (KK w).lookup f = some ⟨oc, od, .func (fdAt w f), osl⟩ := by rfl) : FnAt f (St b h tk).heap :=
  ⟨_, _, _, _, F.stays _ _ (F.wd.X f _ ho)⟩

/-- a call by a name of the text's own def -/
theorem eCallG {x : Str} {np pos : Pos} {e : Expr} {rest : List Expr} (f : Addr) (F : Fm w fs h₀ I₀ I env h m ms)
    (k : WP M A (spliced (backTo pos (starEach (e :: rest) env))) (fun vs s₁ => FnAt f s₁.heap ∧ WP M A (call (.ref f) vs) Q E s₁) E (St b h tk))
    (hf : FnAt f (St b h tk).heap := by exact Fm.fn (by assumption) _)
    (hv : nsIn (KK w) mainGlobals x = some (some (.ref f)) := by kernel_rfl!)
    (hk : env.kindOf x = some .globalImplicit := by kernel_rfl!) (hd : (x == ("__debug__" : Str)) = false := by kernel_rfl!)
    (he : starEach (e :: rest) env = (false, eval e env) :: starEach rest env := by with_unfolding_all rfl) (hp : (backTo pos (starEach rest env)).any (·.1) = false := by with_unfolding_all rfl) :
    WP M A (eval (.Call (.Name x np) (e :: rest) [] pos) env) Q E (St b h tk) :=
  ⟨Call_ (F.gl hv (callWith_F (first := []) hf (wpAny_mono k.run (fun _ _ q => ⟨q.1, q.2.run⟩) fun _ _ e => e) he hp) hk hd)⟩
theorem eCallB {x : Str} {np pos : Pos} {e : Expr} {rest : List Expr} (id : String) (F : Fm w fs h₀ I₀ I env h m ms)
    (k : WP M A (spliced (backTo pos (starEach (e :: rest) env))) (fun vs s₁ => WP M A (call (.builtin id) vs) Q E s₁) E (St b h tk))
    (hv : bootBuiltins x = some (.builtin id) := by decide +kernel) (hm : nsIn (KK w) mainGlobals x = some none := by kernel_rfl!)
    (hk : env.kindOf x = some .globalImplicit := by kernel_rfl!) (hd : (x == ("__debug__" : Str)) = false := by kernel_rfl!) (hn : x ≠ "__name__" := by decide)
    (he : starEach (e :: rest) env = (false, eval e env) :: starEach rest env := by with_unfolding_all rfl) (hp : (backTo pos (starEach rest env)).any (·.1) = false := by with_unfolding_all rfl) :
    WP M A (eval (.Call (.Name x np) (e :: rest) [] pos) env) Q E (St b h tk) :=
  ⟨Call_ (F.bu hv (callWith_builtin1 (wpAny_mono k.run (fun _ _ q => q.run) fun _ _ e => e) he hp) hm hk hd hn)⟩
theorem eCallT {x : Str} {np pos : Pos} {e : Expr} {rest : List Expr} (T : String) (F : Fm w fs h₀ I₀ I env h m ms)
    (k : WP M A (spliced (backTo pos (starEach (e :: rest) env))) (fun vs s₁ => WP M A (call (.type T) vs) Q E s₁) E (St b h tk))
    (hv : bootBuiltins x = some (.type T) := by decide +kernel) (hm : nsIn (KK w) mainGlobals x = some none := by kernel_rfl!)
    (hk : env.kindOf x = some .globalImplicit := by kernel_rfl!) (hd : (x == ("__debug__" : Str)) = false := by kernel_rfl!) (hn : x ≠ "__name__" := by decide)
    (he : starEach (e :: rest) env = (false, eval e env) :: starEach rest env := by with_unfolding_all rfl) (hp : (backTo pos (starEach rest env)).any (·.1) = false := by with_unfolding_all rfl) :
    WP M A (eval (.Call (.Name x np) (e :: rest) [] pos) env) Q E (St b h tk) :=
  ⟨Call_ (F.bu hv (PyProof.Rows.callWith_type1 (wpAny_mono k.run (fun _ _ q => q.run) fun _ _ e => e) he hp) hm hk hd hn)⟩
end

section
variable {prog : Program} {w : World} {A : Around} {E : Value → Shared → Prop} {s b : Shared} {env : Env} {fs : List Addr} {h₀ I₀ I h : Heap} {m : Str → Option Value} {ms : List (Addr × Obj)} {tk : Nat} {Q : Value → Shared → Prop}

/-- a method of a list: one argument -/
theorem eMethL1 {x name : Str} {np ap pos : Pos} {e : Expr} {a : Addr} {items : Array Value} (id : String) (F : Fm w fs h₀ I₀ I env h m ms) (hv : m x = some (.ref a)) (hl : h.PlainList a items) (slot : Slot "list" name id) (hty : typeOf (.builtin id) = pure (.type "method_descriptor"))
    (k : WP (model prog w) A (eval e env) (fun v s₁ => WP (model prog w) A (call (.builtin id) [.ref a, v]) Q E s₁) E (St b h tk))
    (hk : nameOk env x = true := by kernel_rfl!) (hd : (x == ("__debug__" : Str)) = false := by kernel_rfl!) (he : starEach [e] env = (false, eval e env) :: starEach [] env := by with_unfolding_all rfl)
    {pl : Sem Bool} (hc : eval (.Call (.Attribute (.Name x np) name ap) [e] [] pos) env = (do
      let ov ← eval (.Name x np) env
      standAt ap.atName
      let (f, first) ← holding [ov] (getMethod ov name pl)
      callWith pos f first (backTo pos (starEach [e] env)) []) := by with_unfolding_all rfl) :
    WP (model prog w) A (eval (.Call (.Attribute (.Name x np) name ap) [e] [] pos) env) Q E (St b h tk) := by
  obtain ⟨n, ho⟩ := hl
  refine ⟨MethodCall_ (F.nm hv (getMethod_builtin (s := St b h tk) (T := "list") ⟨_, ho, rfl⟩ PySem.F.plainAttrs_list slot hty (fun a' q => by cases q; exact ⟨_, ho, rfl⟩) ?_) hk hd) hc⟩
  refine callWith_method1 ?_ he
  exact args_cons (wpAny_mono k.run (fun v s₁ q => args_nil q.run) fun _ _ e => e) he
theorem eMethL0 {x name : Str} {np ap pos : Pos} {a : Addr} {items : Array Value} (id : String) (F : Fm w fs h₀ I₀ I env h m ms) (hv : m x = some (.ref a)) (hl : h.PlainList a items) (slot : Slot "list" name id) (hty : typeOf (.builtin id) = pure (.type "method_descriptor"))
    (k : WP (model prog w) A (call (.builtin id) [.ref a]) Q E (St b h tk))
    (hk : nameOk env x = true := by kernel_rfl!) (hd : (x == ("__debug__" : Str)) = false := by kernel_rfl!)
    {pl : Sem Bool} (hc : eval (.Call (.Attribute (.Name x np) name ap) [] [] pos) env = (do
      let ov ← eval (.Name x np) env
      standAt ap.atName
      let (f, first) ← holding [ov] (getMethod ov name pl)
      callWith pos f first (backTo pos (starEach [] env)) []) := by with_unfolding_all rfl) :
    WP (model prog w) A (eval (.Call (.Attribute (.Name x np) name ap) [] [] pos) env) Q E (St b h tk) := by
  obtain ⟨n, ho⟩ := hl
  refine ⟨MethodCall_ (F.nm hv (getMethod_builtin (s := St b h tk) (T := "list") ⟨_, ho, rfl⟩ PySem.F.plainAttrs_list slot hty (fun a' q => by cases q; exact ⟨_, ho, rfl⟩) ?_) hk hd) hc⟩
  exact callWith_method0 k.run
end
end Mine

namespace Mine

section
variable {prog : Program} {w : World} {A : Around} {E : Value → Shared → Prop} {s b : Shared} {env : Env} {fs : List Addr} {h₀ I₀ I h : Heap} {m : Str → Option Value} {ms : List (Addr × Obj)} {tk : Nat} {Q : Value → Shared → Prop}

abbrev cEnv (scope : Scope) (env : Env) (C : Addr) : Env := compEnvC scope (clFrom env scope.names []) C env

inductive ElemR {β : Type} (w : World) (b : Shared) (fs : List Addr) (h₁ I₁ : Heap) (cenv : Env) (m : Str → Option Value) (ms : List (Addr × Obj)) (I : Heap) (RO : Rep β) (d : β) (y : Value) (s : Shared) : Prop
  | mk (h₃ : Heap) (tk₃ : Nat) (I₃ : Heap) (e : s = St b h₃ tk₃) (F : Fm w fs h₁ I₁ I₃ cenv h₃ m ms) (u : I.StaysIn I₃) (r : RO I₃ y d)
inductive TestR (w : World) (b : Shared) (fs : List Addr) (h₁ I₁ : Heap) (cenv : Env) (m : Str → Option Value) (ms : List (Addr × Obj)) (I : Heap) (p : Bool) (G : Heap → Shared → Prop) (ok : Bool) (s : Shared) : Prop
  | mk (e0 : ok = p) (h₂ : Heap) (tk₂ : Nat) (I₂ : Heap) (e : s = St b h₂ tk₂) (F : Fm w fs h₁ I₁ I₂ cenv h₂ m ms) (u : I.StaysIn I₂) (k : p = true → G I₂ s)
inductive CompR {α : Type} (prog : Program) (w : World) (A : Around) (b : Shared) (fs fs' : List Addr) (h₀ I₀ : Heap) (env : Env) (m : Str → Option Value) (ms : List (Addr × Obj)) (RI : Rep α) (xs : List α) (T : Heap → Heap → α → Prop) (G : Heap → Prop) (xv : Value) (s : Shared) : Prop
  | mk (h₁ : Heap) (tk₁ : Nat) (I₁ : Heap) (e : s = St b h₁ tk₁) (F : Fm w fs h₀ I₀ I₁ env h₁ m ms) (hfs : ∀ b ∈ fs', ∃ o, h₁.get? b = some o) (src : SrcOf prog w A I₁ xv (St b h₁ tk₁) RI xs) (turn : ∀ d ∈ xs, T h₁ I₁ d) (fin : G I₁)
inductive DictR (w : World) (b : Shared) (fs : List Addr) (h₀ I₀ : Heap) (env : Env) (m : Str → Option Value) (ms : List (Addr × Obj)) (a : Addr) (x : Str) (Q : Value → Shared → Prop) (v : Value) (s : Shared) : Prop
  | mk (h₂ : Heap) (tk₂ : Nat) (I₂ : Heap) (e : s = St b h₂ tk₂) (F : Fm w fs h₀ I₀ I₂ env h₂ m ((a, { cls := .type "dict", data := .dict #[] }) :: ms))
    (k : ∀ h₃ tk₃ I₃ o hs t n', Fm w fs h₀ I₀ I₃ env h₃ m ms → I₂.StaysIn I₃ → I₃.get? a = some o → o.cls = .type "dict" → o.data = .dict #[⟨hs, .str x t, v⟩] n' → Q (.ref a) (St b h₃ tk₃))

def Turn0 {α β : Type} (prog : Program) (w : World) (A : Around) (fs : List Addr) (env : Env) (m : Str → Option Value) (scope : Scope) (x : Str) (elt : Expr) (RI : Rep α) (RO : Rep β) (f : α → β) (b : Shared) (h₁ I₁ : Heap) (d : α) : Prop :=
  ∀ (v : Value) (C : Addr) (I' h' : Heap) (tk : Nat) (E' : Value → Shared → Prop) (ms' : List (Addr × Obj)), RI I' v d → I₁.StaysIn I' → Fm w fs h₁ I₁ I' (cEnv scope env C) h' (upd m x v) ms' →
    WP (model prog w) A (eval elt (cEnv scope env C)) (ElemR w b fs h₁ I₁ (cEnv scope env C) (upd m x v) ms' I' RO (f d)) E' (St b h' tk)
def Turn1 {α β : Type} (prog : Program) (w : World) (A : Around) (fs : List Addr) (env : Env) (m : Str → Option Value) (scope : Scope) (x : Str) (c elt : Expr) (RI : Rep α) (RO : Rep β) (p : α → Bool) (f : α → β) (b : Shared) (h₁ I₁ : Heap) (d : α) : Prop :=
  ∀ (v : Value) (C : Addr) (I' h' : Heap) (tk : Nat) (E' : Value → Shared → Prop) (ms' : List (Addr × Obj)), RI I' v d → I₁.StaysIn I' → Fm w fs h₁ I₁ I' (cEnv scope env C) h' (upd m x v) ms' →
    WP (model prog w) A (isTrue c (cEnv scope env C) (eval c (cEnv scope env C))) (TestR w b fs h₁ I₁ (cEnv scope env C) (upd m x v) ms' I' (p d) (fun I₂ s₂ =>
      WP (model prog w) A (eval elt (cEnv scope env C)) (ElemR w b fs h₁ I₁ (cEnv scope env C) (upd m x v) ms' I₂ RO (f d)) E' s₂)) E' (St b h' tk)

theorem Turn0.turn {α β : Type} {scope : Scope} {x : Str} {elt : Expr} {RI : Rep α} {RO : Rep β} {f : α → β} {h₁ I₁ : Heap} {d : α} {tk₁ : Nat} (T : Turn0 prog w A fs env m scope x elt RI RO f b h₁ I₁ d) : Turn prog w A fs env m scope x [] elt RI RO (fun _ => true) f (St b h₁ tk₁) I₁ d := by
  intro v C I' h' tk E' ms' hR st F
  refine wpAny_tests_nil ⟨rfl, h', tk, I', rfl, F, stays_refl _, fun _ => ?_⟩
  exact wpAny_mono (T v C I' h' tk E' ms' hR st F).run (fun y s₃ q => let ⟨h₃, tk₃, I₃, e, F₃, u, r⟩ := q; ⟨h₃, tk₃, I₃, e, F₃, u, r⟩) fun _ _ e => e
theorem Turn1.turn {α β : Type} {scope : Scope} {x : Str} {c elt : Expr} {RI : Rep α} {RO : Rep β} {p : α → Bool} {f : α → β} {h₁ I₁ : Heap} {d : α} {tk₁ : Nat} (T : Turn1 prog w A fs env m scope x c elt RI RO p f b h₁ I₁ d) : Turn prog w A fs env m scope x [c] elt RI RO p f (St b h₁ tk₁) I₁ d := by
  intro v C I' h' tk E' ms' hR st F
  refine wpAny_tests_one (wpAny_mono (T v C I' h' tk E' ms' hR st F).run (fun ok s₂ q => ?_) fun _ _ e => e)
  obtain ⟨q1, h₂, tk₂, I₂, rfl, F₂, u₂, q2⟩ := q
  exact ⟨q1, h₂, tk₂, I₂, rfl, F₂, u₂, fun hp => wpAny_mono (q2 hp).run (fun y s₃ q => let ⟨h₃, tk₃, I₃, e, F₃, u, r⟩ := q; ⟨h₃, tk₃, I₃, e, F₃, u, r⟩) fun _ _ e => e⟩

theorem eComp0 {α β : Type} {elt iter : Expr} {x : Str} {px pos : Pos} {scope : Scope}
    (xs : List α) (f : α → β) (RI : Rep α) (RO : Rep β) (mi : Mono RI) (mo : Mono RO) (fs' : List Addr) (hfs' : ∀ b ∈ fs', b ∈ env.locals :: fs) (hn : xs.length ≤ 1000)
    (k : WP (model prog w) A (eval iter env) (CompR prog w A b fs fs' h₀ I₀ env m ms RI xs (Turn0 prog w A fs' env m scope x elt RI RO f b)
      (fun I₁ => ∀ D h' tk I', Fm w fs h₀ I₀ I' env h' m ms → I₁.StaysIn I' → LOf RO I' (.ref D) (xs.map f) → Q (.ref D) (St b h' tk))) E s)
    (hsc : scopeOk scope x = true := by kernel_rfl!) (hfr : freeOk env scope.names = true := by kernel_rfl!) (hdot : m ".0" = none := by rfl)
    (hs : ∀ x, foldedSetIterable iter env x = pure x := by intro _; with_unfolding_all rfl) :
    WP (model prog w) A (eval (.ListComp elt [⟨.Name x px, iter, [], 0⟩] scope pos) env) Q E s := by
  refine ⟨comp_rule (h₀ := h₀) (I₀ := I₀) (ms := ms) xs (fun _ => true) f RI RO mi mo fs' hfs' hn (wpAny_mono k.run (fun xv s₁ q => ?_) fun _ _ e => e) hsc hfr hdot hs⟩
  obtain ⟨h₁, tk₁, I₁, rfl, F₁, q1, q2, q3, q4⟩ := q
  exact ⟨I₁, F₁, q1, q2, fun d hd => (q3 d hd).turn, fun D h' tk I' F' u hl => q4 D h' tk I' F' u (by rwa [List.filter_eq_self.mpr (fun _ _ => rfl)] at hl)⟩
theorem eComp1 {α β : Type} {elt iter c : Expr} {x : Str} {px pos : Pos} {scope : Scope}
    (xs : List α) (p : α → Bool) (f : α → β) (RI : Rep α) (RO : Rep β) (mi : Mono RI) (mo : Mono RO) (fs' : List Addr) (hfs' : ∀ b ∈ fs', b ∈ env.locals :: fs) (hn : xs.length ≤ 1000)
    (k : WP (model prog w) A (eval iter env) (CompR prog w A b fs fs' h₀ I₀ env m ms RI xs (Turn1 prog w A fs' env m scope x c elt RI RO p f b)
      (fun I₁ => ∀ D h' tk I', Fm w fs h₀ I₀ I' env h' m ms → I₁.StaysIn I' → LOf RO I' (.ref D) ((xs.filter p).map f) → Q (.ref D) (St b h' tk))) E s)
    (hsc : scopeOk scope x = true := by kernel_rfl!) (hfr : freeOk env scope.names = true := by kernel_rfl!) (hdot : m ".0" = none := by rfl)
    (hs : ∀ x, foldedSetIterable iter env x = pure x := by intro _; with_unfolding_all rfl) :
    WP (model prog w) A (eval (.ListComp elt [⟨.Name x px, iter, [c], 0⟩] scope pos) env) Q E s := by
  refine ⟨comp_rule (h₀ := h₀) (I₀ := I₀) (ms := ms) xs p f RI RO mi mo fs' hfs' hn (wpAny_mono k.run (fun xv s₁ q => ?_) fun _ _ e => e) hsc hfr hdot hs⟩
  obtain ⟨h₁, tk₁, I₁, rfl, F₁, q1, q2, q3, q4⟩ := q
  exact ⟨I₁, F₁, q1, q2, fun d hd => (q3 d hd).turn, fun D h' tk I' F' u hl => q4 D h' tk I' F' u hl⟩
theorem sComp0 {α β : Type} {elt iter : Expr} {x y : Str} {px py pos spos : Pos} {scope : Scope} {Q : Flow → Shared → Prop} (C : CellsNew h₀ env)
    (xs : List α) (f : α → β) (RI : Rep α) (RO : Rep β) (mi : Mono RI) (mo : Mono RO) (fs' : List Addr) (hfs' : ∀ b ∈ fs', b ∈ env.locals :: fs) (hn : xs.length ≤ 1000)
    (k : WP (model prog w) A (eval iter env) (CompR prog w A b fs fs' h₀ I₀ env m ms RI xs (Turn0 prog w A fs' env m scope x elt RI RO f b)
      (fun I₁ => ∀ D h' tk I', Fm w fs h₀ I₀ I' env h' (upd m y (.ref D)) ms → I₁.StaysIn I' → LOf RO I' (.ref D) (xs.map f) → Q .next (St b h' tk))) E s)
    (hsw : swapsWith (.ListComp elt [⟨.Name x px, iter, [], 0⟩] scope pos) (some (.Name y py)) spos.line env = pure true := by kernel_rfl!) (hy : env.kindOf y = some .local := by kernel_rfl!)
    (hsc : scopeOk scope x = true := by kernel_rfl!) (hfr : freeOk env scope.names = true := by kernel_rfl!) (hdot : m ".0" = none := by rfl)
    (hs : ∀ x, foldedSetIterable iter env x = pure x := by intro _; with_unfolding_all rfl) :
    WP (model prog w) A (exec (.Assign [.Name y py] (.ListComp elt [⟨.Name x px, iter, [], 0⟩] scope pos) spos) env) Q E s := by
  refine ⟨comp_assign (h₀ := h₀) (I₀ := I₀) (ms := ms) C xs (fun _ => true) f RI RO mi mo fs' hfs' hn (wpAny_mono k.run (fun xv s₁ q => ?_) fun _ _ e => e) hsw hy hsc hfr hdot hs⟩
  obtain ⟨h₁, tk₁, I₁, rfl, F₁, q1, q2, q3, q4⟩ := q
  exact ⟨I₁, F₁, q1, q2, fun d hd => (q3 d hd).turn, fun D h' tk I' F' u hl => q4 D h' tk I' F' u (by rwa [List.filter_eq_self.mpr (fun _ _ => rfl)] at hl)⟩

/-! ## things of the lists -/
theorem eDict1 {x : Str} {n : Nat} {cp pos : Pos} {e : Expr} (F : Fm w fs h₀ I₀ I env h m ms)
    (k : ∀ a h₁ tk₁, a ≠ sysModules → Fm w fs h₀ I₀ I env h₁ m ((a, { cls := .type "dict", data := .dict #[] }) :: ms) →
      WP (model prog w) A (eval e env) (DictR w b fs h₀ I₀ env m ms a x Q) E (St b h₁ tk₁)) :
    WP (model prog w) A (eval (.Dict [some (.Constant (.str x) n cp)] [e] pos) env) Q E (St b h tk) := by
  have hk : ∀ b o, h.get? b = some o → (h.push { cls := .type "dict", data := .dict #[] }).get? b = some o := fun b o e => Heap.get?_push_of_some _ e
  have hs : 226 < h.objs.size := Heap.lt_size (F.stays _ _ (F.wd.X 226 _ rfl))
  refine ⟨wpAny_Dict_pairs (knd := PySem.strKind prog w) (pairs := [(eval (.Constant (.str x) n cp) env, do let x ← eval e env; standAt pos; pure x)]) rfl (by simp) (by simp) ?_⟩
  refine evalPairs_cons (Constant_str (wpAny_bind ?_))
  refine wpAny_mono (k h.objs.size _ _ (fun q => by rw [q] at hs; exact absurd hs (by decide)) (F.fresh hk (get_size _) (Heap.get?_push_size _ rfl))).run (fun v s₁ h₁ => ?_) fun _ _ e => e
  obtain ⟨h₂, tk₂, I₂, rfl, F₂, k₂⟩ := h₁
  refine wpAny_bind (wpAny_standAt (wpAny_pure (evalPairs_nil ?_)))
  have m2 := F₂.made _ (.head _)
  refine ⟨[(x, v)], ⟨?_, rfl, trivial⟩, ⟨_, #[], 0, m2.1, ⟨rfl, rfl, rfl⟩, rfl, ?_, .nil, List.nodup_nil⟩, fun h₃ hd hs₃ => ?_⟩
  · simp [PySem.strKind, Value.isStrOf]
  · intro e he; simp at he
  · obtain ⟨o, es, ep, ho, hex, hdat, hks, hps, hnd⟩ := hd
    have hm : merged ([] : List (Str × Value)) [(x, v)] = [(x, v)] := by simp [merged, stored]
    have hps' : Pairs (PySem.strKind prog w) es.toList [(x, v)] := by rw [← hm]; exact hps
    obtain ⟨l⟩ := es
    cases hps' with
    | cons hkey hval hr =>
      cases hr
      rename_i en
      obtain ⟨t, ht⟩ := Value.isStrOf_shape hkey
      have F₃ : Fm w fs h₀ I₀ I₂ env h₃ m ((h.objs.size, o) :: ms) := F₂.turn (.head _) hs₃ ho fun p hp => by
        rcases List.mem_cons.mp hp with q | q
        · exact .inl q
        · refine .inr ⟨.tail _ q, fun e => ?_⟩
          have := (F.made p q).1
          rw [e, get_size] at this; cases this
      obtain ⟨hsh, ky, vl⟩ := en
      simp only at ht hval
      subst ht hval
      refine k₂ h₃ _ (add I₂ h₃ h.objs.size) o hsh t ep (F₃.freeze (.head _) fun p hp => ⟨.tail _ hp, fun e => ?_⟩) (add_up F₃.stays) (add_new.trans ho) hex.1 hdat
      have := (F.made p hp).1
      rw [e, get_size] at this; cases this

/-- the contract of a def, as a rule of a call -/
theorem wCall {f : Value} {vals : List Value} (k : codeAny (model prog w) A (.call f ⟨vals, []⟩) (fun r s' => match r with | .ok (.ret v) => Q v s' | .ok _ => False | .error e => E e s') s) : WP (model prog w) A (call f vals) Q E s := ⟨wpAny_call k⟩

theorem wEnter {vals : List Value} {oc : Value} {od : Option Addr} {osl : Array (Option Value)}
    (f : Addr) (binds : List (Str × Value)) (fs : List Addr) (W : Wd w I) (st : I.StaysIn h) (hroom : A.depth < recursionLimit) (hfs : ∀ f ∈ fs, ∃ o, h.get? f = some o)
    (k : ∀ L h₁ tk', Fm w fs h I I (envAt w f L) h₁ (fun x => binds.reverse.lookup x) [] → CellsNew h (envAt w f L) →
      WP (model prog w) (A.deeper (envAt w f L)) (execs (bodyAt w f) (envAt w f L)) (RetQ Q) (fun _ _ => False) (St b h₁ tk'))
    (ho : (KK w).lookup f = some ⟨oc, od, .func (fdAt w f), osl⟩ := by rfl) (hbody : (fdAt w f).body = .stmts (bodyAt w f) := by kernel_rfl!) (hbind : bindArgs (fdAt w f) ⟨vals, []⟩ = pure binds := by kernel_rfl!)
    (hcd : codeIn (KK w) (fdAt w f).code (fdAt w f).qualname = true := by kernel_rfl!) (hclo : (fdAt w f).closure = [] := by kernel_rfl!) (hkinds : kindsOk (fdAt w f).scope.names binds = true := by kernel_rfl!) (hap : cellsApart (fdAt w f).scope.names = true := by kernel_rfl!)
    (hg : (fdAt w f).globals = mainGlobals := by kernel_rfl!) (hbl : (fdAt w f).builtins = builtinsNs := by kernel_rfl!)
    (hco : (fdAt w f).scope.isCoroutine = false := by kernel_rfl!) (hgen : (fdAt w f).scope.isGenerator = false := by kernel_rfl!) (hk : (fdAt w f).scope.kind = .function := by kernel_rfl!) :
    WP (model prog w) A (call (.ref f) vals) Q E (St b h tk) := by
  refine wCall (entersS f binds fs W st hroom hfs (fun L h₁ tk' F C => wpAny_mono (k L h₁ tk' F C).run (fun fl s' q => ?_) fun _ _ e => e) ho hbody hbind hcd hclo hkinds hap hg hbl hco hgen hk)
  obtain ⟨v, rfl, q⟩ := q
  exact q
end
end Mine

namespace Mine

/-! ## equality of lists and pairs -/
theorem Paired.uniq {α : Type} {R : Rep α} (u : Uniq R) {I : Heap} : ∀ {vs : List Value} {ds ds' : List α}, Paired (R I) vs ds → Paired (R I) vs ds' → ds = ds'
  | _, _, _, .nil, .nil => rfl
  | _, _, _, .cons a x, .cons b y => by rw [u _ _ _ _ a b, Paired.uniq u x y]
theorem PlainList.inj {h : Heap} {a : Addr} {x y : Array Value} (p : h.PlainList a x) (q : h.PlainList a y) : x = y := IsList.inj p.isList q.isList
theorem LOf.uniq {α : Type} {R : Rep α} (u : Uniq R) : Uniq (LOf R) := by
  rintro I v ds ds' ⟨a, vs, rfl, hl, hp⟩ ⟨a', vs', e, hl', hp'⟩
  cases e
  have := PlainList.inj hl hl'
  have e : vs = vs' := by simpa using this
  subst e
  exact Paired.uniq u hp hp'

theorem all_range_eq {α : Type} [DecidableEq α] : ∀ (ds ds' : List α), ds.length = ds'.length → ((List.range ds.length).all fun j => decide (ds[j]? = ds'[j]?)) = decide (ds = ds')
  | [], [], _ => rfl
  | [], _ :: _, h => by simp at h
  | _ :: _, [], h => by simp at h
  | d :: ds, d' :: ds', h => by
    have ih := all_range_eq ds ds' (by simpa using h)
    rw [List.length_cons, List.range_succ_eq_map, List.all_cons, List.all_map]
    have e : (fun j => decide (ds[j]? = ds'[j]?)) = (fun j => decide ((d :: ds)[j]? = (d' :: ds')[j]?)) ∘ Nat.succ := by funext j; simp
    rw [← e, ih]
    by_cases h1 : d = d' <;> by_cases h2 : ds = ds' <;> simp [h1, h2]

section
variable {α : Type} [DecidableEq α] {R : Rep α} {u : Nat} {A : Around} {s : Shared}
theorem LOf.elems (er : EqRep R u) (hu : A.units + u < cLine) {vs vs' : List Value} {ds ds' : List α} (p : Paired (R s.heap) vs ds) (p' : Paired (R s.heap) vs' ds') (j : Nat) (h1 : j < vs.toArray.size) (h2 : j < vs'.toArray.size) :
    EqAt A s vs.toArray[j] vs'.toArray[j] (decide (ds[j]? = ds'[j]?)) := by
  have e1 : vs[j]? = some vs.toArray[j] := by simp at h1; simp [h1]
  have e2 : vs'[j]? = some vs'.toArray[j] := by simp at h2; simp [h2]
  obtain ⟨d, hd, hR⟩ := Paired.get p e1
  obtain ⟨d', hd', hR'⟩ := Paired.get p' e2
  rw [hd, hd']
  have := er A s _ _ d d' hu hR hR'
  simpa using this
theorem LOf.rc (er : EqRep R u) (hu : A.units + (u + 1) < cLine) {v v' : Value} {ds ds' : List α} (x : LOf R s.heap v ds) (y : LOf R s.heap v' ds') : RcAt A s v v' (decide (ds = ds')) := by
  obtain ⟨a, vs, rfl, hl, hp⟩ := x
  obtain ⟨a', vs', rfl, hl', hp'⟩ := y
  have n1 := hp.length
  have n2 := hp'.length
  by_cases hsz : vs.length = vs'.length
  · have := RcAt.lists hl.isList hl'.isList (by simpa using hsz) (by first | assumption | exact Nat.le_trans (by assumption) (by decide) | omega) (e := fun j => decide (ds[j]? = ds'[j]?)) (fun j h1 h2 => LOf.elems (A := A.in1) er (by show A.units + 1 + u < _; omega) hp hp' j h1 h2)
    rw [List.size_toArray, n1, all_range_eq _ _ (by first | assumption | exact Nat.le_trans (by assumption) (by decide) | omega)] at this
    exact this
  · have e : decide (ds = ds') = false := by
      rw [decide_eq_false_iff_not]
      intro e
      rw [e] at n1
      omega
    rw [e]
    exact RcAt.lists_lengths hl.isList hl'.isList (by simpa using hsz) (by first | assumption | exact Nat.le_trans (by assumption) (by decide) | omega)
theorem LOf.rcNe (er : EqRep R u) (hu : A.units + (u + 1) < cLine) {v v' : Value} {ds ds' : List α} (x : LOf R s.heap v ds) (y : LOf R s.heap v' ds') : RcNeAt A s v v' (!decide (ds = ds')) := by
  obtain ⟨a, vs, rfl, hl, hp⟩ := x
  obtain ⟨a', vs', rfl, hl', hp'⟩ := y
  have n1 := hp.length
  have n2 := hp'.length
  by_cases hsz : vs.length = vs'.length
  · have := RcNeAt.lists hl.isList hl'.isList (by simpa using hsz) (by first | assumption | exact Nat.le_trans (by assumption) (by decide) | omega) (e := fun j => decide (ds[j]? = ds'[j]?)) (fun j h1 h2 => LOf.elems (A := A.in1) er (by show A.units + 1 + u < _; omega) hp hp' j h1 h2)
    rw [List.size_toArray, n1, all_range_eq _ _ (by first | assumption | exact Nat.le_trans (by assumption) (by decide) | omega)] at this
    exact this
  · have e : decide (ds = ds') = false := by
      rw [decide_eq_false_iff_not]
      intro e
      rw [e] at n1
      omega
    rw [e]
    exact RcNeAt.lists_lengths hl.isList hl'.isList (by simpa using hsz) (by first | assumption | exact Nat.le_trans (by assumption) (by decide) | omega)
theorem LOf.eqRep (er : EqRep R u) (uq : Uniq R) : EqRep (LOf R) (u + 1) := fun A s v v' ds ds' hu x y => by
  have x0 := x
  have y0 := y
  obtain ⟨a, vs, rfl, hl, hp⟩ := x
  obtain ⟨a', vs', rfl, hl', hp'⟩ := y
  by_cases haa : a = a'
  · subst haa
    have e := LOf.uniq uq _ _ _ _ x0 y0
    subst e
    simpa using EqAt.same (A := A) (s := s) (Value.ref a)
  · exact EqAt.of_refs haa (LOf.rc er hu x0 y0)
end

section
variable {prog : Program} {w : World} {A : Around} {E : Value → Shared → Prop} {s b : Shared} {env : Env} {fs : List Addr} {h₀ I₀ I h : Heap} {m : Str → Option Value} {ms : List (Addr × Obj)} {tk : Nat} {Q : Value → Shared → Prop}

theorem cEq {α : Type} [DecidableEq α] {R : Rep α} {u : Nat} {v v' : Value} {ds ds' : List α} (er : EqRep R u) (mo : Mono R) (st : I.StaysIn h) (hu : A.units + (u + 1) < cLine) (x : LOf R I v ds) (y : LOf R I v' ds') (k : Q (.bool (decide (ds = ds'))) (St b h tk)) :
    WP (model prog w) A (compareOp .Eq v v') Q E (St b h tk) :=
  ⟨LOf.rc (s := St b h tk) er hu (LOf.mono mo _ _ _ _ st x) (LOf.mono mo _ _ _ _ st y) prog w E Q k⟩
theorem cNe {α : Type} [DecidableEq α] {R : Rep α} {u : Nat} {v v' : Value} {ds ds' : List α} (er : EqRep R u) (mo : Mono R) (st : I.StaysIn h) (hu : A.units + (u + 1) < cLine) (x : LOf R I v ds) (y : LOf R I v' ds') (k : Q (.bool (!decide (ds = ds'))) (St b h tk)) :
    WP (model prog w) A (compareOp .NotEq v v') Q E (St b h tk) :=
  ⟨LOf.rcNe (s := St b h tk) er hu (LOf.mono mo _ _ _ _ st x) (LOf.mono mo _ _ _ _ st y) prog w E Q k⟩

/-! ## items, slices, sums of lists -/
theorem xTail {value slice : Expr} {o i : Value} {T id : String} {ops : List Value} (hT : s.TypeIs o T) (hl : typeLookup (.type T) "__getitem__" = pure (some (.builtin id))) (k : WP (model prog w) A (getItem o i) Q E s)
    (hs : subscripted slice false o i = operate ops (getItem o i) := by with_unfolding_all rfl) : WP (model prog w) A (subscriptTail value slice o i) Q E s := by
  refine ⟨?_⟩
  unfold subscriptTail
  refine wpAny_bind ?_
  rw [getitemInPython_of_ne hT.not_modules]
  refine wpAny_bind (wpAny_specialOf hT hl ?_)
  have fin : wpAny (model prog w) A (subscripted slice false o i) (fun r s₃ => wpAny (model prog w) A (letTemporaryGo value o r >>= fun _ => pure r) Q E s₃) E s := by
    rw [hs]
    exact wpAny_operating (wpAny_mono k.run (fun r s₃ h₃ => wpAny_bind (wpAny_letTemporaryGo (wpAny_pure h₃))) fun _ _ x => x)
  first
    | exact wpAny_pure (wpAny_bind fin)
    | exact wpAny_bind (wpAny_pure (wpAny_bind fin))
    | exact wpAny_bind fin

theorem xItem {value slice : Expr} {a : Addr} {vs : List Value} {j : Int} {t : Tok} {v : Value} {ops : List Value} (hl : h.IsList a vs.toArray) (hj : 0 ≤ j) (hx : vs[j.toNat]? = some v) (hb : vs.length ≤ 1000000) (k : Q v (St b h tk))
    (hs : subscripted slice false (.ref a) (.int j t) = operate ops (getItem (.ref a) (.int j t)) := by with_unfolding_all rfl) :
    WP (model prog w) A (subscriptTail value slice (.ref a) (.int j t)) Q E (St b h tk) := by
  have hlt : j.toNat < vs.length := (List.getElem?_eq_some_iff.mp hx).1
  exact xTail (s := St b h tk) hl.typeIs slot_list_getitem.lookup ⟨wpAny_getItem_list (s := St b h tk) hl hj (by first | assumption | exact Nat.le_trans (by assumption) (by decide) | omega) (by simpa using hx) k⟩ hs
theorem xItemNeg {value slice : Expr} {a : Addr} {vs : List Value} {j : Int} {t : Tok} {v : Value} {ops : List Value} (hl : h.IsList a vs.toArray) (hj : j < 0) (hj2 : -(vs.length : Int) ≤ j) (hx : vs[(j + vs.length).toNat]? = some v) (hb : vs.length ≤ 1000000) (k : Q v (St b h tk))
    (hs : subscripted slice false (.ref a) (.int j t) = operate ops (getItem (.ref a) (.int j t)) := by with_unfolding_all rfl) :
    WP (model prog w) A (subscriptTail value slice (.ref a) (.int j t)) Q E (St b h tk) :=
  xTail (s := St b h tk) hl.typeIs slot_list_getitem.lookup ⟨wpAny_getItem_list_neg (s := St b h tk) hl hj (by simpa using hj2) (by first | assumption | exact Nat.le_trans (by assumption) (by decide) | omega) (by simpa using hx) k⟩ hs
theorem xItemT {value slice : Expr} {a : Addr} {vs : List Value} {j : Nat} {t : Tok} {v : Value} {ops : List Value} (hl : h.IsTuple a vs.toArray) (hx : vs[j]? = some v) (hb : vs.length ≤ 1000000) (k : Q v (St b h tk))
    (hs : subscripted slice false (.ref a) (.int (j : Int) t) = operate ops (getItem (.ref a) (.int (j : Int) t)) := by with_unfolding_all rfl) :
    WP (model prog w) A (subscriptTail value slice (.ref a) (.int (j : Int) t)) Q E (St b h tk) := by
  have hlt : j < vs.length := (List.getElem?_eq_some_iff.mp hx).1
  refine xTail (s := St b h tk) (T := "tuple") hl.typeIs slot_tuple_getitem.lookup ⟨getItem_tuple (s := St b h tk) (j := j) hl (by first | assumption | exact Nat.le_trans (by assumption) (by decide) | omega) (by first | assumption | exact Nat.le_trans (by assumption) (by decide) | omega) (seqIndex_of (k := (j : Int)) (by first | assumption | exact Nat.le_trans (by assumption) (by decide) | omega) (by simpa using hlt)) (by simpa using hx) k⟩ hs

/-- l[::-1] -/
theorem eSlice {lower upper step : Option Expr} {p : Pos} (k : WP (model prog w) A (evalPart lower env) (fun l s₁ => WP (model prog w) A (evalPart upper env) (fun u s₂ => WP (model prog w) A (evalPart step env) (fun st s₃ =>
      Q (.ref s₃.heap.objs.size) { s₃ with heap := s₃.heap.push { cls := .type "slice", data := .fields #[l, u, st] } }) E s₂) E s₁) E s) : WP (model prog w) A (eval (.Slice lower upper step p) env) Q E s :=
  ⟨wpAny_Slice (wpAny_mono k.run (fun _ _ q => wpAny_mono q.run (fun _ _ q => q.run) fun _ _ e => e) fun _ _ e => e)⟩

theorem xPickI {value slice : Expr} {a sl : Addr} {items : Array Value} {vl vu vs : Value} {lo hi st : Option Int} {ops : List Value} (F : Fm w fs h₀ I₀ I env h m ms) (hl : h.IsList a items) (hs : h.IsSliceOf sl vl vu vs) (pl : IsPart vl lo) (pu : IsPart vu hi) (ps : IsPart vs st) (h0 : st ≠ some 0) (hsz : items.size ≤ 1000000)
    (k : ∀ D h' I', h.get? D = none → Fm w fs h₀ I₀ I' env h' m ms → I.StaysIn I' → I'.PlainList D (slicePick items lo hi st) → Q (.ref D) (St b h' tk))
    (hs' : subscripted slice false (.ref a) (.ref sl) = operate ops (getItem (.ref a) (.ref sl)) := by with_unfolding_all rfl) : WP (model prog w) A (subscriptTail value slice (.ref a) (.ref sl)) Q E (St b h tk) := by
  refine xTail (s := St b h tk) hl.typeIs slot_list_getitem.lookup ⟨wpAny_getItem_list_slice (s := St b h tk) hl hs pl pu ps h0 ?_ (by rw [sizeLine_eq]; omega)⟩ hs'
  have hk : ∀ b o, h.get? b = some o → (h.push { cls := .type "list", data := .seq (slicePick items lo hi st) }).get? b = some o := fun b o e => Heap.get?_push_of_some _ e
  exact k _ _ _ (get_size _) (F.frozen hk (get_size _)) (add_up (stays_trans F.stays hk)) ⟨_, add_new.trans (Heap.get?_push_size _ rfl)⟩

inductive RevR {α : Type} (w : World) (b : Shared) (fs : List Addr) (h₀ I₀ : Heap) (env : Env) (m : Str → Option Value) (ms : List (Addr × Obj)) (R : Rep α) (Q : Value → Shared → Prop) (v : Value) (s : Shared) : Prop
  | mk (h₁ : Heap) (tk₁ : Nat) (I₁ : Heap) (ds : List α) (e : s = St b h₁ tk₁) (F : Fm w fs h₀ I₀ I₁ env h₁ m ms) (l : LOf R I₁ v ds) (len : ds.length ≤ 1000000) (k : ∀ v' h' tk' I', Fm w fs h₀ I₀ I' env h' m ms → I₁.StaysIn I' → LOf R I' v' ds.reverse → Q v' (St b h' tk'))
/-- value[::-1], the value a list -/
theorem eRev {α : Type} {R : Rep α} {value st : Expr} {p pos sp : Pos} {n : Nat} (hst : st = .UnaryOp .USub (.Constant (.int 1) n sp) p) {pp : Pos} (mo : Mono R)
    (k : WP (model prog w) A (eval value env) (RevR w b fs h₀ I₀ env m ms R Q) E s) :
    WP (model prog w) A (eval (.Subscript value (.Slice none none (some st) pp) pos) env) Q E s := by
  subst hst
  refine eSub (WP.mono k fun v s₁ q => ?_)
  obtain ⟨h₁, tk₁, I₁, ds, rfl, F₁, ⟨a, vs, rfl, hl, hp⟩, hb, k⟩ := q
  refine eSlice ⟨?_⟩
  refine evalPart_none_step ⟨evalPart_none_step ⟨evalPart_some_step ?_⟩⟩
  refine UnaryOp_ (cInt fun t tk₂ => PyProof.Rows.neg_int ?_)
  have hk : ∀ b o, h₁.get? b = some o → (h₁.push { cls := .type "slice", data := .fields #[.none, .none, .int (-1) tk₂] }).get? b = some o := fun b o e => Heap.get?_push_of_some _ e
  have F₂ := F₁.keeps hk
  have hlen := hp.length
  refine xPickI (b := b) (h := h₁.push { cls := .type "slice", data := .fields #[.none, .none, .int (-1) tk₂] }) F₂ (lo := none) (hi := none) (st := some (-1)) (IsList.up hl.isList F₂.stays) (Heap.IsSliceOf.new h₁ _ _ _) .none .none (.int (-1) tk₂) (by decide) (by simpa using by omega) (fun D h' I' _ F' u' hD => ?_) (by with_unfolding_all rfl)
  refine k _ _ _ _ F' u' ⟨D, vs.reverse, rfl, ?_, Paired.reverse (mo.paired u' hp)⟩
  rw [krv_pick] at hD
  simpa using hD

theorem oCat {α : Type} {R : Rep α} {v v' : Value} {ds ds' : List α} (mo : Mono R) (F : Fm w fs h₀ I₀ I env h m ms) (x : LOf R I v ds) (y : LOf R I v' ds') (hb : ds.length + ds'.length ≤ 1000000)
    (k : ∀ D h' I', Fm w fs h₀ I₀ I' env h' m ms → I.StaysIn I' → LOf R I' (.ref D) (ds ++ ds') → Q (.ref D) (St b h' tk)) : WP (model prog w) A (binaryOp .Add v v') Q E (St b h tk) := by
  obtain ⟨a, vs, rfl, ⟨n, hl⟩, hp⟩ := x
  obtain ⟨a', vs', rfl, ⟨n', hl'⟩, hp'⟩ := y
  have n1 := hp.length
  have n2 := hp'.length
  refine ⟨P.add_list (s := St b h tk) (F.stays _ _ hl) (F.stays _ _ hl') ?_ (by rw [sizeLine_eq]; simp; omega)⟩
  have hk : ∀ b o, h.get? b = some o → (h.push { cls := .type "list", data := .seq (vs.toArray ++ vs'.toArray) }).get? b = some o := fun b o e => Heap.get?_push_of_some _ e
  have u := add_up (a := h.objs.size) (stays_trans F.stays hk)
  exact k _ _ _ (F.frozen hk (get_size _)) u ⟨_, vs ++ vs', rfl, ⟨0, add_new.trans ((Heap.get?_push_size _ rfl).trans (by simp))⟩, Paired.append (mo.paired u hp) (mo.paired u hp')⟩

theorem xLen {α : Type} {R : Rep α} {v : Value} {ds : List α} (st : I.StaysIn h) (x : LOf R I v ds) (hb : ds.length ≤ 1000000) (k : ∀ t tk', Q (.int (ds.length : Nat) t) (St b h tk')) : WP (model prog w) A (call (.builtin "len") [v]) Q E (St b h tk) := by
  obtain ⟨a, vs, rfl, hl, hp⟩ := x
  have n1 := hp.length
  have := call_len_list (prog := prog) (w := w) (A := A) (E := E) (s := St b h tk) (Q := Q) (IsList.up hl.isList st) (by first | exact Nat.le_trans (by assumption) (by decide) | (simp; omega))
  refine ⟨this ?_⟩
  have e : vs.toArray.size = ds.length := by simpa using n1
  rw [e]
  exact k _ _

theorem xRange {n : Nat} {t : Tok} (F : Fm w fs h₀ I₀ I env h m ms) (hn : n ≤ 1000000) (hh : A.handled = none) (k : ∀ r h' tk', Fm w fs h₀ I₀ I env h' m ms → (∀ I', SrcOf prog w A I' (.ref r) (St b h' tk') NatR (List.range n)) → Q (.ref r) (St b h' tk')) :
    WP (model prog w) A (call (.type "range") [.int (n : Int) t]) Q E (St b h tk) := by
  refine ⟨call_range_1 (s := St b h tk) ?_⟩
  have hk : ∀ b o, h.get? b = some o → (h.push { cls := .type "range", data := .fields #[.int 0 tk, .int (n : Int) t, .int 1 (tk + 1)] }).get? b = some o := fun b o e => Heap.get?_push_of_some _ e
  refine k h.objs.size _ _ (F.keeps hk) fun I' => ?_
  exact SrcOf.range (s₁ := St b (h.push { cls := .type "range", data := .fields #[.int 0 tk, .int (n : Int) t, .int 1 (tk + 1)] }) (tk + 1 + 1)) hh (IsRange.new h 0 n 1 tk t (tk + 1)) (small_one (by decide) (by decide) (by first | assumption | exact Nat.le_trans (by assumption) (by decide) | omega) (by first | assumption | exact Nat.le_trans (by assumption) (by decide) | omega)) (by rw [rangeSize_one]; split <;> omega)

theorem cCount {α : Type} [DecidableEq α] {R : Rep α} {H : Heap} (uq : Uniq R) {d : α} : ∀ {vs : List Value} {ds : List α}, Paired (R H) vs ds → vs.countP (fun y => @decide (R H y d) (Classical.propDecidable _)) = ds.count d
  | _, _, .nil => rfl
  | _, _, .cons (a := v) (b := d') x r => by
    have hd : @decide (R H v d) (Classical.propDecidable _) = (d' == d) := by
      by_cases q : d' = d
      · subst q; simp [x]
      · have : ¬ R H v d := fun z => q (uq _ _ _ _ x z)
        simp [q, this]
    rw [List.countP_cons, List.count_cons, cCount uq r, hd]
theorem eqAt_of {α : Type} [DecidableEq α] {R : Rep α} {u : Nat} {A : Around} {s : Shared} {d : α} {x : Value} (er : EqRep R u) (uq : Uniq R) (hu : A.units + u < cLine) (hx : R s.heap x d) {vs : List Value} {ds : List α} (hp : Paired (R s.heap) vs ds) :
    ∀ y, y ∈ vs.toArray → EqAt A s y x (@decide (R s.heap y d) (Classical.propDecidable _)) := fun y hy => by
  have hy' : y ∈ vs := by simpa using hy
  obtain ⟨i, hi, e⟩ := List.getElem_of_mem hy'
  obtain ⟨d', _, hR⟩ := Paired.get hp (i := i) (a := y) (by simp [hi, e])
  have := er A s y x d' d hu hR hx
  have hd : @decide (R s.heap y d) (Classical.propDecidable _) = decide (d' = d) := by
    by_cases q : d' = d
    · subst q; simp [hR]
    · have : ¬ R s.heap y d := fun z => q (uq _ _ _ _ hR z)
      simp [q, this]
  rw [hd]; exact this

theorem xCount {α : Type} [DecidableEq α] {R : Rep α} {u : Nat} {v x : Value} {ds : List α} {d : α} (er : EqRep R u) (uq : Uniq R) (mo : Mono R) (st : I.StaysIn h) (hu : A.units + (u + 2) < cLine) (l : LOf R I v ds) (hx : R I x d) (k : ∀ t tk', Q (.int (ds.count d : Nat) t) (St b h tk')) :
    WP (model prog w) A (call (.builtin "list.count") [v, x]) Q E (St b h tk) := by
  obtain ⟨a, vs, rfl, ⟨n, hl⟩, hp⟩ := l
  have hl' := st _ _ hl
  have hp' := mo.paired st hp
  refine ⟨call_meets (s := St b h tk) PySem.F.slot_list_count ⟨_, hl', rfl⟩ PySem.F.entry_list_count (PySem.F.args_list_count_2 _ _)
    (list_countAt a vs.toArray n none #[] x (fun y => @decide (R h y d) (Classical.propDecidable _))) ⟨hl', eqAt_of (s := St b h tk) (A := A.in1) er uq (by show A.units + 1 + u < _; omega) (mo _ _ _ _ st hx) hp', ?_⟩⟩
  have e := cCount (R := R) (H := h) (d := d) uq hp'
  show Q (.int ((vs.countP _ : Nat) : Int) tk) _
  rw [e]
  exact k _ _
end
end Mine

namespace Mine
section
variable {prog : Program} {w : World} {A : Around} {E : Value → Shared → Prop} {b : Shared} {I h : Heap} {tk : Nat} {Q : Value → Shared → Prop}

theorem thing_ok {k : Nat} {t : Tok} (W : Wd w I) (st : I.StaysIn h) (r : Rm A 1 10) (hk : k < 5)
    (K : ∀ v h' tk' I', Done [] h I h' I' → Th I' v k → Q v (St b h' tk')) :
    WP (model prog w) A (call (.ref 168) [.int (k : Int) t]) Q E (St b h tk) := by
  refine wEnter 168 [("k", .int (k : Int) t)] [] W st r.room (fun _ q => nomatch q) (fun L h₁ tk₁ F C => ?_)
  have hm : ((k : Int).fmod 2 != 0) = decide (k % 2 = 1) := by
    have e : (k : Int).fmod 2 = ((k % 2 : Nat) : Int) := by rw [Int.fmod_eq_emod_of_nonneg _ (by decide)]; omega
    rw [e]
    rcases Nat.mod_two_eq_zero_or_one k with q | q <;> rw [q] <;> rfl
  refine sCons (sRet (eIf (tPlain (eBin (eName F rfl (eInt fun _ _ => oMod (by decide) fun _ _ => vInt ?_))))))
  rw [hm]
  by_cases hp : k % 2 = 1
  · refine iteT (by simpa using hp) ?_
    refine eDict1 F fun a h₂ tk₂ ha F₂ => ?_
    refine eList (aCons (eName F₂ rfl (aNil (xListI F₂ fun l h₃ I₃ _ _ F₃ u₃ l₃ => ⟨h₃, _, I₃, rfl, F₃, fun h₄ tk₄ I₄ o hs t' n' F₄ u₄ e1 e2 e3 => ?_⟩))))
    exact ⟨_, rfl, K _ _ _ _ F₄.done ⟨hk, a, rfl, ha, .inl ⟨hp, o, hs, t', l, n', t, e1, e2, e3, IsList.up l₃.isList u₄⟩⟩⟩
  · refine iteF (by simpa using hp) ?_
    refine eList (aCons (eName F rfl (aCons (eList (aNil (xListI F fun a h₂ I₂ _ _ F₂ u₂ l₂ => aNil ?_))))))
    refine xListI F₂ fun a' h₃ I₃ _ hsys F₃ u₃ l₃ => ?_
    exact ⟨_, rfl, K _ _ _ _ F₃.done ⟨hk, a', rfl, hsys, .inr ⟨by first | assumption | exact Nat.le_trans (by assumption) (by decide) | omega, t, a, l₃.isList, IsList.up l₂.isList u₃⟩⟩⟩
end
end Mine

namespace Mine

def cnt (n k : Nat) : Nat := n / 3 ^ k % 3
def ordr (n : Nat) : List Nat := (List.range 5).map fun k => (n / 243 + k) % 5
def bag0 (n : Nat) : List Nat := (ordr n).filter (fun k => decide (0 < cnt n k)) ++ (ordr n).filter (fun k => cnt n k == 2)
def bagOf (n : Nat) : List Nat := if n / 1215 % 2 = 1 then (bag0 n).reverse else bag0 n

theorem fdiv_nat (a b : Nat) : (a : Int).fdiv (b : Int) = ((a / b : Nat) : Int) := by rw [Int.fdiv_eq_ediv_of_nonneg _ (by first | assumption | exact Nat.le_trans (by assumption) (by decide) | omega)]; rfl
theorem fmod_nat (a b : Nat) : (a : Int).fmod (b : Int) = ((a % b : Nat) : Int) := by rw [Int.fmod_eq_emod_of_nonneg _ (by first | assumption | exact Nat.le_trans (by assumption) (by decide) | omega)]; rfl

section
variable {prog : Program} {w : World} {A : Around} {E : Value → Shared → Prop} {b : Shared} {I h : Heap} {tk : Nat} {Q : Value → Shared → Prop}

theorem xIt {α : Type} {R : Rep α} {value slice : Expr} {v : Value} {ds : List α} {j : Nat} {t : Tok} {d : α} {ops : List Value} (st : I.StaysIn h) (l : LOf R I v ds) (hd : ds[j]? = some d) (hb : ds.length ≤ 1000000) (k : ∀ y, R I y d → Q y (St b h tk))
    (hs : subscripted slice false v (.int (j : Int) t) = operate ops (getItem v (.int (j : Int) t)) := by with_unfolding_all rfl) :
    WP (model prog w) A (subscriptTail value slice v (.int (j : Int) t)) Q E (St b h tk) := by
  obtain ⟨a, vs, rfl, hl, hp⟩ := l
  obtain ⟨y, hy, hR⟩ := Paired.get' hp hd
  exact xItem (IsList.up hl.isList st) (by first | assumption | exact Nat.le_trans (by assumption) (by decide) | omega) (by simpa using hy) (by rw [hp.length]; exact hb) (k y hR) hs

theorem bag_ok {n : Nat} {t : Tok} (W : Wd w I) (st : I.StaysIn h) (r : Rm A 2 20) (hn : n < 2430)
    (K : ∀ v h' tk' I', Done [] h I h' I' → LOf Th I' v (bagOf n) → Q v (St b h' tk')) :
    WP (model prog w) A (call (.ref 173) [.int (n : Int) t]) Q E (St b h tk) := by
  refine wEnter 173 [("n", .int (n : Int) t)] [] W st r.room (fun _ q => nomatch q) (fun L h₁ tk₁ F C => ?_)
  have r' := Rm.deeper (d := 1) (u := 17) r (envAt w 173 L)
  -- counts
  refine sCons (sAssign (eComp0 (List.range 5) (cnt n) NatR NatR NatR.mono NatR.mono [] (fun _ q => nomatch q) (by decide) (eCallT "range" F (aCons (eInt fun _ _ => aNil (xRange (n := 5) F (by decide) r'.handled fun rr h₂ tk₂ F₂ src =>
    ⟨h₂, tk₂, I, rfl, F₂, fun _ q => (nomatch q), src _, ?_, ?_⟩))))))
  · intro k hk v C' I' h' tk' E' ms' hv _ F'
    obtain ⟨t', rfl⟩ := hv
    have hk5 : k < 5 := by simpa using hk
    have e1 : (3 : Int) ^ (k : Int).toNat = ((3 ^ k : Nat) : Int) := by rw [Int.toNat_natCast]; push_cast; rfl
    have b1 : 3 ^ k < 1073741824 := Nat.lt_of_lt_of_le (Nat.pow_lt_pow_right (by decide) hk5) (by decide)
    have b2 : 0 < 3 ^ k := Nat.pos_of_ne_zero (by simp)
    refine eBin (eBin (eName F' rfl (eBin (eInt fun _ _ => eName F' rfl (oPow (by first | assumption | exact Nat.le_trans (by assumption) (by decide) | omega) (by first | assumption | exact Nat.le_trans (by assumption) (by decide) | omega) (by decide) fun _ _ => ?_)))))
    rw [e1]
    refine oDiv (by first | assumption | exact Nat.le_trans (by assumption) (by decide) | omega) (by rw [Int.natAbs_natCast]; exact b1) fun _ _ => eInt fun _ _ => oMod (by decide) fun t₃ tk₃ => ⟨h', tk₃, I', rfl, F', stays_refl _, t₃, ?_⟩
    rw [fdiv_nat]
    exact congrArg (Value.int · t₃) (fmod_nat _ 3)
  intro cs h₃ tk₃ I₃ F₃ u₃ hcs
  refine xSt F₃ C fun h₄ tk₄ F₄ => ?_
  -- order
  refine sCons (sComp0 C (List.range 5) (fun k => (n / 243 + k) % 5) NatR NatR NatR.mono NatR.mono [] (fun _ q => nomatch q) (by decide) (eCallT "range" F₄ (aCons (eInt fun _ _ => aNil (xRange (n := 5) F₄ (by decide) r'.handled fun rr h₅ tk₅ F₅ src =>
    ⟨h₅, tk₅, I₃, rfl, F₅, fun _ q => (nomatch q), src _, ?_, ?_⟩)))))
  · intro k hk v C' I' h' tk' E' ms' hv _ F'
    obtain ⟨t', rfl⟩ := hv
    have hk5 : k < 5 := by simpa using hk
    refine eBin (eBin (eBin (eName F' rfl (eInt fun _ _ => oDiv (by decide) (by decide) fun _ _ => eName F' rfl (oAdd fun _ _ => eInt fun _ _ => oMod (by decide) fun t₃ tk₃ => ⟨h', tk₃, I', rfl, F', stays_refl _, t₃, ?_⟩)))))
    have e2 : (n : Int).fdiv 243 + (k : Int) = ((n / 243 + k : Nat) : Int) := by rw [show (n : Int).fdiv 243 = _ from fdiv_nat n 243]; push_cast; rfl
    rw [e2]
    exact congrArg (Value.int · t₃) (fmod_nat _ 5)
  intro os h₆ tk₆ I₆ F₆ u₆ hos
  have hcs₆ := LOf.mono NatR.mono _ _ _ _ u₆ hcs
  have ho5 : ∀ k ∈ ordr n, k < 5 := by
    intro k hk
    simp only [ordr, List.mem_map] at hk
    obtain ⟨j, _, rfl⟩ := hk
    exact Nat.mod_lt _ (by decide)
  -- bag
  refine sCons (sAssign (eBin (eComp1 (ordr n) (fun k => decide (0 < cnt n k)) (fun k => k) NatR Th NatR.mono Th.mono [] (fun _ q => nomatch q) (by simp [ordr]) (eName F₆ rfl
    ⟨h₆, tk₆, I₆, rfl, F₆, fun _ q => (nomatch q), SrcOf.list r'.handled F₆.stays hos, ?_, ?_⟩))))
  · intro k hk v C' I' h' tk' E' ms' hv u' F'
    obtain ⟨t', rfl⟩ := hv
    refine tCmp (eSub (eName F' rfl (eName F' rfl ?_)))
    refine xIt (d := cnt n k) F'.stays (LOf.mono NatR.mono _ _ _ _ u' hcs₆) (by simp [ho5 k hk]) (by simp) fun y hy => ?_
    obtain ⟨ty, rfl⟩ := hy
    refine eInt fun _ tk₇ => qGt (vBool ⟨by simp, h', tk₇, I', rfl, F', stays_refl _, fun _ => ?_⟩)
    exact eCallG 168 F' (aCons (eName F' rfl (aNil ⟨F'.fn _, thing_ok F'.wd F'.stays r'.mono (ho5 k hk) fun v h₈ tk₈ I₈ D hv => ⟨h₈, tk₈, I₈, rfl, F'.aft D, D.ext.1, hv⟩⟩)))
  intro b1 h₇ tk₇ I₇ F₇ u₇ hb1
  have hos₇ := LOf.mono NatR.mono _ _ _ _ u₇ hos
  have hcs₇ := LOf.mono NatR.mono _ _ _ _ u₇ hcs₆
  refine eComp1 (ordr n) (fun k => cnt n k == 2) (fun k => k) NatR Th NatR.mono Th.mono [] (fun _ q => nomatch q) (by simp [ordr]) (eName F₇ rfl
    ⟨h₇, tk₇, I₇, rfl, F₇, fun _ q => (nomatch q), SrcOf.list r'.handled F₇.stays hos₇, ?_, ?_⟩)
  · intro k hk v C' I' h' tk' E' ms' hv u' F'
    obtain ⟨t', rfl⟩ := hv
    refine tCmp (eSub (eName F' rfl (eName F' rfl ?_)))
    refine xIt (d := cnt n k) F'.stays (LOf.mono NatR.mono _ _ _ _ u' hcs₇) (by simp [ho5 k hk]) (by simp) fun y hy => ?_
    obtain ⟨ty, rfl⟩ := hy
    refine eInt fun _ tk₇ => qEq (vBool ⟨?_, h', tk₇, I', rfl, F', stays_refl _, fun _ => ?_⟩)
    · show (((cnt n k : Nat) : Int) == 2) = (cnt n k == 2)
      rw [Bool.eq_iff_iff]; simp; omega
    exact eCallG 168 F' (aCons (eName F' rfl (aNil ⟨F'.fn _, thing_ok F'.wd F'.stays r'.mono (ho5 k hk) fun v h₈ tk₈ I₈ D hv => ⟨h₈, tk₈, I₈, rfl, F'.aft D, D.ext.1, hv⟩⟩)))
  intro b2 h₈ tk₈ I₈ F₈ u₈ hb2
  have fl : ∀ p : Nat → Bool, ((ordr n).filter p).length ≤ 5 := fun p => Nat.le_trans (List.length_filter_le _ _) (by simp [ordr])
  rw [List.map_id'] at hb1 hb2
  have hbl : (bag0 n).length ≤ 10 := by
    have a := fl (fun k => decide (0 < cnt n k))
    have b := fl (fun k => cnt n k == 2)
    rw [bag0, List.length_append]; omega
  refine oCat Th.mono F₈ (LOf.mono Th.mono _ _ _ _ u₈ hb1) hb2 (by have := hbl; rw [bag0, List.length_append] at this; omega) fun D h₉ I₉ F₉ u₉ hD => ?_
  refine xSt F₉ C fun h₁₀ tk₁₀ F₁₀ => ?_
  refine sCons (sRet (eIf (tPlain (eBin (eBin (eName F₁₀ rfl (eInt fun _ _ => oDiv (by decide) (by decide) fun _ _ => eInt fun _ _ => oMod (by decide) fun _ _ => vInt ?_)))))))
  have e2 : (((n : Int).fdiv 1215).fmod 2 != 0) = decide (n / 1215 % 2 = 1) := by
    rw [show (n : Int).fdiv 1215 = _ from fdiv_nat n 1215, show Int.fmod _ 2 = _ from fmod_nat _ 2]
    rcases Nat.mod_two_eq_zero_or_one (n / 1215) with q | q <;> rw [q] <;> rfl
  rw [e2]
  by_cases hp : n / 1215 % 2 = 1
  · refine iteT (by simpa using hp) ?_
    refine eRev rfl Th.mono (eName F₁₀ rfl ⟨_, _, I₉, bag0 n, rfl, F₁₀, hD, by first | assumption | exact Nat.le_trans (by assumption) (by decide) | omega, fun v' h' tk' I' F' u' hv' => ⟨_, rfl, K _ _ _ _ F'.done ?_⟩⟩)
    rw [bagOf, if_pos hp]; exact hv'
  · refine iteF (by simpa using hp) ?_
    refine eName F₁₀ rfl ⟨_, rfl, K _ _ _ _ F₁₀.done ?_⟩
    rw [bagOf, if_neg hp]; exact hD
end
end Mine

namespace Mine
open MeetsSeq MeetsSeq2 MeetsSeq3 SeqRoads2

theorem remove_loopAt (l : Addr) (items : Array Value) (n : Nat) (x : Value) (e : Value → Bool) (j : Nat) (hj : j < items.size) (hit : e items[j] = true) (k : Nat) (hs1 : items.size ≤ sizeLine) :
    ∀ i : Nat, j - i = k → i ≤ j → (∀ m (hm : m < items.size), i ≤ m → m < j → e items[m] = false) → Meets (Builtin.«list.remove.loop» ⟨[.ref l, x, rawInt i], []⟩)
      (fun A R s => s.heap.get? l = some { cls := .type "list", dict := none, data := .seq items n, slots := #[] } ∧ (∀ y, y ∈ items → EqAt A.in1 s y x (e y)) ∧ R (.ok (.ret .none)) { s with heap := s.heap.update l (Obj.mapSeq fun xs => xs.eraseIdxIfInBounds j) }) := by
  induction k with
  | zero =>
    intro i hk hij hno prog w A R s h
    obtain ⟨hp, g, d, tk, os⟩ := s; obtain ⟨hl, he, h⟩ := h
    have hij' : i = j := by omega
    subst hij'
    wp_walk using wpAny_loadPart' hl
    have hi : items[((i : Nat) : Int).toNat]? = some items[i] := by simp [hj]
    rw [hi]
    refine wpAny_bind (he _ (Array.getElem_mem hj) prog w _ _ ?_)
    rw [hit]
    have hz' : (items.eraseIdxIfInBounds i).size ≤ sizeLine + 1 := Nat.le_trans (size_erased items _) (Nat.le_succ_of_le hs1)
    wp_walk using (wpAny_updateSeq hl rfl (hz := hs1) (_hz' := hz')), wpAny_loadPart' hl
    simpa using h
  | succ k ih =>
    intro i hk hij hno prog w A R s h
    obtain ⟨hp, g, d, tk, os⟩ := s; obtain ⟨hl, he, h⟩ := h
    have hlt : i < items.size := by omega
    wp_walk using wpAny_loadPart' hl
    have hi : items[((i : Nat) : Int).toNat]? = some items[i] := by simp [hlt]
    have hc : ((i : Int) + 1) = ((i + 1 : Nat) : Int) := by push_cast; rfl
    rw [hi]
    refine wpAny_bind (he _ (Array.getElem_mem hlt) prog w _ _ ?_)
    rw [hno i hlt (Nat.le_refl _) (by first | assumption | exact Nat.le_trans (by assumption) (by decide) | omega)]
    wp_walk
    rw [hc]
    exact ⟨plainId_quiet plain_remove_loop _, codeAny_builtin entry_remove_loop (by
      rw [Around.under_plainId plain_remove_loop _]
      exact ih (i + 1) (by first | assumption | exact Nat.le_trans (by assumption) (by decide) | omega) (by first | assumption | exact Nat.le_trans (by assumption) (by decide) | omega) (fun m hm h1 h2 => hno m hm (by first | assumption | exact Nat.le_trans (by assumption) (by decide) | omega) h2) prog w A R _ ⟨hl, he, h⟩)⟩

theorem list_removeAt (l : Addr) (items : Array Value) (n : Nat) (x : Value) (e : Value → Bool) (j : Nat) (hj : j < items.size)
    (hit : e items[j] = true) (hno : ∀ m (hm : m < items.size), m < j → e items[m] = false) (hs1 : items.size ≤ sizeLine) :
    Meets (Builtin.«list.remove» ⟨[.ref l, x], []⟩)
      (fun A R s => s.heap.get? l = some { cls := .type "list", dict := none, data := .seq items n, slots := #[] } ∧ (∀ y, y ∈ items → EqAt A.in1 s y x (e y)) ∧ R (.ok (.ret .none)) { s with heap := s.heap.update l (Obj.mapSeq fun xs => xs.eraseIdxIfInBounds j) }) := by
  intro prog w A R s h
  obtain ⟨hp, g, d, tk, os⟩ := s; obtain ⟨hl, he, h⟩ := h
  wp_walk using wpAny_loadPart' hl
  exact ⟨plainId_quiet plain_remove_loop _, codeAny_builtin entry_remove_loop (by
    rw [Around.under_plainId plain_remove_loop _]
    exact remove_loopAt l items n x e j hj hit _ hs1 0 rfl (Nat.zero_le _) (fun m hm _ h2 => hno m hm h2) prog w A R _ ⟨hl, he, h⟩)⟩

theorem remove_loop_noneAt (l : Addr) (items : Array Value) (n : Nat) (x : Value) (k : Nat) :
    ∀ i : Nat, items.size - i = k → Meets (Builtin.«list.remove.loop» ⟨[.ref l, x, rawInt i], []⟩)
      (fun A R s => s.heap.get? l = some { cls := .type "list", dict := none, data := .seq items n, slots := #[] } ∧ (∀ y, y ∈ items → EqAt A.in1 s y x false) ∧ raisesNew "ValueError" A R s) := by
  induction k with
  | zero =>
    intro i hk prog w A R s h
    obtain ⟨hp, g, d, tk, os⟩ := s; obtain ⟨hl, _, h⟩ := h
    wp_walk using wpAny_loadPart' hl
    have hi : items[((i : Nat) : Int).toNat]? = none := by simp; omega
    rw [hi]
    wp_walk
    exact_raiseError plainExc_ValueError h.1 h.2
  | succ k ih =>
    intro i hk prog w A R s h
    obtain ⟨hp, g, d, tk, os⟩ := s; obtain ⟨hl, he, h⟩ := h
    have hlt : i < items.size := by omega
    wp_walk using wpAny_loadPart' hl
    have hi : items[((i : Nat) : Int).toNat]? = some items[i] := by simp [hlt]
    have hc : ((i : Int) + 1) = ((i + 1 : Nat) : Int) := by push_cast; rfl
    rw [hi]
    refine wpAny_bind (he _ (Array.getElem_mem hlt) prog w _ _ ?_)
    wp_walk
    rw [hc]
    exact ⟨plainId_quiet plain_remove_loop _, codeAny_builtin entry_remove_loop (by
      rw [Around.under_plainId plain_remove_loop _]
      exact ih (i + 1) (by first | assumption | exact Nat.le_trans (by assumption) (by decide) | omega) prog w A R _ ⟨hl, he, h⟩)⟩

theorem list_remove_noneAt (l : Addr) (items : Array Value) (n : Nat) (x : Value) :
    Meets (Builtin.«list.remove» ⟨[.ref l, x], []⟩)
      (fun A R s => s.heap.get? l = some { cls := .type "list", dict := none, data := .seq items n, slots := #[] } ∧ (∀ y, y ∈ items → EqAt A.in1 s y x false) ∧ raisesNew "ValueError" A R s) := by
  intro prog w A R s h
  obtain ⟨hp, g, d, tk, os⟩ := s; obtain ⟨hl, he, h⟩ := h
  wp_walk using wpAny_loadPart' hl
  exact ⟨plainId_quiet plain_remove_loop _, codeAny_builtin entry_remove_loop (by
    rw [Around.under_plainId plain_remove_loop _]
    exact remove_loop_noneAt l items n x _ 0 rfl prog w A R _ ⟨hl, he, h⟩)⟩
end Mine

namespace Mine

abbrev lobj (vs : List Value) (n : Nat) : Obj := { cls := .type "list", data := .seq vs.toArray n }
def setM (ms : List (Addr × Obj)) (a : Addr) (o : Obj) : List (Addr × Obj) := ms.map fun p => if p.1 = a then (a, o) else p

section
variable {prog : Program} {w : World} {A : Around} {E : Value → Shared → Prop} {s b : Shared} {env : Env} {fs : List Addr} {h₀ I₀ I h h' : Heap} {m : Str → Option Value} {ms : List (Addr × Obj)} {tk : Nat} {Q : Value → Shared → Prop}

theorem Fm.turnM {a : Addr} {o o' : Obj} (F : Fm w fs h₀ I₀ I env h m ms) (ha : (a, o) ∈ ms) (hs : Heap.SameBut a h h') (ho : h'.get? a = some o') : Fm w fs h₀ I₀ I env h' m (setM ms a o') :=
  F.turn ha hs ho fun p hp => by
    obtain ⟨q, hq, e⟩ := List.mem_map.mp hp
    by_cases z : q.1 = a
    · rw [if_pos z] at e; exact .inl e.symm
    · rw [if_neg z] at e; subst e; exact .inr ⟨hq, z⟩

theorem setM_n {a : Addr} {o : Obj} : setM [] a o = [] := rfl
theorem setM_t {p : Addr × Obj} {l l' : List (Addr × Obj)} {a : Addr} {o : Obj} (h : p.1 ≠ a) (k : setM l a o = l') : setM (p :: l) a o = p :: l' := by
  rw [← k]; exact congrArg (· :: _) (if_neg h)
theorem setM_h {o₀ : Obj} {l l' : List (Addr × Obj)} {a : Addr} {o : Obj} (k : setM l a o = l') : setM ((a, o₀) :: l) a o = (a, o) :: l' := by
  rw [← k]; exact congrArg (· :: _) (if_pos rfl)
theorem adr_all {P : Addr → Prop} {l l' : List (Addr × Obj)} (h : ∀ p ∈ l, P p.1) (e : l'.map (·.1) = l.map (·.1)) : ∀ p ∈ l', P p.1 := fun p hp => by
  have : p.1 ∈ l.map (·.1) := e ▸ List.mem_map_of_mem hp
  obtain ⟨q, hq, z⟩ := List.mem_map.mp this
  exact z ▸ h q hq

theorem xAppend {a : Addr} {vs : List Value} {n : Nat} {x : Value} (F : Fm w fs h₀ I₀ I env h m ms) (ha : (a, lobj vs n) ∈ ms) (hb : vs.length ≤ 1000000)
    (k : ∀ h', Fm w fs h₀ I₀ I env h' m (setM ms a (lobj (vs ++ [x]) (n + 1))) → Q .none (St b h' tk)) : WP (model prog w) A (call (.builtin "list.append") [.ref a, x]) Q E (St b h tk) := by
  have ho := (F.made _ ha).1
  refine ⟨wpAny_call_entry (s := St b h tk) PySem.F.slot_list_append ⟨_, ho, rfl⟩ PySem.F.entry_list_append ?_ (PySem.F.args_list_append_2 _ _)⟩
  show wpAny _ _ (updateSeq a (·.push x) >>= fun _ => ret .none) _ _ _
  refine wpAny_bind (wpAny_updateSeq (s := St b h tk) ho rfl (wpAny_pure ⟨.none, rfl, ?_⟩) (hz := by rw [List.size_toArray, sizeLine_eq]; omega))
  refine k _ (F.turnM ha (Heap.SameBut.update ..) ?_)
  show (h.update a _).get? a = _
  have e : Obj.mapSeq (·.push x) (lobj vs n) = lobj (vs ++ [x]) (n + 1) := by simp [Obj.mapSeq]
  rw [Heap.get?_update_self _ ho (by rw [e]; rfl), e]

theorem xPop {a : Addr} {vs : List Value} {n : Nat} {y : Value} (F : Fm w fs h₀ I₀ I env h m ms) (ha : (a, lobj (vs ++ [y]) n) ∈ ms) (hb : vs.length < 1000000)
    (k : ∀ h', Fm w fs h₀ I₀ I env h' m (setM ms a (lobj vs (n + 1))) → Q y (St b h' tk)) : WP (model prog w) A (call (.builtin "list.pop") [.ref a]) Q E (St b h tk) := by
  have ho := (F.made _ ha).1
  refine ⟨call_meets (s := St b h tk) PySem.F.slot_list_pop ⟨_, ho, rfl⟩ PySem.F.entry_list_pop (PySem.F.args_list_pop_1 _)
    (MeetsSeq.list_pop_last a (vs ++ [y]).toArray n y (by simp) (by rw [List.size_toArray, sizeLine_eq]; simp; omega)) ⟨ho, ?_⟩⟩
  refine k _ (F.turnM ha (Heap.SameBut.update ..) ?_)
  have e : Obj.mapSeq (fun xs => xs.eraseIdxIfInBounds ((vs ++ [y]).toArray.size - 1)) (lobj (vs ++ [y]) n) = lobj vs (n + 1) := by
    have e0 : (vs ++ [y]).eraseIdx vs.length = vs := by
      rw [List.eraseIdx_append_of_length_le (Nat.le_refl _)]; simp
    simp [Obj.mapSeq, Array.eraseIdxIfInBounds, e0]
  show (h.update a _).get? a = _
  rw [Heap.get?_update_self _ ho (by rw [e]; rfl), e]

theorem xRemHit {a : Addr} {vs : List Value} {n : Nat} {x : Value} {α : Type} [DecidableEq α] {R : Rep α} {u : Nat} {d : α} {ds : List α} (er : EqRep R u) (uq : Uniq R) (mo : Mono R) (F : Fm w fs h₀ I₀ I env h m ms) (ha : (a, lobj vs n) ∈ ms) (hu : A.units + (u + 2) < cLine)
    (hp : Paired (R I) vs ds) (hx : R I x d) (hd : d ∈ ds) (hb : vs.length ≤ 1000000)
    (k : ∀ h' vs' n', Paired (R I) vs' (ds.erase d) → Fm w fs h₀ I₀ I env h' m (setM ms a (lobj vs' n')) → Q .none (St b h' tk)) : WP (model prog w) A (call (.builtin "list.remove") [.ref a, x]) Q E (St b h tk) := by
  have ho := (F.made _ ha).1
  have hp' := mo.paired F.stays hp
  have hx' := mo _ _ _ _ F.stays hx
  have key : ∀ {vs : List Value} {ds : List α}, Paired (R I) vs ds → d ∈ ds → ∃ j, ∃ hj : j < vs.length, R I vs[j] d ∧ (∀ i (hi : i < vs.length), i < j → ¬ R I vs[i] d) ∧ Paired (R I) (vs.eraseIdx j) (ds.erase d) := by
    intro vs ds hp
    induction hp with
    | nil => intro h; simp at h
    | @cons v c r rs hv _ ih =>
      intro h
      by_cases q : c = d
      · subst q
        exact ⟨0, by simp, hv, fun i _ hi => absurd hi (by first | assumption | exact Nat.le_trans (by assumption) (by decide) | omega), by simpa using ‹Paired _ _ _›⟩
      · have : d ∈ rs := by
          rcases List.mem_cons.mp h with e | e
          · exact absurd e.symm q
          · exact e
        obtain ⟨j, hj, h1, h2, h3⟩ := ih this
        refine ⟨j + 1, by simpa using hj, by simpa using h1, fun i hi hij => ?_, ?_⟩
        · cases i with
          | zero => exact fun z => q (uq _ _ _ _ hv z)
          | succ i => simpa using h2 i (by simpa using hi) (by first | assumption | exact Nat.le_trans (by assumption) (by decide) | omega)
        · rw [List.eraseIdx_cons_succ, List.erase_cons_tail (by simpa using q)]
          exact .cons hv h3
  obtain ⟨j, hj, h1, h2, h3⟩ := key hp hd
  refine ⟨call_meets (s := St b h tk) PySem.F.slot_list_remove ⟨_, ho, rfl⟩ PySem.F.entry_list_remove (PySem.F.args_list_remove_2 _ _)
    (list_removeAt a vs.toArray n x (fun y => @decide (R h y d) (Classical.propDecidable _)) j (by simpa using hj) ?_ ?_ (by rw [List.size_toArray, sizeLine_eq]; omega)) ⟨ho, eqAt_of (s := St b h tk) (A := A.in1) er uq (by show A.units + 1 + u < _; omega) hx' hp', ?_⟩⟩
  · simpa using mo _ _ _ _ F.stays h1
  · intro i hi hij
    have hi' : i < vs.length := by simpa using hi
    have := h2 i hi' hij
    obtain ⟨d', e', hR⟩ := Paired.get hp (i := i) (a := vs[i]) (by simp [hi'])
    have hne : d' ≠ d := fun z => this (z ▸ hR)
    have : ¬ R h vs[i] d := fun z => hne (uq _ _ _ _ (mo _ _ _ _ F.stays hR) z)
    simpa using this
  · have e : Obj.mapSeq (fun xs => xs.eraseIdxIfInBounds j) (lobj vs n) = lobj (vs.eraseIdx j) (if (vs.eraseIdx j).toArray.size == vs.toArray.size then n else n + 1) := by
      simp [Obj.mapSeq, Array.eraseIdxIfInBounds, hj]
    refine k _ _ (if (vs.eraseIdx j).toArray.size == vs.toArray.size then n else n + 1) h3 (F.turnM ha (Heap.SameBut.update ..) ?_)
    show (h.update a _).get? a = _
    rw [Heap.get?_update_self _ ho (by rw [e]; rfl), e]

theorem xRemMiss {a : Addr} {vs : List Value} {n : Nat} {x : Value} {α : Type} [DecidableEq α] {R : Rep α} {u : Nat} {d : α} {ds : List α} (er : EqRep R u) (uq : Uniq R) (mo : Mono R) (F : Fm w fs h₀ I₀ I env h m ms) (ha : (a, lobj vs n) ∈ ms) (hu : A.units + (u + 2) < cLine) (hh : A.handled = none)
    (hp : Paired (R I) vs ds) (hx : R I x d) (hd : d ∉ ds)
    (k : ∀ h' tk' e, Heap.NewExc h h' e "ValueError" → E (.ref e) (St b h' tk')) : WP (model prog w) A (call (.builtin "list.remove") [.ref a, x]) Q E (St b h tk) := by
  have ho := (F.made _ ha).1
  have hp' := mo.paired F.stays hp
  have hx' := mo _ _ _ _ F.stays hx
  refine ⟨call_meets (s := St b h tk) PySem.F.slot_list_remove ⟨_, ho, rfl⟩ PySem.F.entry_list_remove (PySem.F.args_list_remove_2 _ _) (list_remove_noneAt a vs.toArray n x) ⟨ho, fun y hy => ?_, hh, fun h' tk' e x => k h' tk' e x⟩⟩
  have := eqAt_of (s := St b h tk) (A := A.in1) er uq (by show A.units + 1 + u < _; omega) hx' hp' y hy
  have hy' : y ∈ vs := by simpa using hy
  obtain ⟨i, hi, e⟩ := List.getElem_of_mem hy'
  obtain ⟨d', hd', hR⟩ := Paired.get hp (i := i) (a := y) (by simp [hi, e])
  have hne : d' ≠ d := fun z => hd (z ▸ List.mem_of_getElem? hd')
  have : ¬ R h y d := fun z => hne (uq _ _ _ _ (mo _ _ _ _ F.stays hR) z)
  have ef : @decide (R h y d) (Classical.propDecidable _) = false := by simpa using this
  show EqAt _ _ y x false
  rw [← ef]; assumption

theorem sWhile {test : Expr} {body : List Stmt} {pos : Pos} {Q : Flow → Shared → Prop} (Inv : Nat → Shared → Prop)
    (turn : ∀ n s E', Inv n s → WP (model prog w) A (isTrue test env (eval test env)) (fun c s₂ => if c then WP (model prog w) A (execs body env) (LoopQ Q (Less n Inv)) E' s₂ else Q .next s₂) E' s) (n : Nat) (h : Inv n s) : WP (model prog w) A (exec (.While test body [] pos) env) Q E s := by
  refine ⟨wpAny_While (codeAny_whileLoop Inv (fun n s hi => wpAny_mono (turn n s _ hi).run (fun c s₂ q => ?_) fun _ _ e => e) n h)⟩
  cases c with
  | true =>
    refine wpAny_mono (WP.run q) (fun f s₃ q => ?_) fun _ _ e => e
    have go : Less n Inv s₃ → ∃ m, m < n ∧ Inv m s₃ := fun ⟨m, a, b⟩ => ⟨m, a, b⟩
    cases f with
    | next => exact go q
    | cont => exact go q
    | brk => exact q
    | ret v => exact q
  | false => exact wpAny_execs_nil q

theorem vListM {a : Addr} {vs : List Value} {n : Nat} {Q : Bool → Shared → Prop} (hl : h.get? a = some (lobj vs n)) (hb : vs.length ≤ 1000000) (k : ∀ tk', Q (!vs.isEmpty) (St b h tk')) : WP (model prog w) A (truthy (.ref a)) Q E (St b h tk) := by
  refine ⟨wpAny_truthy_list (s := St b h tk) (items := vs.toArray) ⟨_, hl, rfl, _, rfl⟩ (by first | exact Nat.le_trans (by assumption) (by decide) | (simp; omega)) ?_⟩
  rw [List.isEmpty_toArray]
  exact k _
end

/-! ## the stack, and a raise -/
structure Stk (A : Around) (fs : List Addr) (h I : Heap) : Prop where
  ex : ∃ outer, A.frames = some outer ∧ ∀ env ∈ outer, env.scope.kind ≠ .module ∧ ∃ L, env.frame = some L ∧ L ∈ fs
  dic : ∀ f ∈ fs, ∃ o es n, h.get? f = some o ∧ o.data = .dict es n
  hid : ∀ f ∈ fs, I.get? f = none
theorem Stk.done {A : Around} {fs : List Addr} {h I h' I' : Heap} (S : Stk A fs h I) (D : Done fs h I h' I') : Stk A fs h' I' where
  ex := S.ex
  dic := fun f hf => by
    obtain ⟨o, es, n, e, hd⟩ := S.dic f hf
    obtain ⟨sl, e'⟩ := (D.keep f o e).2
    exact ⟨_, es, n, e', hd⟩
  hid := fun f hf => by
    obtain ⟨o, es, n, e, hd⟩ := S.dic f hf
    exact D.ext.2 f o e (S.hid f hf)
theorem Stk.push {A : Around} {w : World} {fs : List Addr} {h₀ I₀ I h : Heap} {env : Env} {m : Str → Option Value} {ms : List (Addr × Obj)} (S : Stk A fs h₀ I₀) (F : Fm w fs h₀ I₀ I env h m ms) (hf : env.frame = some env.locals) : Stk (A.deeper env) (env.locals :: fs) h I where
  ex := by
    obtain ⟨outer, e, ho⟩ := S.ex
    refine ⟨env :: outer, Around.frames_deeper e, fun x hx => ?_⟩
    rcases List.mem_cons.mp hx with rfl | hx
    · exact ⟨by rw [F.kind]; decide, _, hf, .head _⟩
    · obtain ⟨h1, L, h2, h3⟩ := ho x hx
      exact ⟨h1, L, h2, .tail _ h3⟩
  dic := fun f hf => by
    rcases List.mem_cons.mp hf with rfl | hf
    · exact F.localsAt
    · exact (S.done F.done).dic f hf
  hid := fun f hf => by
    rcases List.mem_cons.mp hf with rfl | hf
    · exact F.hidL
    · exact (S.done F.done).hid f hf

theorem Stk.fun {A : Around} {fs : List Addr} {h I B : Heap} {outer : List Env} (S : Stk A fs h I) (hB : ∀ f ∈ fs, B.get? f = none) (ho : ∀ env ∈ outer, env.scope.kind ≠ .module ∧ ∃ L, env.frame = some L ∧ L ∈ fs) : h.FunFrames B outer := by
  induction outer with
  | nil => trivial
  | cons env r ih =>
    obtain ⟨h1, L, h2, h3⟩ := ho env (.head _)
    obtain ⟨o, es, n, e, hd⟩ := S.dic L h3
    exact ⟨h1, ⟨L, o, h2, hB L h3, e, fun vs q => by rw [hd] at q; cases q⟩, ih fun x hx => ho x (.tail _ hx)⟩

section
variable {prog : Program} {w : World} {A : Around} {E : Value → Shared → Prop} {s b : Shared} {env : Env} {fs : List Addr} {h₀ I₀ I h h' : Heap} {m : Str → Option Value} {ms : List (Addr × Obj)} {tk : Nat}

theorem looks_new {base : Heap} {env : Env} {outer : List Env} {L e : Addr} {cls : String} {Q : Unit → Shared → Prop} (hfr : A.frames = some (env :: outer)) (hf : env.frame = some L) (hkb : base.StaysIn h) (hl : h.FunFrames base (env :: outer)) (hx : Heap.NewExc h s.heap e cls)
    (hQ : ∀ h' a0, Heap.HeldW base (env :: outer) e (.type cls) a0 L h' → s.heap.UpToSlots h' → Q () { s with heap := h' }) : wpAny (model prog w) A (noteFrame (.ref e) env) Q E s := by
  obtain ⟨ob, t, he, hcls, hd⟩ := hx.there
  have hen : base.get? e = none := fresh_of_stays hkb hx.new
  unfold noteFrame
  simp only [hf]
  refine wpAny_bind (wpAny_field he hd (x := .none) rfl ?_)
  rw [if_neg (by decide)]
  refine wpAny_entryW hfr (hl.of_keeps fun b o hb _ => ⟨o, hx.keeps b o hb, rfl⟩) hf he (fun b o q => hx.keeps b o (hkb b o q)) hen hd (by simp) (a0 := t) rfl fun h' hN => ?_
  obtain ⟨k1, k2, k3, k4⟩ := hN
  rw [hcls] at k3
  exact hQ h' t ⟨k1, hen, k2, k3⟩ k4

theorem caught {x : Str} {T' X : String} {e : Addr} {b₀ : Stmt} {suite : List Stmt} {np pos : Pos} {rest : List ExceptHandler} {Q : Flow → Shared → Prop} {h₁ : Heap} {tk₁ : Nat} (F : Fm w fs h₀ I₀ I env h m ms) (S : Stk A (env.locals :: fs) h I)
    (hfr : ∃ outer, A.frames = some (env :: outer)) (hf : env.frame = some env.locals) (hx : Heap.NewExc h h₁ e X) (hv : bootBuiltins x = some (.type T'))
    (hexc : isSubtype (.type T') (.type "BaseException") = pure true) (hnt : isSubtype (.type ((Manifest.find? T').elim "type" fun y => y.metatype)) (.type "tuple") = pure false) (hsub : isSubtype (.type X) (.type T') = pure true)
    (k : ∀ h' E', Fm w fs h₀ I₀ I env h' m ms → Done (env.locals :: fs) h I h' I → WP (model prog w) (A.mark (some (.ref e))) (execs (b₀ :: suite) env) Q E' (St b h' tk₁))
    (hm : nsIn (KK w) mainGlobals x = some none := by kernel_rfl!) (hk : env.kindOf x = some .globalImplicit := by kernel_rfl!) (hd : (x == ("__debug__" : Str)) = false := by kernel_rfl!) (hn : x ≠ "__name__" := by decide) :
    wpAny (model prog w) A (noteFrame (.ref e) env)
      (fun _ s₂ => wpAny (model prog w) A (setFlight (.ref e) none) (fun _ s₃ =>
        wpAny (model prog w) A (handleBy (.ref e) env (.ExceptHandler (some (.Name x np)) none (b₀ :: suite) pos :: rest)) Q E s₃) E s₂) E (St b h₁ tk₁) := by
  obtain ⟨outer, hfr⟩ := hfr
  obtain ⟨outer', e', ho⟩ := S.ex
  have : outer' = env :: outer := by rw [hfr] at e'; exact (Option.some.inj e').symm
  subst this
  have hB : ∀ f ∈ env.locals :: fs, (hideAll h (env.locals :: fs)).get? f = none := fun f hf => hideAll_none _ hf
  have hl := S.fun hB ho
  have key : ∀ h' : Heap, (hideAll h (env.locals :: fs)).StaysIn h' → h₁.UpToSlots h' → Fm w fs h₀ I₀ I env h' m ms ∧ Done (env.locals :: fs) h I h' I := fun h' st up => by
    have D : Done (env.locals :: fs) h I h' I := by
      refine ⟨fun b o e => ?_, Ext.refl _ _, fun b o e => st b o (hideAll_get _ (F.stays b o e) fun q => ?_)⟩
      · refine ⟨fun q => st b o (hideAll_get _ e q), ?_⟩
        by_cases q : b ∈ env.locals :: fs
        · obtain ⟨o', es, n, e', hd⟩ := S.dic b q
          rw [e] at e'; cases e'
          exact up b o (hx.keeps b o e) fun vs z => by rw [hd] at z; cases z
        · exact ⟨o.slots, st b o (hideAll_get _ e q)⟩
      · rw [S.hid b q] at e; cases e
    exact ⟨F.after D, D⟩
  refine looks_new (s := St b h₁ tk₁) hfr hf (fun b o q => of_hideAll _ q) hl hx fun h₄ a0 hheld₄ hsm₄ => ?_
  refine wpAny_landsW hheld₄ fun h₅ hheld hsm₅' => ?_
  have hsm₅ := hsm₄.trans hsm₅'
  obtain ⟨F₅, _⟩ := key h₅ hheld.1 hsm₅
  obtain ⟨ob, hob, hobc⟩ := hheld.there
  refine wpAny_handleBy_builtin (X := X) (T := T') (b := true) hexc hnt hsub (Fm.bu (b := b) (tk := tk₁) F₅ hv ⟨rfl, ⟨ob, hob, hobc⟩, ?_⟩ hm hk hd hn)
  refine lands_againW (s := St b h₅ tk₁) hheld fun h₆ hfl₆ hsm₆ => ?_
  obtain ⟨F₆, D₆⟩ := key h₆ hfl₆.1 (hsm₅.trans hsm₆)
  exact (k h₆ _ F₆ D₆).run

/-- try: body; except x: suite; the body raises, if at all, from a builtin of its own -/
theorem sTry {body : List Stmt} {x : Str} {T' X : String} {b₀ : Stmt} {suite : List Stmt} {np hp pos : Pos} {Q : Flow → Shared → Prop} (hf : env.frame = some env.locals) (hfr : ∃ outer, A.frames = some (env :: outer))
    (hv : bootBuiltins x = some (.type T')) (hexc : isSubtype (.type T') (.type "BaseException") = pure true) (hnt : isSubtype (.type ((Manifest.find? T').elim "type" fun y => y.metatype)) (.type "tuple") = pure false) (hsub : isSubtype (.type X) (.type T') = pure true)
    (k : WP (model prog w) A (execs body env) Q (fun ev s₁ => ∃ e h h₁ tk₁ I m ms, ev = .ref e ∧ s₁ = St b h₁ tk₁ ∧ Fm w fs h₀ I₀ I env h m ms ∧ Stk A (env.locals :: fs) h I ∧ Heap.NewExc h h₁ e X ∧
      (∀ h' E', Fm w fs h₀ I₀ I env h' m ms → Done (env.locals :: fs) h I h' I → WP (model prog w) (A.mark (some (.ref e))) (execs (b₀ :: suite) env) Q E' (St b h' tk₁))) s)
    (hm : nsIn (KK w) mainGlobals x = some none := by kernel_rfl!) (hk : env.kindOf x = some .globalImplicit := by kernel_rfl!) (hd : (x == ("__debug__" : Str)) = false := by kernel_rfl!) (hn : x ≠ "__name__" := by decide) :
    WP (model prog w) A (exec (.Try body [.ExceptHandler (some (.Name x np)) none (b₀ :: suite) hp] [] [] pos) env) Q E s := by
  refine ⟨wpAny_Try_except (wpAny_mono k.run (fun f s₁ q => ?_) fun ev s₁ q => ?_)⟩
  · cases f <;> first | exact wpAny_execs_nil q | exact q
  · obtain ⟨e, h, h₁, tk₁, I, m, ms, rfl, rfl, F, S, hx, kk⟩ := q
    exact caught F S hfr hf hx hv hexc hnt hsub kk hm hk hd hn
end
end Mine

namespace Mine

theorem hideAll_none' {h : Heap} {as : List Addr} {b : Addr} (e : h.get? b = none) : (hideAll h as).get? b = none := by
  cases q : (hideAll h as).get? b with
  | none => rfl
  | some o => rw [of_hideAll _ q] at e; cases e
theorem Paired.last {α β : Type} {F : α → β → Prop} {vs : List α} {y : α} {ds : List β} (p : Paired F (vs ++ [y]) ds) : ∃ ds' d, ds = ds' ++ [d] ∧ Paired F vs ds' ∧ F y d := by
  have := Paired.reverse p
  rw [List.reverse_append, List.reverse_singleton, List.singleton_append] at this
  generalize hq : ds.reverse = q at this
  cases this with
  | @cons _ d _ r x z =>
    refine ⟨r.reverse, d, ?_, ?_, x⟩
    · rw [← List.reverse_reverse ds, hq, List.reverse_cons]
    · simpa using Paired.reverse z

section
variable {prog : Program} {w : World} {A : Around} {E : Value → Shared → Prop} {s b : Shared} {env : Env} {fs : List Addr} {h₀ I₀ I h h' I' : Heap} {m : Str → Option Value} {ms ls : List (Addr × Obj)} {tk : Nat}

/-- the callee: what it was lent may turn -/
theorem Fm.lend (F : Fm w fs h₀ I₀ I env h m ms) (C : CellsNew h₀ env) (hl : ∀ p ∈ ls, h₀.get? p.1 = some p.2 ∧ p.1 ∉ fs ∧ I.get? p.1 = none) :
    Fm w fs (hideAll h₀ (ls.map (·.1))) I₀ I env h m (ls ++ ms) ∧ CellsNew (hideAll h₀ (ls.map (·.1))) env := by
  have nf : ∀ f ∈ fs, f ∉ ls.map (·.1) := fun f hf q => by
    obtain ⟨p, hp, e⟩ := List.mem_map.mp q
    exact (hl p hp).2.1 (e ▸ hf)
  refine ⟨⟨F.kind, F.glob, F.blt, F.wd, F.stays, fun b o e => F.keep b o (of_hideAll _ e), ⟨F.ext.1, fun b o e n => F.ext.2 b o (of_hideAll _ e) n⟩,
    fun f hf => let ⟨o, e⟩ := F.fsIn f hf; ⟨o, hideAll_get _ e (nf f hf)⟩, F.ns, F.cells, F.hidL, F.hidC, hideAll_none' F.newL, fun p hp => ?_⟩, fun n c hc => hideAll_none' (C.1 n c hc), C.2⟩
  rcases List.mem_append.mp hp with q | q
  · obtain ⟨h1, h2, h3⟩ := hl p q
    refine ⟨(F.keep _ _ h1).1 h2, h3, hideAll_none _ (List.mem_map_of_mem q), fun z => ?_, fun n c hc z => ?_⟩
    · rw [z, F.newL] at h1; cases h1
    · rw [z, C.1 n c hc] at h1; cases h1
  · obtain ⟨h1, h2, h3, h4⟩ := F.made p q
    exact ⟨h1, h2, hideAll_none' h3, h4⟩

/-- the caller: what it lent has turned -/
theorem Fm.back {as : List Addr} {ms' : List (Addr × Obj)} (F : Fm w fs h₀ I₀ I env h m ms) (has : ∀ a ∈ as, ∃ o, (a, o) ∈ ms) (D : Done (env.locals :: fs) (hideAll h as) I h' I')
    (hms : ∀ p ∈ ms', (p ∈ ms ∧ p.1 ∉ as) ∨ (p.1 ∈ as ∧ h'.get? p.1 = some p.2 ∧ I'.get? p.1 = none)) : Fm w fs h₀ I₀ I' env h' m ms' := by
  have nl : env.locals ∉ as := fun q => let ⟨o, e⟩ := has _ q; (F.made _ e).2.2.2.1 rfl
  have nc : ∀ n c, env.cells.lookup n = some c → c ∉ as := fun n c hc q => let ⟨o, e⟩ := has _ q; (F.made _ e).2.2.2.2 n c hc rfl
  have nI : ∀ b o, I.get? b = some o → b ∉ as := fun b o hb q => by obtain ⟨o, e⟩ := has _ q; rw [(F.made _ e).2.1] at hb; cases hb
  have n0 : ∀ b o, h₀.get? b = some o → b ∉ as := fun b o hb q => by obtain ⟨o, e⟩ := has _ q; rw [(F.made _ e).2.2.1] at hb; cases hb
  have F' : Fm w fs h₀ I₀ I env (hideAll h as) m (ms.filter fun p => decide (p.1 ∉ as)) :=
    { kind := F.kind, glob := F.glob, blt := F.blt, wd := F.wd
      stays := fun b o e => hideAll_get _ (F.stays b o e) (nI b o e)
      keep := fun b o e => ⟨fun hn => hideAll_get _ ((F.keep b o e).1 hn) (n0 b o e), let ⟨sl, e'⟩ := (F.keep b o e).2; ⟨sl, hideAll_get _ e' (n0 b o e)⟩⟩
      ext := F.ext, fsIn := F.fsIn
      ns := let ⟨m', ⟨o, es, n, e, r⟩, hm⟩ := F.ns; ⟨m', ⟨o, es, n, hideAll_get _ e nl, r⟩, hm⟩
      cells := fun n c hc => let ⟨o, e, hd⟩ := F.cells n c hc; ⟨o, hideAll_get _ e (nc n c hc), hd⟩
      hidL := F.hidL, hidC := F.hidC, newL := F.newL
      made := fun p hp => by
        obtain ⟨hp, hq⟩ := List.mem_filter.mp hp
        obtain ⟨h1, r⟩ := F.made p hp
        exact ⟨hideAll_get _ h1 (by simpa using hq), r⟩ }
  have F'' := F'.after D
  refine { F'' with made := fun p hp => ?_ }
  rcases hms p hp with ⟨q1, q2⟩ | ⟨q1, q2, q3⟩
  · exact F''.made p (List.mem_filter.mpr ⟨q1, by simpa using q2⟩)
  · obtain ⟨o, e⟩ := has _ q1
    obtain ⟨_, _, r⟩ := F.made _ e
    exact ⟨q2, q3, r⟩
end
end Mine

namespace Mine
def uldGo : List Nat → List Nat → List Nat → List Nat × List Nat
  | [], a, ms => (ms, a)
  | x :: r, a, ms => if x ∈ a then uldGo r (a.erase x) ms else uldGo r a (ms ++ [x])
def uld (e a : List Nat) : List Nat × List Nat := uldGo e.reverse a []

inductive UInv (w : World) (b : Shared) (fs : List Addr) (h I : Heap) (L e a M : Addr) (U : List Nat × List Nat) (n : Nat) (s : Shared) : Prop
  | mk (h' : Heap) (tk' : Nat) (m' : Str → Option Value) (ve' va' vm : List Value) (n1 n2 n3 : Nat) (de' da' dm : List Nat) (es : s = St b h' tk') (F : Fm w fs (hideAll h [e, a]) I I (envAt w 71 L) h' m' [(M, lobj vm n3), (e, lobj ve' n1), (a, lobj va' n2)])
    (he : m' "expected" = some (.ref e)) (ha : m' "actual" = some (.ref a)) (hm : m' "missing" = some (.ref M)) (pe : Paired (Th I) ve' de') (pa : Paired (Th I) va' da') (pm : Paired (Th I) vm dm) (en : n = de'.length) (hb : da'.length ≤ 1000) (hb' : de'.length + dm.length ≤ 1000) (hu : uldGo de'.reverse da' dm = U)

section
variable {prog : Program} {w : World} {A : Around} {E : Value → Shared → Prop} {b : Shared} {I h : Heap} {tk : Nat} {Q : Value → Shared → Prop} {fs : List Addr}

theorem uld_ok {e a : Addr} {ve va : List Value} {n1 n2 : Nat} {de da : List Nat} (W : Wd w I) (st : I.StaysIn h) (r : Rm A 1 20) (S : Stk A fs h I) (hfe : e ∉ fs) (hfa : a ∉ fs)
    (he : h.get? e = some (lobj ve n1)) (ha : h.get? a = some (lobj va n2)) (hne : e ≠ a) (hIe : I.get? e = none) (hIa : I.get? a = none) (pe : Paired (Th I) ve de) (pa : Paired (Th I) va da) (hb1 : de.length ≤ 1000) (hb2 : da.length ≤ 1000)
    (K : ∀ v h' tk' I' va' n1' n2', Done fs (hideAll h [e, a]) I h' I' → h'.get? e = some (lobj [] n1') → h'.get? a = some (lobj va' n2') → I'.get? e = none → I'.get? a = none → Paired (Th I') va' (uld de da).2 →
      (∃ t vm, v = .ref t ∧ I'.IsTuple t #[vm, .ref a] ∧ LOf Th I' vm (uld de da).1) → Q v (St b h' tk')) :
    WP (model prog w) A (call (.ref 71) [.ref e, .ref a]) Q E (St b h tk) := by
  refine wEnter 71 [("expected", .ref e), ("actual", .ref a)] fs W st r.room (fun f hf => let ⟨o, _, _, q, _⟩ := S.dic f hf; ⟨o, q⟩) (fun L h₁ tk₁ F C => ?_)
  have r' := Rm.deeper (d := 0) (u := 17) r (envAt w 71 L)
  obtain ⟨F, C⟩ := F.lend (ls := [(e, lobj ve n1), (a, lobj va n2)]) C (fun p hp => by
    simp at hp
    rcases hp with rfl | rfl
    · exact ⟨he, hfe, hIe⟩
    · exact ⟨ha, hfa, hIa⟩)
  have hfr : ∃ outer, (A.deeper (envAt w 71 L)).frames = some (envAt w 71 L :: outer) := by
    obtain ⟨outer, q, _⟩ := S.ex
    exact ⟨outer, Around.frames_deeper q⟩
  have S₀ : Stk A fs (hideAll h [e, a]) I := ⟨S.ex, fun f hf => let ⟨o, es, n, q, hd⟩ := S.dic f hf; ⟨o, es, n, hideAll_get _ q (by simp; exact ⟨fun z => hfe (z ▸ hf), fun z => hfa (z ▸ hf)⟩), hd⟩, S.hid⟩
  refine sCons (sExpr (eStr fun _ _ => ⟨fun _ q => (nomatch q), ?_⟩))
  refine sCons (sAssign (eList (aNil (xListM F fun M h₂ hM F₂ hMs => xSt F₂ C fun h₃ tk₃ F₃ => ?_))))
  have hMe : M ≠ e := fun z => hMs (e, lobj ve n1) (by simp) z.symm
  have hMa : M ≠ a := fun z => hMs (a, lobj va n2) (by simp) z.symm
  have nve := pe.length
  have nva := pa.length
  refine sCons (sWhile (UInv w b fs h I L e a M (uld de da))
    ?_ de.length ⟨h₃, tk₃, _, ve, va, [], n1, n2, 0, de, da, [], rfl, F₃, rfl, rfl, rfl, pe, pa, .nil, rfl, hb2, by simpa using hb1, rfl⟩)
  rintro n s E' ⟨h', tk', m', ve', va', vm, n1, n2, n3, de', da', dm, rfl, F', he', ha', hm', pe', pa', pm', rfl, hb, hb', hu⟩
  have nve := pe'.length
  have nva := pa'.length
  have nvm := pm'.length
  have hMe' := (F'.made (e, lobj ve' n1) (by simp)).1
  refine tPlain (eName F' he' (vListM hMe' (by first | assumption | exact Nat.le_trans (by assumption) (by decide) | omega) fun tk₄ => ?_))
  cases hq : ve'.isEmpty with
  | true =>
    have hq' : ve' = [] := by simpa using hq
    subst hq'
    cases pe'
    refine iteF (by simp) ?_
    simp only [List.reverse_nil, uldGo] at hu
    -- the end
    have F₅ := F'.freeze (a := M) (o := lobj vm n3) (ms' := [(e, lobj [] n1), (a, lobj va' n2)]) (by simp) (fun p hp => by
      simp at hp
      rcases hp with rfl | rfl
      · exact ⟨by simp, Ne.symm hMe⟩
      · exact ⟨by simp, Ne.symm hMa⟩)
    have u₅ := add_up (a := M) F'.stays
    refine sCons (sRet (eTuple (aCons (eName F₅ hm' (aCons (eName F₅ ha' (aNil (xTupleI F₅ fun t h₆ I₆ _ F₆ u₆ ht => ⟨_, rfl, ?_⟩)))))))) 
    have u := stays_trans u₅ u₆
    refine K _ _ _ I₆ va' n1 n2 F₆.done (F₆.made _ (.head _)).1 (F₆.made _ (.tail _ (.head _))).1 (F₆.made _ (.head _)).2.1 (F₆.made _ (.tail _ (.head _))).2.1 ?_ ⟨t, .ref M, rfl, ht, M, vm, rfl, ?_, ?_⟩
    · rw [← hu]; exact Th.mono.paired u pa'
    · exact PlainList.up ⟨n3, add_new.trans (F'.made _ (.head _)).1⟩ u₆
    · rw [← hu]; exact Th.mono.paired u pm'
  | false =>
    have hq' : ve' ≠ [] := by simpa using hq
    refine iteT (by simp) ?_
    obtain ⟨vs, y, rfl⟩ : ∃ vs y, ve' = vs ++ [y] := ⟨_, _, (List.dropLast_concat_getLast hq').symm⟩
    obtain ⟨ds, d, rfl, pe'', hy⟩ := Paired.last pe'
    simp only [List.length_append, List.length_singleton] at nve
    refine sCons (sAssign (eMethL0 "list.pop" F' he' ⟨_, hMe'⟩ PySem.F.slot_list_pop PySem.F.type_list_pop (xPop F' (.tail _ (.head _)) (by simp at hb'; omega) fun h₅ F₅ => xSt F₅ C fun h₆ tk₆ F₆ => ?_)))
    have e5 : setM [(M, lobj vm n3), (e, lobj (vs ++ [y]) n1), (a, lobj va' n2)] e (lobj vs (n1 + 1)) = [(M, lobj vm n3), (e, lobj vs (n1 + 1)), (a, lobj va' n2)] := by simp [setM, hMe, Ne.symm hne]
    rw [e5] at F₆
    rw [List.reverse_append, List.reverse_singleton, List.singleton_append, uldGo] at hu
    simp only [List.length_append, List.length_singleton] at hb' ⊢
    have S' := S₀.push F₆ rfl
    have hMa' := (F₆.made (a, lobj va' n2) (by simp)).1
    refine sCons (sTry (b := b) (fs := fs) (h₀ := hideAll h [e, a]) (I₀ := I) rfl hfr (X := "ValueError") PyProof.Rows.Boot.«ValueError» PySem.F.isExc_ValueError PySem.F.notTuple_ValueError (by rw [isSubtype_type]; kernel_rfl) (sCons (sExpr (eMethL1 "list.remove" F₆ ha' ⟨_, hMa'⟩ PySem.F.slot_list_remove PySem.F.type_list_remove (eName F₆ rfl ?_)))))
    by_cases hd : d ∈ da'
    · rw [if_pos hd] at hu
      refine xRemHit Th.eqRep Th.uniq Th.mono F₆ (.tail _ (.tail _ (.head _))) r'.ule pa' hy hd (by first | assumption | exact Nat.le_trans (by assumption) (by decide) | omega) fun h₇ vs' n' p₇ F₇ => ⟨fun _ q => (nomatch q), ?_⟩
      have e7 : setM [(M, lobj vm n3), (e, lobj vs (n1 + 1)), (a, lobj va' n2)] a (lobj vs' n') = [(M, lobj vm n3), (e, lobj vs (n1 + 1)), (a, lobj vs' n')] := by simp [setM, hMa, hne]
      rw [e7] at F₇
      refine sNil (sAgain ⟨ds.length, by first | assumption | exact Nat.le_trans (by assumption) (by decide) | omega, h₇, _, _, _, _, _, _, _, _, _, _, _, rfl, F₇, he', ha', hm', pe'', p₇, pm', rfl, Nat.le_trans (List.length_erase_le) hb, by first | assumption | exact Nat.le_trans (by assumption) (by decide) | omega, hu⟩)
    · rw [if_neg hd] at hu
      refine xRemMiss Th.eqRep Th.uniq Th.mono F₆ (.tail _ (.tail _ (.head _))) r'.ule r'.handled pa' hy hd fun h₇ tk₇ ev hx => ⟨ev, h₆, h₇, tk₇, I, _, _, rfl, rfl, F₆, S', hx, fun h₈ E₈ F₈ D₈ => ?_⟩
      have hMM := (F₈.made (M, lobj vm n3) (by simp)).1
      refine sCons (sExpr (eMethL1 "list.append" F₈ hm' ⟨_, hMM⟩ PySem.F.slot_list_append PySem.F.type_list_append (eName F₈ rfl (xAppend F₈ (.head _) (by first | assumption | exact Nat.le_trans (by assumption) (by decide) | omega) fun h₉ F₉ => ⟨fun _ q => (nomatch q), ?_⟩))))
      have e9 : setM [(M, lobj vm n3), (e, lobj vs (n1 + 1)), (a, lobj va' n2)] M (lobj (vm ++ [y]) (n3 + 1)) = [(M, lobj (vm ++ [y]) (n3 + 1)), (e, lobj vs (n1 + 1)), (a, lobj va' n2)] := by simp [setM, Ne.symm hMe, Ne.symm hMa]
      rw [e9] at F₉
      exact sNil (sAgain ⟨ds.length, by first | assumption | exact Nat.le_trans (by assumption) (by decide) | omega, h₉, _, _, _, _, _, _, _, _, _, _, _, rfl, F₉, he', ha', hm', pe'', pa', Paired.append pm' (.cons hy .nil), rfl, hb, by simp; omega, hu⟩)
end
end Mine

namespace Mine
def cntL (ds : List Nat) : List Nat := (List.range 5).map (fun k => ds.count k) ++ [ds.length]

section
variable {prog : Program} {w : World} {A : Around} {E : Value → Shared → Prop} {b : Shared} {I h : Heap} {tk : Nat} {Q : Value → Shared → Prop} {fs : List Addr}

theorem counts_ok {v : Value} {ds : List Nat} (W : Wd w I) (st : I.StaysIn h) (r : Rm A 2 20) (hv : LOf Th I v ds) (hb : ds.length ≤ 1000)
    (K : ∀ v' h' tk' I', Done [] h I h' I' → LOf NatR I' v' (cntL ds) → Q v' (St b h' tk')) :
    WP (model prog w) A (call (.ref 178) [v]) Q E (St b h tk) := by
  obtain ⟨a, vs, rfl, hl, hp⟩ := id hv
  refine wEnter 178 [("bag", .ref a)] [] W st r.room (fun _ q => nomatch q) (fun L h₁ tk₁ F C => ?_)
  have r' := Rm.deeper (d := 1) (u := 17) r (envAt w 178 L)
  refine sCons (sRet (eBin (eComp0 (List.range 5) (fun k => ds.count k) NatR NatR NatR.mono NatR.mono [] (fun _ q => nomatch q) (by decide) (eCallT "range" F (aCons (eInt fun _ _ => aNil (xRange (n := 5) F (by decide) r'.handled fun rr h₂ tk₂ F₂ src =>
    ⟨h₂, tk₂, I, rfl, F₂, fun _ q => (nomatch q), src _, ?_, ?_⟩)))))))
  · intro k hk v C' I' h' tk' E' ms' hv' u' F'
    obtain ⟨t', rfl⟩ := hv'
    have hk5 : k < 5 := by simpa using hk
    have hl' := PlainList.up (PlainList.up hl u') F'.stays
    refine eMethL1 "list.count" F' rfl hl' PySem.F.slot_list_count PySem.F.type_list_count ?_
    refine eCallG 168 F' (aCons (eName F' rfl (aNil ⟨F'.fn _, thing_ok F'.wd F'.stays r'.mono hk5 fun v h₈ tk₈ I₈ D hv8 => ?_⟩)))
    have F₈ := F'.aft D
    refine xCount Th.eqRep Th.uniq Th.mono F₈.stays r'.ule (LOf.mono Th.mono _ _ _ _ (stays_trans u' D.ext.1) hv) hv8 fun t₉ tk₉ => ⟨h₈, tk₉, I₈, rfl, F₈, D.ext.1, t₉, rfl⟩
  intro cs h₃ tk₃ I₃ F₃ u₃ hcs
  refine eList (aCons (eCallB "len" F₃ (aCons (eName F₃ rfl (aNil (xLen F₃.stays (LOf.mono Th.mono _ _ _ _ u₃ hv) (by first | assumption | exact Nat.le_trans (by assumption) (by decide) | omega) fun t₄ tk₄ => aNil (xListI F₃ fun a₅ h₅ I₅ _ _ F₅ u₅ l₅ => ?_)))))))
  refine oCat NatR.mono F₅ (LOf.mono NatR.mono _ _ _ _ u₅ hcs) (ds' := [ds.length]) ⟨a₅, _, rfl, l₅, .cons ⟨_, rfl⟩ .nil⟩ (by simp) fun D h₆ I₆ F₆ u₆ hD => ⟨_, rfl, K _ _ _ _ F₆.done hD⟩
end
end Mine

namespace Mine
def bey (c o : List Nat) : List Nat := (List.range 5).map (fun k => c.getD k 0 - o.getD k 0) ++ [((List.range 5).map (fun k => c.getD k 0 - o.getD k 0)).sum]

theorem ints_of {H : Heap} : ∀ {vs : List Value} {ds : List Nat}, Paired (NatR H) vs ds → ∃ xs : List (Int × Tok), vs = xs.map (fun p => .int p.1 p.2) ∧ xs.map (·.1) = ds.map (fun (d : Nat) => (d : Int))
  | _, _, .nil => ⟨[], rfl, rfl⟩
  | _, _, .cons (b := d) ⟨t, e⟩ r => let ⟨xs, h1, h2⟩ := ints_of r; ⟨((d : Int), t) :: xs, by rw [e, h1]; rfl, by simp [h2]⟩

theorem preSum_nat {xs : List (Int × Tok)} {ds : List Nat} (h : xs.map (·.1) = ds.map (fun (d : Nat) => (d : Int))) (j : Nat) (hj : j ≤ ds.length) : preSum (numAt xs.toArray) j = ((ds.take j).sum : Nat) := by
  induction j with
  | zero => rfl
  | succ j ih =>
    rw [preSum, ih (by first | assumption | exact Nat.le_trans (by assumption) (by decide) | omega)]
    have e : numAt xs.toArray j = ((ds[j]'(by first | assumption | exact Nat.le_trans (by assumption) (by decide) | omega) : Nat) : Int) := by
      have : (xs.map (·.1))[j]? = (ds.map (fun (d : Nat) => (d : Int)))[j]? := by rw [h]
      have hj' : j < ds.length := by omega
      simp only [List.getElem?_map] at this
      rw [List.getElem?_eq_getElem hj'] at this
      unfold numAt
      simp only [List.getElem?_toArray]
      rw [this]; rfl
    rw [e, List.take_add_one, List.getElem?_eq_getElem (show j < ds.length by omega), List.sum_append]
    simp only [Option.toList_some, List.sum_singleton]
    omega

theorem sum_le {ds : List Nat} {B : Nat} (h : ∀ d ∈ ds, d ≤ B) : ds.sum ≤ ds.length * B := by
  induction ds with
  | nil => simp
  | cons d r ih =>
    have := ih fun x hx => h x (.tail _ hx)
    have := h d (.head _)
    simp only [List.sum_cons, List.length_cons, Nat.add_mul, Nat.one_mul]; omega

section
variable {prog : Program} {w : World} {A : Around} {E : Value → Shared → Prop} {b : Shared} {env : Env} {h₀ I₀ I h : Heap} {m : Str → Option Value} {ms : List (Addr × Obj)} {tk : Nat} {Q : Value → Shared → Prop} {fs : List Addr}

theorem xMax {x y : Int} {t u : Tok} (F : Fm w fs h₀ I₀ I env h m ms) (hh : A.handled = none) (k : ∀ t' h' tk', Fm w fs h₀ I₀ I env h' m ms → Q (.int (if y > x then y else x) t') (St b h' tk')) : WP (model prog w) A (call (.builtin "max") [.int x t, .int y u]) Q E (St b h tk) := by
  refine ⟨max_two_ints (s := St b h tk) hh fun h' tk' hk => ?_⟩
  have := k (if y > x then u else t) h' tk' (F.keeps hk)
  by_cases hc : y > x
  · simp only [if_pos hc] at this ⊢; exact this
  · simp only [if_neg hc] at this ⊢; exact this

theorem xSum {v : Value} {ds : List Nat} (F : Fm w fs h₀ I₀ I env h m ms) (hh : A.handled = none) (hv : LOf NatR I v ds) (hl : ds.length ≤ 1000) (hd : ∀ d ∈ ds, d ≤ 1000)
    (k : ∀ t' h' tk', Fm w fs h₀ I₀ I env h' m ms → Q (.int ((ds.sum : Nat) : Int) t') (St b h' tk')) : WP (model prog w) A (call (.builtin "sum") [v]) Q E (St b h tk) := by
  obtain ⟨a, vs, rfl, hl', hp⟩ := hv
  obtain ⟨xs, rfl, hxs⟩ := ints_of hp
  have e : (xs.map fun p => Value.int p.1 p.2).toArray = intItems xs.toArray := by simp [intItems]
  rw [e] at hl'
  have hn : xs.length = ds.length := by simpa using hp.length
  have bd : ∀ j, j ≤ ds.length → preSum (numAt xs.toArray) j ≤ 1000000 ∧ 0 ≤ preSum (numAt xs.toArray) j := fun j hj => by
    rw [preSum_nat hxs j hj]
    have h1 := sum_le (ds := ds.take j) (B := 1000) fun d hd' => hd d (List.mem_of_mem_take hd')
    have h2 : (ds.take j).length ≤ ds.length := by simp; omega
    have : (ds.take j).length * 1000 ≤ 1000 * 1000 := Nat.mul_le_mul_right _ (by first | assumption | exact Nat.le_trans (by assumption) (by decide) | omega)
    omega
  refine ⟨sum_intList (s := St b h tk) hh (IsList.up hl'.isList F.stays) (fun j hj => ?_) fun h' tk' t' hk => ?_⟩
  · simp at hj
    have h1 := bd j (by first | assumption | exact Nat.le_trans (by assumption) (by decide) | omega)
    have h2 := bd (j + 1) (by first | assumption | exact Nat.le_trans (by assumption) (by decide) | omega)
    rw [preSum] at h2 ⊢
    unfold InLong
    omega
  · have := k t' h' tk' (F.keeps hk)
    rw [show preSum (numAt xs.toArray) xs.toArray.size = ((ds.sum : Nat) : Int) from by
      rw [preSum_nat hxs _ (by first | exact Nat.le_trans (by assumption) (by decide) | (simp; omega))]; simp [hn]]
    exact this

theorem beyond_ok {v v' : Value} {cs os : List Nat} (W : Wd w I) (st : I.StaysIn h) (r : Rm A 1 20) (hv : LOf NatR I v cs) (hv' : LOf NatR I v' os) (hc : cs.length = 6) (ho : os.length = 6) (hb : ∀ c ∈ cs, c ≤ 1000)
    (K : ∀ x h' tk' I', Done [] h I h' I' → LOf NatR I' x (bey cs os) → Q x (St b h' tk')) :
    WP (model prog w) A (call (.ref 183) [v, v']) Q E (St b h tk) := by
  refine wEnter 183 [("counts", v), ("others", v')] [] W st r.room (fun _ q => nomatch q) (fun L h₁ tk₁ F C => ?_)
  have r' := Rm.deeper (d := 0) (u := 17) r (envAt w 183 L)
  refine sCons (sComp0 C (List.range 5) (fun k => cs.getD k 0 - os.getD k 0) NatR NatR NatR.mono NatR.mono [] (fun _ q => nomatch q) (by decide) (eCallT "range" F (aCons (eInt fun _ _ => aNil (xRange (n := 5) F (by decide) r'.handled fun rr h₂ tk₂ F₂ src =>
    ⟨h₂, tk₂, I, rfl, F₂, fun _ q => (nomatch q), src _, ?_, ?_⟩)))))
  · intro k hk v C' I' h' tk' E' ms' hv₁ u' F'
    obtain ⟨t', rfl⟩ := hv₁
    have hk5 : k < 5 := by simpa using hk
    refine eCallB "max" F' (aCons (eInt fun _ _ => aCons (eBin (eSub (eName F' rfl (eName F' rfl (xIt (d := cs.getD k 0) F'.stays (LOf.mono NatR.mono _ _ _ _ u' hv) ?_ (by first | assumption | exact Nat.le_trans (by assumption) (by decide) | omega) ?_)))))))
    · rw [List.getElem?_eq_getElem (by first | assumption | exact Nat.le_trans (by assumption) (by decide) | omega)]; simp [List.getD, hc, show k < 6 by omega]
    rintro y ⟨ty, rfl⟩
    refine eSub (eName F' rfl (eName F' rfl (xIt (d := os.getD k 0) F'.stays (LOf.mono NatR.mono _ _ _ _ u' hv') ?_ (by first | assumption | exact Nat.le_trans (by assumption) (by decide) | omega) ?_)))
    · rw [List.getElem?_eq_getElem (by first | assumption | exact Nat.le_trans (by assumption) (by decide) | omega)]; simp [List.getD, ho, show k < 6 by omega]
    rintro y ⟨ty', rfl⟩
    refine oSub fun _ _ => aNil (xMax F' r'.handled fun t₅ h₅ tk₅ F₅ => ⟨h₅, tk₅, I', rfl, F₅, stays_refl _, t₅, ?_⟩)
    congr 1
    have key : ∀ x y : Nat, (if (x : Int) - (y : Int) > 0 then (x : Int) - (y : Int) else 0) = ((x - y : Nat) : Int) := fun x y => by split <;> omega
    exact key _ _
  intro cs' h₃ tk₃ I₃ F₃ u₃ hcs
  refine sCons (sRet (eBin (eName F₃ rfl (eList (aCons (eCallB "sum" F₃ (aCons (eName F₃ rfl (aNil (xSum F₃ r'.handled hcs (by simp) ?_ fun t₄ h₄ tk₄ F₄ => aNil (xListI F₄ fun a₅ h₅ I₅ _ _ F₅ u₅ l₅ => ?_)))))))))))
  · intro d hd
    simp only [List.mem_map] at hd
    obtain ⟨k, hk, rfl⟩ := hd
    have hk5 : k < 5 := by simpa using hk
    have : cs.getD k 0 ≤ 1000 := hb _ (by rw [List.getD_eq_getElem?_getD, List.getElem?_eq_getElem (by first | assumption | exact Nat.le_trans (by assumption) (by decide) | omega)]; simp)
    omega
  · refine oCat NatR.mono F₅ (LOf.mono NatR.mono _ _ _ _ u₅ hcs) (ds' := [((List.range 5).map (fun k => cs.getD k 0 - os.getD k 0)).sum]) ⟨a₅, _, rfl, l₅, .cons ⟨_, rfl⟩ .nil⟩ (by simp) fun D h₆ I₆ F₆ u₆ hD => ⟨_, rfl, K _ _ _ _ F₆.done hD⟩
end
end Mine

namespace Mine

inductive PR (I : Heap) (v : Value) (p : List Nat × List Nat) : Prop
  | mk (t : Addr) (x y : Value) (e : v = .ref t) (ht : I.IsTuple t #[x, y]) (hx : LOf Th I x p.1) (hy : LOf Th I y p.2)
theorem PR.mono : Mono PR := fun _ _ _ _ k ⟨t, x, y, e, ht, hx, hy⟩ => ⟨t, x, y, e, IsTuple.up ht k, LOf.mono Th.mono _ _ _ _ k hx, LOf.mono Th.mono _ _ _ _ k hy⟩

section
variable {prog : Program} {w : World} {A : Around} {E : Value → Shared → Prop} {s b : Shared} {env : Env} {h₀ I₀ I h : Heap} {m : Str → Option Value} {ms : List (Addr × Obj)} {tk : Nat} {fs : List Addr}

theorem Fm.extBut {h' : Heap} (F : Fm w fs h₀ I₀ I env h m ms) (x : Heap.ExtBut h.objs.size h h') : Fm w fs h₀ I₀ I env h' m ms := F.keeps fun b o e => x b o (fun q => by rw [q, get_size] at e; cases e) e

theorem xBind {x : Str} {v : Value} {Q : Unit → Shared → Prop} (F : Fm w fs h₀ I₀ I env h m ms) (C : CellsNew h₀ env)
    (k : ∀ h' tk', Fm w fs h₀ I₀ I env h' (upd m x v) ms → Q () (St b h' tk')) (hk : nameOk env x = true := by kernel_rfl!) : wpAny (model prog w) A (bindName env x v) Q E (St b h tk) := wpAny_bindName (F.st C k hk)

inductive TupR (w : World) (b : Shared) (fs : List Addr) (h₀ I₀ : Heap) (env : Env) (m : Str → Option Value) (G : Value → Value → Str → Option Value) (Q : Flow → Shared → Prop) (v : Value) (s : Shared) : Prop
  | mk (h₁ : Heap) (tk₁ : Nat) (I₁ : Heap) (ms₁ : List (Addr × Obj)) (t : Addr) (va vb : Value) (ev : v = .ref t) (e : s = St b h₁ tk₁) (F : Fm w fs h₀ I₀ I₁ env h₁ m ms₁) (ht : I₁.IsTuple t #[va, vb]) (k : ∀ h' tk', Fm w fs h₀ I₀ I₁ env h' (G va vb) ms₁ → Q .next (St b h' tk'))
/-- x, y = (e1, e2), both names locals: the stores are swapped -/
theorem sTup2S {x y : Str} {px py tp vp pos : Pos} {k1 k2 : Nat} {e1 e2 : Expr} {Q : Flow → Shared → Prop} (F : Fm w fs h₀ I₀ I env h m ms) (C : CellsNew h₀ env) (hh : A.handled = none)
    (k : WP (model prog w) A (eval (.Tuple [e1, e2] k2 vp) env) (TupR w b fs h₀ I₀ env m (fun va vb => upd (upd m y vb) x va) Q) E (St b h tk))
    (hs : swapsWithSole [.Tuple [.Name x px, .Name y py] k1 tp] (.Tuple [e1, e2] k2 vp) pos.line env = pure false := by kernel_rfl!)
    (hw : swappedStores [.Tuple [.Name x px, .Name y py] k1 tp] (.Tuple [e1, e2] k2 vp) env = pure (some [x, y]) := by kernel_rfl!)
    (hx : nameOk env x = true := by kernel_rfl!) (hy : nameOk env y = true := by kernel_rfl!) :
    WP (model prog w) A (exec (.Assign [.Tuple [.Name x px, .Name y py] k1 tp] (.Tuple [e1, e2] k2 vp) pos) env) Q E (St b h tk) := by
  refine ⟨Assign_Tuple_swapped (wpAny_mono k.run (fun v s₁ q => ?_) fun _ _ e => e) hs hw⟩
  obtain ⟨h₁, tk₁, I₁, ms₁, t, va, vb, rfl, rfl, F₁, ht, q⟩ := q
  refine wpAny_unpackItems_tuple (s := St b h₁ tk₁) (items := #[va, vb]) hh (IsTuple.up ht F₁.stays) fun h₂ hx₂ => ?_
  refine wpAny_assignInOrder_more (xBind (b := b) (tk := tk₁) (F₁.extBut hx₂) C (fun h₃ tk₃ F₃ => wpAny_assignInOrder_more (xBind F₃ C (fun h₄ tk₄ F₄ => wpAny_assignInOrder_none (q _ _ F₄)) hx)) hy)

/-- x, y = e -/
theorem sTup2 {x y : Str} {px py tp pos : Pos} {k1 : Nat} {e : Expr} {Q : Flow → Shared → Prop} (F : Fm w fs h₀ I₀ I env h m ms) (C : CellsNew h₀ env) (hh : A.handled = none)
    (k : WP (model prog w) A (eval e env) (TupR w b fs h₀ I₀ env m (fun va vb => upd (upd m x va) y vb) Q) E (St b h tk))
    (hs : swapsWithSole [.Tuple [.Name x px, .Name y py] k1 tp] e pos.line env = pure false := by kernel_rfl!)
    (hw : swappedStores [.Tuple [.Name x px, .Name y py] k1 tp] e env = pure none := by kernel_rfl!)
    (hx : nameOk env x = true := by kernel_rfl!) (hy : nameOk env y = true := by kernel_rfl!) :
    WP (model prog w) A (exec (.Assign [.Tuple [.Name x px, .Name y py] k1 tp] e pos) env) Q E (St b h tk) := by
  refine ⟨Assign_Tuple (wpAny_mono k.run (fun v s₁ q => ?_) fun _ _ e => e) hs hw⟩
  obtain ⟨h₁, tk₁, I₁, ms₁, t, va, vb, rfl, rfl, F₁, ht, q⟩ := q
  refine wpAny_assign_Tuple (s := St b h₁ tk₁) (items := #[va, vb]) hh (IsTuple.up ht F₁.stays) rfl rfl fun h₂ hx₂ => ?_
  refine wpAny_assignInOrder_more (wpAny_assign_Name (Fm.st (b := b) (tk := tk₁) (F₁.extBut hx₂) C (fun h₃ tk₃ F₃ => wpAny_assignInOrder_more (wpAny_assign_Name (Fm.st F₃ C (fun h₄ tk₄ F₄ => wpAny_assignInOrder_none (q _ _ F₄)) hy))) hx))

/-- list(l): a list that may turn -/
theorem xListOf {α : Type} {R : Rep α} {v : Value} {ds : List α} {Q : Value → Shared → Prop} (F : Fm w fs h₀ I₀ I env h m ms) (hv : LOf R I v ds) (hb : ds.length ≤ 1000000)
    (k : ∀ a h' vs n, h.get? a = none → Paired (R I) vs ds → Fm w fs h₀ I₀ I env h' m ((a, lobj vs n) :: ms) → (∀ p ∈ ms, p.1 ≠ a) → Q (.ref a) (St b h' tk)) : WP (model prog w) A (call (.type "list") [v]) Q E (St b h tk) := by
  obtain ⟨a, vs, rfl, hl, hp⟩ := hv
  obtain ⟨n, hl⟩ := hl
  have hn := hp.length
  refine ⟨call_list_seq (s := St b h tk) a (.inl rfl) (F.stays _ _ hl) rfl rfl (fun h' c' hk hD => ?_) (by rw [List.size_toArray, sizeLine_eq]; omega)⟩
  exact k _ _ vs c' (get_size _) hp (F.fresh hk (get_size _) hD) fun p hp e => by
    have q : h.get? h.objs.size = some p.2 := e ▸ (F.made p hp).1
    rw [get_size] at q; cases q

theorem xLenT {t : Addr} {vs : List Value} {Q : Value → Shared → Prop} (st : I.StaysIn h) (ht : I.IsTuple t vs.toArray) (hb : vs.length ≤ 1000000) (k : ∀ t tk', Q (.int (vs.length : Nat) t) (St b h tk')) : WP (model prog w) A (call (.builtin "len") [.ref t]) Q E (St b h tk) := by
  refine ⟨PyProof.Rows.len_tuple (s := St b h tk) (items := vs.toArray) (IsTuple.up ht st) (by first | exact Nat.le_trans (by assumption) (by decide) | (simp; omega)) ?_⟩
  have e : vs.toArray.size = vs.length := by simp
  rw [e]; exact k _ _
end
end Mine

namespace Mine
section
variable {prog : Program} {w : World} {A : Around} {E : Value → Shared → Prop} {b : Shared} {env : Env} {h₀ I₀ I h : Heap} {m : Str → Option Value} {ms : List (Addr × Obj)} {tk : Nat} {Q : Value → Shared → Prop} {fs : List Addr}

/-- a call of unorderable_list_difference, both lists the caller's own, that may turn: it takes all of the first off -/
theorem xUld {e a : Addr} {ve va : List Value} {n1 n2 : Nat} {de da : List Nat} {ms' : List (Addr × Obj)} (F : Fm w fs h₀ I₀ I env h m ms) (r : Rm (A.deeper env) 1 20) (S : Stk A fs h₀ I₀) (hf : env.frame = some env.locals)
    (he : (e, lobj ve n1) ∈ ms) (ha : (a, lobj va n2) ∈ ms) (hne : e ≠ a) (pe : Paired (Th I) ve de) (pa : Paired (Th I) va da) (hb1 : de.length ≤ 1000) (hb2 : da.length ≤ 1000) (hms' : ∀ p ∈ ms', p ∈ ms ∧ p.1 ≠ e ∧ p.1 ≠ a)
    (K : ∀ v h' tk' I', Fm w fs h₀ I₀ I' env h' m ms' → I.StaysIn I' → LOf Th I' (.ref e) [] → (∃ t vm, v = .ref t ∧ I'.IsTuple t #[vm, .ref a] ∧ LOf Th I' vm (uld de da).1 ∧ LOf Th I' (.ref a) (uld de da).2) → Q v (St b h' tk')) :
    FnAt 71 (St b h tk).heap ∧ WP (model prog w) (A.deeper env) (call (.ref 71) [.ref e, .ref a]) Q E (St b h tk) := by
  refine ⟨F.fn _, ?_⟩
  have S' := S.push F hf
  have me := F.made _ he
  have ma := F.made _ ha
  have nf : ∀ x o, (x, o) ∈ ms → x ∉ env.locals :: fs := fun x o hx q => by
    obtain ⟨_, _, h3, h4, _⟩ := F.made _ hx
    rcases List.mem_cons.mp q with q | q
    · exact h4 q
    · obtain ⟨o, e⟩ := F.fsIn _ q
      rw [h3] at e; cases e
  refine uld_ok F.wd F.stays r S' (nf _ _ he) (nf _ _ ha) me.1 ma.1 hne me.2.1 ma.2.1 pe pa hb1 hb2 fun v h' tk' I' va' n1' n2' D q1 q2 q3 q4 q5 q6 => ?_
  have F₁ : Fm w fs h₀ I₀ I' env h' m ((e, lobj [] n1') :: (a, lobj va' n2') :: ms') := F.back (as := [e, a]) (fun x hx => by
      simp at hx
      rcases hx with rfl | rfl
      · exact ⟨_, he⟩
      · exact ⟨_, ha⟩) D fun p hp => by
    rcases List.mem_cons.mp hp with rfl | hp
    · exact .inr ⟨by simp, q1, q3⟩
    rcases List.mem_cons.mp hp with rfl | hp
    · exact .inr ⟨by simp, q2, q4⟩
    · have := hms' p hp
      exact .inl ⟨this.1, by simpa using this.2⟩
  have F₂ := F₁.freeze (a := e) (o := lobj [] n1') (ms' := (a, lobj va' n2') :: ms') (.head _) fun p hp => by
    rcases List.mem_cons.mp hp with rfl | hp
    · exact ⟨by simp, hne.symm⟩
    · exact ⟨by simp [hp], (hms' p hp).2.1⟩
  have F₃ := F₂.freeze (a := a) (o := lobj va' n2') (ms' := ms') (.head _) fun p hp => ⟨by simp [hp], (hms' p hp).2.2⟩
  have u₂ := add_up (a := e) F₁.stays
  have u₃ := add_up (a := a) F₂.stays
  have u := stays_trans u₂ u₃
  obtain ⟨t, vm, rfl, ht, hvm⟩ := q6
  refine K _ _ _ _ F₃ (stays_trans D.ext.1 u) ⟨e, [], rfl, PlainList.up ⟨n1', add_new.trans q1⟩ u₃, .nil⟩ ⟨t, vm, rfl, IsTuple.up ht u, LOf.mono Th.mono _ _ _ _ u hvm, a, va', rfl, ⟨n2', add_new.trans q2⟩, Th.mono.paired u q5⟩

theorem xIsTup {t : Addr} {items : Array Value} (st : I.StaysIn h) (ht : I.IsTuple t items) (k : Q (.bool true) (St b h tk)) : WP (model prog w) A (call (.builtin "isinstance") [.ref t, .type "tuple"]) Q E (St b h tk) := by
  obtain ⟨o, ho, hc, _⟩ := ht
  exact ⟨PySem.IsiPair.tuple_tuple (s := St b h tk) (st _ _ ho) hc k⟩

theorem patch_ok {v v' : Value} {d1 d2 : List Nat} (W : Wd w I) (st : I.StaysIn h) (r : Rm A 2 30) (S : Stk A fs h I) (hv : LOf Th I v d1) (hv' : LOf Th I v' d2) (hb1 : d1.length ≤ 1000) (hb2 : d2.length ≤ 1000)
    (K : ∀ x h' tk' I', Done fs h I h' I' → PR I' x (uld d1 d2) → Q x (St b h' tk')) :
    WP (model prog w) A (call (.ref 190) [v, v']) Q E (St b h tk) := by
  refine wEnter 190 [("one", v), ("two", v')] fs W st r.room (fun f hf => let ⟨o, _, _, q, _⟩ := S.dic f hf; ⟨o, q⟩) (fun L h₁ tk₁ F C => ?_)
  have r' := Rm.deeper (d := 1) (u := 27) r (envAt w 190 L)
  refine sCons (sTup2S F C r'.handled (eTuple (aCons (eCallT "list" F (aCons (eName F rfl (aNil (xListOf F hv (by first | assumption | exact Nat.le_trans (by assumption) (by decide) | omega) fun e h₂ ve ne _ pe F₂ _ => aCons (eCallT "list" F₂ (aCons (eName F₂ rfl (aNil (xListOf F₂ hv' (by first | assumption | exact Nat.le_trans (by assumption) (by decide) | omega) fun a h₃ va na _ pa F₃ ha =>
    aNil (xTupleI F₃ fun t h₄ I₄ _ F₄ u₄ ht => ⟨h₄, _, I₄, _, t, .ref e, .ref a, rfl, rfl, F₄, ht, fun h₅ tk₅ F₅ => ?_⟩))))))))))))))
  have hne : e ≠ a := ha _ (.head _)
  refine sCons (sAssign (eCallG 71 F₅ (aCons (eName F₅ rfl (aCons (eName F₅ rfl (aNil (xUld (ms' := []) F₅ r'.mono S rfl (.tail _ (.head _)) (.head _) hne (Th.mono.paired u₄ pe) (Th.mono.paired u₄ pa) hb1 hb2 (fun _ q => nomatch q)
    fun told h₆ tk₆ I₆ F₆ u₆ l0 ht' => ?_))))))))
  obtain ⟨t', vm, rfl, ht', hm, hs⟩ := ht'
  refine xSt F₆ C fun h₇ tk₇ F₇ => ?_
  refine sCons (sIf (tOr (tNot (tPlain (eCallB "isinstance" F₇ (aCons (eName F₇ rfl (aCons (eBui (.type "tuple") F₇ (aNil ?_))))))))))
  refine xIsTup F₇.stays ht' (vBool ?_)
  refine iteF (by decide) ?_
  refine tOr (tCmp (eCallB "len" F₇ (aCons (eName F₇ rfl (aNil (xLenT (vs := [vm, .ref a]) F₇.stays ht' (by simp) fun _ _ => eInt fun _ _ => qNe (vBool ?_)))))))
  refine iteF (by simp) ?_
  refine tOr (tCmp (eName F₇ rfl (eList (aNil (xListI F₇ fun z h₈ I₈ _ _ F₈ u₈ hz => cNe Th.eqRep Th.mono F₈.stays r'.ule (LOf.mono Th.mono _ _ _ _ u₈ l0) ⟨z, [], rfl, hz, .nil⟩ (vBool ?_))))))
  refine iteF (by decide) ?_
  refine tOr (tCmp (eSub (eName F₈ rfl (eInt fun _ _ => xItemT (j := 1) (vs := [vm, .ref a]) (IsTuple.up (IsTuple.up ht' u₈) F₈.stays) rfl (by simp) (eName F₈ rfl ⟨wpAny_isNot_ref_self (vBool ?_)⟩)))))
  refine iteF (by decide) ?_
  refine tOrNil ?_
  refine iteF (by decide) ?_
  refine sNil (sCons (sRet (eName F₈ rfl ⟨_, rfl, K _ _ _ _ F₈.done ⟨t', vm, .ref a, rfl, IsTuple.up ht' u₈, LOf.mono Th.mono _ _ _ _ u₈ hm, LOf.mono Th.mono _ _ _ _ u₈ hs⟩⟩)))
end
end Mine

namespace Mine
section
variable {prog : Program} {w : World} {A : Around} {E : Value → Shared → Prop} {s b : Shared} {env : Env} {h₀ I₀ I h : Heap} {m : Str → Option Value} {ms : List (Addr × Obj)} {tk : Nat} {Q : Value → Shared → Prop} {fs : List Addr}

theorem eNeg {i : Int} {n : Nat} {p pos : Pos} (k : ∀ t tk', Q (.int (-i) t) (St b h tk')) : WP (model prog w) A (eval (.UnaryOp .USub (.Constant (.int i) n p) pos) env) Q E (St b h tk) :=
  ⟨UnaryOp_ (cInt fun _ _ => PyProof.Rows.neg_int (k _ _))⟩

theorem xLast {α : Type} {R : Rep α} {value slice : Expr} {v : Value} {ds : List α} {t : Tok} {d : α} {ops : List Value} (st : I.StaysIn h) (l : LOf R I v ds) (hd : ds.getLast? = some d) (hb : ds.length ≤ 1000000) (k : ∀ y, R I y d → Q y (St b h tk))
    (hs : subscripted slice false v (.int (-1) t) = operate ops (getItem v (.int (-1) t)) := by with_unfolding_all rfl) :
    WP (model prog w) A (subscriptTail value slice v (.int (-1) t)) Q E (St b h tk) := by
  obtain ⟨a, vs, rfl, hl, hp⟩ := l
  have hn := hp.length
  rw [List.getLast?_eq_getElem?] at hd
  have hpos : 0 < ds.length := by
    rcases Nat.eq_zero_or_pos ds.length with e | e
    · rw [List.length_eq_zero_iff.mp e] at hd; simp at hd
    · exact e
  obtain ⟨y, hy, hR⟩ := Paired.get' hp hd
  refine xItemNeg (IsList.up hl.isList st) (by decide) (by first | assumption | exact Nat.le_trans (by assumption) (by decide) | omega) ?_ (by first | assumption | exact Nat.le_trans (by assumption) (by decide) | omega) (k y hR) hs
  rw [show (-1 + (vs.length : Int)).toNat = ds.length - 1 by omega]
  exact hy

inductive LstR {α : Type} (w : World) (b : Shared) (fs : List Addr) (h₀ I₀ : Heap) (env : Env) (m : Str → Option Value) (R : Rep α) (Q : Value → Shared → Prop) (v : Value) (s : Shared) : Prop
  | mk (h₁ : Heap) (tk₁ : Nat) (I₁ : Heap) (ms₁ : List (Addr × Obj)) (ds : List α) (e : s = St b h₁ tk₁) (F : Fm w fs h₀ I₀ I₁ env h₁ m ms₁) (l : LOf R I₁ v ds) (len : ds.length ≤ 1000000)
    (k : ∀ a h' vs n, Paired (R I₁) vs ds → Fm w fs h₀ I₀ I₁ env h' m ((a, lobj vs n) :: ms₁) → (∀ p ∈ ms₁, p.1 ≠ a) → Q (.ref a) (St b h' tk₁))
/-- list(e), e a list: a list that may turn -/
theorem eListOf {α : Type} {R : Rep α} {np pos : Pos} {e : Expr} (F : Fm w fs h₀ I₀ I env h m ms)
    (k : WP (model prog w) A (eval e env) (LstR w b fs h₀ I₀ env m R Q) E (St b h tk))
    (hk : env.kindOf "list" = some .globalImplicit := by kernel_rfl!)
    (he : starEach [e] env = (false, eval e env) :: starEach [] env := by with_unfolding_all rfl) (hp : (backTo pos (starEach [] env)).any (·.1) = false := by with_unfolding_all rfl) :
    WP (model prog w) A (eval (.Call (.Name "list" np) [e] [] pos) env) Q E (St b h tk) := by
  refine eCallT "list" F (aCons (WP.mono k fun v s₁ q => ?_) he) (hk := hk) (he := he) (hp := hp)
  obtain ⟨h₁, tk₁, I₁, ms₁, ds, rfl, F₁, hl, hb, q⟩ := q
  exact aNil (xListOf F₁ hl hb fun a h' vs n _ p F' ne => q a h' vs n p F' ne)

theorem eItT {value slice : Expr} {pos : Pos} {j : Nat} {t : Addr} {vs : List Value} {v : Value} {n : Nat} {p : Pos} (F : Fm w fs h₀ I₀ I env h m ms) (hs : slice = .Constant (.int (j : Int)) n p) (ht : I.IsTuple t vs.toArray) (hx : vs[j]? = some v) (hb : vs.length ≤ 1000000)
    (kv : ∀ {Q : Value → Shared → Prop}, Q (.ref t) (St b h tk) → WP (model prog w) A (eval value env) Q E (St b h tk)) (k : ∀ tk', Q v (St b h tk')) : WP (model prog w) A (eval (.Subscript value slice pos) env) Q E (St b h tk) := by
  subst hs
  exact eSub (kv (eInt fun _ _ => xItemT (IsTuple.up ht F.stays) hx hb (k _) (by with_unfolding_all rfl)))

theorem done_ok {v v' : Value} {dss : List (List Nat)} {d : List Nat} {p : List Nat × List Nat} (W : Wd w I) (st : I.StaysIn h) (r : Rm A 2 30) (S : Stk A fs h I) (hv : LOf (LOf Th) I v dss) (hv' : PR I v' p) (hd : dss.getLast? = some d) (hb0 : dss.length ≤ 1000) (hb1 : d.length ≤ 1000) (hb2 : p.1.length ≤ 1000) (hb3 : p.2.length ≤ 1000)
    (hab : (uld d p.1).2 = []) (hb4 : (uld d p.1).1.length ≤ 1000)
    (K : ∀ x h' tk' I', Done fs h I h' I' → LOf (LOf Th) I' x (dss ++ [(uld d p.1).1 ++ p.2]) → Q x (St b h' tk')) :
    WP (model prog w) A (call (.ref 197) [v, v']) Q E (St b h tk) := by
  refine wEnter 197 [("seen", v), ("patch", v')] fs W st r.room (fun f hf => let ⟨o, _, _, q, _⟩ := S.dic f hf; ⟨o, q⟩) (fun L h₁ tk₁ F C => ?_)
  have r' := Rm.deeper (d := 1) (u := 27) r (envAt w 197 L)
  obtain ⟨t, g, c, rfl, ht, hg, hc⟩ := hv'
  refine sCons (sTup2 F C r'.handled (eCallG 71 F (aCons (eListOf F (eSub (eName F rfl (eNeg fun _ _ => xLast F.stays hv hd (by first | assumption | exact Nat.le_trans (by assumption) (by decide) | omega) fun y hy => ⟨h₁, _, I, _, d, rfl, F, hy, by first | assumption | exact Nat.le_trans (by assumption) (by decide) | omega, fun e h₂ ve ne pe F₂ _ => ?_⟩)))))))
  refine aCons (eListOf F₂ (eSub (eName F₂ rfl (eInt fun _ _ => xItemT (j := 0) (vs := [g, c]) (IsTuple.up ht F₂.stays) rfl (by simp) ⟨h₂, _, I, _, p.1, rfl, F₂, hg, by first | assumption | exact Nat.le_trans (by assumption) (by decide) | omega, fun a h₃ va na pa F₃ hna => ?_⟩))))
  refine aNil (xUld (ms' := []) F₃ r'.mono S rfl (.tail _ (.head _)) (.head _) (hna _ (.head _)) pe pa hb1 hb2 (fun _ q => nomatch q) fun told h₆ tk₆ I₆ F₆ u₆ l0 ht' => ?_)
  obtain ⟨t', vm, rfl, ht', hm, hs⟩ := ht'
  refine ⟨h₆, tk₆, I₆, _, t', vm, .ref a, rfl, rfl, F₆, ht', fun h₇ tk₇ F₇ => ?_⟩
  rw [hab] at hs
  refine sCons (sIf (tCmp (eName F₇ rfl (eList (aNil (xListI F₇ fun z h₈ I₈ _ _ F₈ u₈ hz => cNe Th.eqRep Th.mono F₈.stays r'.ule (LOf.mono Th.mono _ _ _ _ u₈ hs) ⟨z, [], rfl, hz, .nil⟩ (vBool ?_)))))))
  refine iteF (by decide) ?_
  have u8 := stays_trans u₆ u₈
  refine sNil (sCons (sRet (eBin (eName F₈ rfl (eList (aCons (eBin (eName F₈ rfl (eSub (eName F₈ rfl (eInt fun _ _ => xItemT (j := 1) (vs := [g, c]) (IsTuple.up (IsTuple.up ht u8) F₈.stays) rfl (by simp) ?_)))))))))))
  refine oCat Th.mono F₈ (LOf.mono Th.mono _ _ _ _ u₈ hm) (LOf.mono Th.mono _ _ _ _ u8 hc) (by first | assumption | exact Nat.le_trans (by assumption) (by decide) | omega) fun D h₉ I₉ F₉ u₉ hD => ?_
  refine aNil (xListI F₉ fun z₂ h₁₀ I₁₀ _ _ F₁₀ u₁₀ hz₂ => ?_)
  refine oCat (LOf.mono Th.mono) F₁₀ (LOf.mono (LOf.mono Th.mono) _ _ _ _ (stays_trans u8 (stays_trans u₉ u₁₀)) hv) (ds' := [(uld d p.1).1 ++ p.2]) ⟨z₂, _, rfl, hz₂, .cons (LOf.mono Th.mono _ _ _ _ u₁₀ hD) .nil⟩ (by first | exact Nat.le_trans (by assumption) (by decide) | (simp; omega))
    fun D₂ h₁₁ I₁₁ F₁₁ u₁₁ hD₂ => ⟨_, rfl, K _ _ _ _ F₁₁.done hD₂⟩

theorem oCatM {α : Type} {R : Rep α} {v v' : Value} {ds ds' : List α} (F : Fm w fs h₀ I₀ I env h m ms) (x : LOf R I v ds) (y : LOf R I v' ds') (hb : ds.length + ds'.length ≤ 1000000)
    (k : ∀ a h' vs n, Paired (R I) vs (ds ++ ds') → Fm w fs h₀ I₀ I env h' m ((a, lobj vs n) :: ms) → (∀ p ∈ ms, p.1 ≠ a) → Q (.ref a) (St b h' tk)) : WP (model prog w) A (binaryOp .Add v v') Q E (St b h tk) := by
  obtain ⟨a, vs, rfl, ⟨n, hl⟩, hp⟩ := x
  obtain ⟨a', vs', rfl, ⟨n', hl'⟩, hp'⟩ := y
  have n1 := hp.length
  have n2 := hp'.length
  refine ⟨P.add_list (s := St b h tk) (F.stays _ _ hl) (F.stays _ _ hl') ?_ (by rw [sizeLine_eq]; simp; omega)⟩
  have hk : ∀ b o, h.get? b = some o → (h.push { cls := .type "list", data := .seq (vs.toArray ++ vs'.toArray) }).get? b = some o := fun b o e => Heap.get?_push_of_some _ e
  exact k _ _ (vs ++ vs') 0 (Paired.append hp hp') (F.fresh hk (get_size _) ((Heap.get?_push_size _ rfl).trans (by simp))) fun p hp e => by
    have q : h.get? h.objs.size = some p.2 := e ▸ (F.made p hp).1
    rw [get_size] at q; cases q

/-- what two patches make, one behind the other -/
def joinP (p q : List Nat × List Nat) : List Nat × List Nat := uld (p.1 ++ (uld p.2 q.1).2) ((uld p.2 q.1).1 ++ q.2)

theorem joined_ok {v v' : Value} {p q : List Nat × List Nat} (W : Wd w I) (st : I.StaysIn h) (r : Rm A 2 30) (S : Stk A fs h I) (hv : PR I v p) (hv' : PR I v' q) (hb1 : p.1.length ≤ 300) (hb2 : p.2.length ≤ 300) (hb3 : q.1.length ≤ 300) (hb4 : q.2.length ≤ 300)
    (hl1 : (uld p.2 q.1).1.length ≤ 300) (hl2 : (uld p.2 q.1).2.length ≤ 300)
    (K : ∀ x h' tk' I', Done fs h I h' I' → PR I' x (joinP p q) → Q x (St b h' tk')) :
    WP (model prog w) A (call (.ref 204) [v, v']) Q E (St b h tk) := by
  refine wEnter 204 [("patch", v), ("later", v')] fs W st r.room (fun f hf => let ⟨o, _, _, q, _⟩ := S.dic f hf; ⟨o, q⟩) (fun L h₁ tk₁ F C => ?_)
  have r' := Rm.deeper (d := 1) (u := 27) r (envAt w 204 L)
  obtain ⟨t, g, c, rfl, ht, hg, hc⟩ := hv
  obtain ⟨t', g', c', rfl, ht', hg', hc'⟩ := hv'
  refine sCons (sTup2 F C r'.handled (eCallG 71 F (aCons (eListOf F (eSub (eName F rfl (eInt fun _ _ => xItemT (j := 1) (vs := [g, c]) (IsTuple.up ht F.stays) rfl (by simp) ⟨h₁, _, I, _, p.2, rfl, F, hc, by first | assumption | exact Nat.le_trans (by assumption) (by decide) | omega, fun e h₂ ve ne pe F₂ _ => ?_⟩)))))))
  refine aCons (eListOf F₂ (eSub (eName F₂ rfl (eInt fun _ _ => xItemT (j := 0) (vs := [g', c']) (IsTuple.up ht' F₂.stays) rfl (by simp) ⟨h₂, _, I, _, q.1, rfl, F₂, hg', by first | assumption | exact Nat.le_trans (by assumption) (by decide) | omega, fun a h₃ va na pa F₃ hna => ?_⟩))))
  refine aNil (xUld (ms' := []) F₃ r'.mono S rfl (.tail _ (.head _)) (.head _) (hna _ (.head _)) pe pa (by first | assumption | exact Nat.le_trans (by assumption) (by decide) | omega) (by first | assumption | exact Nat.le_trans (by assumption) (by decide) | omega) (fun _ q => nomatch q) fun told h₆ tk₆ I₆ F₆ u₆ l0 ht₆ => ?_)
  obtain ⟨t₆, vm, rfl, ht₆, hm, hs⟩ := ht₆
  refine ⟨h₆, tk₆, I₆, _, t₆, vm, .ref a, rfl, rfl, F₆, ht₆, fun h₇ tk₇ F₇ => ?_⟩
  refine sCons (sRet (eCallG 71 F₇ (aCons (eBin (eSub (eName F₇ rfl (eInt fun _ _ => xItemT (j := 0) (vs := [g, c]) (IsTuple.up (IsTuple.up ht u₆) F₇.stays) rfl (by simp) (eName F₇ rfl ?_))))))))
  refine oCatM F₇ (LOf.mono Th.mono _ _ _ _ u₆ hg) hs (by first | assumption | exact Nat.le_trans (by assumption) (by decide) | omega) fun e₂ h₈ ve₂ ne₂ pe₂ F₈ _ => ?_
  refine aCons (eBin (eName F₈ rfl (eSub (eName F₈ rfl (eInt fun _ _ => xItemT (j := 1) (vs := [g', c']) (IsTuple.up (IsTuple.up ht' u₆) F₈.stays) rfl (by simp) ?_)))))
  refine oCatM F₈ hm (LOf.mono Th.mono _ _ _ _ u₆ hc') (by first | assumption | exact Nat.le_trans (by assumption) (by decide) | omega) fun a₂ h₉ va₂ na₂ pa₂ F₉ hna₂ => ?_
  refine aNil (xUld (ms' := []) F₉ r'.mono S rfl (.tail _ (.head _)) (.head _) (hna₂ _ (.head _)) pe₂ pa₂ (by first | exact Nat.le_trans (by assumption) (by decide) | (simp; omega)) (by first | exact Nat.le_trans (by assumption) (by decide) | (simp; omega)) (fun _ q => nomatch q) fun told h₁₀ tk₁₀ I₁₀ F₁₀ u₁₀ l₁ ht₁₀ => ?_)
  obtain ⟨t₁₀, vm₂, rfl, ht₁₀, hm₂, hs₂⟩ := ht₁₀
  exact ⟨_, rfl, K _ _ _ _ F₁₀.done ⟨t₁₀, vm₂, .ref a₂, rfl, ht₁₀, hm₂, hs₂⟩⟩
end
end Mine

namespace Mine
theorem NatR.eqRep : EqRep NatR 0 := fun A s v v' d d' _ ⟨t, e⟩ ⟨t', e'⟩ => by
  subst e e'
  have := EqAt.int_int (A := A) (s := s) (d : Int) t (d' : Int) t'
  rwa [show ((d : Int) == (d' : Int)) = decide (d = d') from by rw [Bool.eq_iff_iff]; simp; omega] at this

def fitsB (p : List Nat × List Nat) (cs os : List Nat) : Bool := decide ([cntL p.1, cntL p.2] = [bey cs os, bey os cs])
theorem cntL_length (ds : List Nat) : (cntL ds).length = 6 := by simp [cntL]
section
variable {prog : Program} {w : World} {A : Around} {E : Value → Shared → Prop} {s b : Shared} {env : Env} {h₀ I₀ I h : Heap} {m : Str → Option Value} {ms : List (Addr × Obj)} {tk : Nat} {Q : Value → Shared → Prop} {fs : List Addr}

theorem fits_ok {v vc vo : Value} {p : List Nat × List Nat} {cs os : List Nat} (W : Wd w I) (st : I.StaysIn h) (r : Rm A 3 30) (hv : PR I v p) (hvc : LOf NatR I vc cs) (hvo : LOf NatR I vo os) (hb1 : p.1.length ≤ 1000) (hb2 : p.2.length ≤ 1000) (hc : cs.length = 6) (ho : os.length = 6) (hcb : ∀ c ∈ cs, c ≤ 1000) (hob : ∀ c ∈ os, c ≤ 1000)
    (K : ∀ h' tk' I', Done [] h I h' I' → Q (.bool (fitsB p cs os)) (St b h' tk')) :
    WP (model prog w) A (call (.ref 209) [v, vc, vo]) Q E (St b h tk) := by
  refine wEnter 209 [("patch", v), ("counts", vc), ("others", vo)] [] W st r.room (fun _ q => nomatch q) (fun L h₁ tk₁ F C => ?_)
  have r' := Rm.deeper (d := 2) (u := 27) r (envAt w 209 L)
  obtain ⟨t, g, c, rfl, ht, hg, hcm⟩ := hv
  refine sCons (sRet (eCmp (eComp0 [p.1, p.2] cntL (LOf Th) (LOf NatR) (LOf.mono Th.mono) (LOf.mono NatR.mono) [] (fun _ q => nomatch q) (by simp) (eName F rfl
    ⟨h₁, tk₁, I, rfl, F, fun _ q => (nomatch q), SrcOf.tuple (vs := [g, c]) r'.handled F.stays ht (.cons hg (.cons hcm .nil)), ?_, ?_⟩))))
  · intro d hd v C' I' h' tk' E' ms' hv' u' F'
    exact eCallG 178 F' (aCons (eName F' rfl (aNil ⟨F'.fn _, counts_ok F'.wd F'.stays r'.mono hv' (by
      simp at hd
      rcases hd with rfl | rfl <;> assumption) fun v h₈ tk₈ I₈ D hv8 => ⟨h₈, tk₈, I₈, rfl, F'.aft D, D.ext.1, hv8⟩⟩)))
  intro cs' h₃ tk₃ I₃ F₃ u₃ hcs
  refine eList (aCons (eCallG 183 F₃ (aCons (eName F₃ rfl (aCons (eName F₃ rfl (aNil ⟨F₃.fn _, beyond_ok F₃.wd F₃.stays r'.mono (LOf.mono NatR.mono _ _ _ _ u₃ hvc) (LOf.mono NatR.mono _ _ _ _ u₃ hvo) hc ho hcb fun x h₄ tk₄ I₄ D₄ hx => ?_⟩)))))))
  have F₄ := F₃.aft D₄
  have u₄ := stays_trans u₃ D₄.ext.1
  refine aCons (eCallG 183 F₄ (aCons (eName F₄ rfl (aCons (eName F₄ rfl (aNil ⟨F₄.fn _, beyond_ok F₄.wd F₄.stays r'.mono (LOf.mono NatR.mono _ _ _ _ u₄ hvo) (LOf.mono NatR.mono _ _ _ _ u₄ hvc) ho hc hob fun y h₅ tk₅ I₅ D₅ hy => ?_⟩))))))
  have F₅ := F₄.aft D₅
  refine aNil (xListI F₅ fun z h₆ I₆ _ _ F₆ u₆ hz => ?_)
  have u56 := stays_trans D₅.ext.1 u₆
  refine cEq (LOf.eqRep NatR.eqRep NatR.uniq) (LOf.mono NatR.mono) F₆.stays r'.ule (LOf.mono (LOf.mono NatR.mono) _ _ _ _ (stays_trans D₄.ext.1 u56) hcs) (ds' := [bey cs os, bey os cs]) ⟨z, _, rfl, hz, .cons (LOf.mono NatR.mono _ _ _ _ u56 hx) (.cons (LOf.mono NatR.mono _ _ _ _ u₆ hy) .nil)⟩ ⟨_, rfl, ?_⟩
  exact K _ _ _ F₆.done
end
end Mine

namespace Mine

section
variable {prog : Program} {w : World} {A : Around} {E : Value → Shared → Prop} {s b : Shared} {env : Env} {h₀ I₀ I h h' : Heap} {m : Str → Option Value} {ms : List (Addr × Obj)} {tk : Nat} {fs : List Addr}

/-- only things that may turn have changed -/
theorem Fm.hid {ms' : List (Addr × Obj)} (F : Fm w fs h₀ I₀ I env h m ms) (xs : List Addr) (hx : ∀ a ∈ xs, ∃ o, (a, o) ∈ ms) (hk : ∀ b o, b ∉ xs → h.get? b = some o → h'.get? b = some o) (hms : ∀ p ∈ ms', (p ∈ ms ∧ p.1 ∉ xs) ∨ (p.1 ∈ xs ∧ h'.get? p.1 = some p.2)) : Fm w fs h₀ I₀ I env h' m ms' where
  kind := F.kind
  glob := F.glob
  blt := F.blt
  wd := F.wd
  stays := fun b x e => hk b x (fun q => let ⟨_, q⟩ := hx b q; by rw [(F.made _ q).2.1] at e; cases e) (F.stays b x e)
  keep := fun b x e =>
    have hb : b ∉ xs := fun q => let ⟨_, q⟩ := hx b q; by rw [(F.made _ q).2.2.1] at e; cases e
    ⟨fun hn => hk b x hb ((F.keep b x e).1 hn), let ⟨sl, e'⟩ := (F.keep b x e).2; ⟨sl, hk b _ hb e'⟩⟩
  ext := F.ext
  fsIn := F.fsIn
  ns := let ⟨m', ⟨o, es, n, e, r⟩, hm⟩ := F.ns; ⟨m', ⟨o, es, n, hk _ _ (fun q => let ⟨_, q⟩ := hx _ q; (F.made _ q).2.2.2.1 rfl) e, r⟩, hm⟩
  cells := fun n c hc => let ⟨o, e, hd⟩ := F.cells n c hc; ⟨o, hk _ _ (fun q => let ⟨_, q⟩ := hx _ q; (F.made _ q).2.2.2.2 n c hc rfl) e, hd⟩
  hidL := F.hidL
  hidC := F.hidC
  newL := F.newL
  made := fun p hp => (hms p hp).elim (fun q => let ⟨h1, r⟩ := F.made p q.1; ⟨hk _ _ q.2 h1, r⟩) fun q => let ⟨_, z⟩ := hx _ q.1; ⟨q.2, (F.made _ z).2⟩
theorem Fm.turnE {a : Addr} {o o' : Obj} (F : Fm w fs h₀ I₀ I env h m ((a, o) :: ms)) (hne : ∀ p ∈ ms, p.1 ≠ a) (hk : ∀ b o, b ≠ a → h.get? b = some o → h'.get? b = some o) (ho : h'.get? a = some o') : Fm w fs h₀ I₀ I env h' m ((a, o') :: ms) :=
  F.hid [a] (fun x hx => ⟨o, List.mem_singleton.mp hx ▸ .head _⟩) (fun b x hb e => hk b x (fun q => hb (q ▸ .head _)) e) fun p hp =>
    (List.mem_cons.mp hp).elim (fun q => .inr (q ▸ ⟨.head _, ho⟩)) fun q => .inl ⟨.tail _ q, fun z => hne p q (List.mem_singleton.mp z)⟩
theorem Fm.dropE {a : Addr} {o : Obj} (F : Fm w fs h₀ I₀ I env h m ((a, o) :: ms)) (hne : ∀ p ∈ ms, p.1 ≠ a) (hk : ∀ b o, b ≠ a → h.get? b = some o → h'.get? b = some o) : Fm w fs h₀ I₀ I env h' m ms :=
  F.hid [a] (fun x hx => ⟨o, List.mem_singleton.mp hx ▸ .head _⟩) (fun b x hb e => hk b x (fun q => hb (q ▸ .head _)) e) fun p hp => .inl ⟨.tail _ hp, fun z => hne p hp (List.mem_singleton.mp z)⟩

inductive FAgain (w : World) (b : Shared) (fs : List Addr) (h₀ I₀ : Heap) (env : Env) (it : Addr) (o : Obj) (I : Heap) (P : Heap → (Str → Option Value) → List (Addr × Obj) → Prop) (s : Shared) : Prop
  | mk (h₃ : Heap) (tk₃ : Nat) (I₃ : Heap) (m₃ : Str → Option Value) (ms₃ : List (Addr × Obj)) (e : s = St b h₃ tk₃) (F : Fm w fs h₀ I₀ I₃ env h₃ m₃ ((it, o) :: ms₃)) (ne : ∀ p ∈ ms₃, p.1 ≠ it) (u : I.StaysIn I₃) (hP : P I₃ m₃ ms₃)
def ForTurn {α : Type} (prog : Program) (w : World) (A : Around) (b : Shared) (fs : List Addr) (h₀ I₀ : Heap) (env : Env) (xs : List α) (RI : Rep α) (P : Nat → Heap → (Str → Option Value) → List (Addr × Obj) → Prop) (x : Str) (body : List Stmt) (Q : Flow → Shared → Prop) (I₁ : Heap) : Prop :=
  ∀ i d v I' h' tk' m' ms' it o E', xs[i]? = some d → RI I' v d → I₁.StaysIn I' → Fm w fs h₀ I₀ I' env h' (upd m' x v) ((it, o) :: ms') → (∀ p ∈ ms', p.1 ≠ it) → P i I' m' ms' →
    WP (model prog w) A (execs body env) (LoopQ Q (FAgain w b fs h₀ I₀ env it o I' (P (i + 1)))) E' (St b h' tk')
inductive ForSrc {α : Type} (prog : Program) (w : World) (A : Around) (b : Shared) (fs : List Addr) (h₀ I₀ : Heap) (env : Env) (xs : List α) (RI : Rep α) (P : Nat → Heap → (Str → Option Value) → List (Addr × Obj) → Prop) (x : Str) (body : List Stmt) (Q : Flow → Shared → Prop) (xv : Value) (s : Shared) : Prop
  | mk (h₁ : Heap) (tk₁ : Nat) (I₁ : Heap) (m₁ : Str → Option Value) (ms₁ : List (Addr × Obj)) (e : s = St b h₁ tk₁) (F : Fm w fs h₀ I₀ I₁ env h₁ m₁ ms₁) (src : SrcOf prog w A I₁ xv (St b h₁ tk₁) RI xs) (hP : P 0 I₁ m₁ ms₁)
    (turn : ForTurn prog w A b fs h₀ I₀ env xs RI P x body Q I₁) (fin : ∀ h' tk' I' m' ms', Fm w fs h₀ I₀ I' env h' m' ms' → I₁.StaysIn I' → P xs.length I' m' ms' → Q .next (St b h' tk'))
inductive FInv (w : World) (b : Shared) (fs : List Addr) (h₀ I₀ : Heap) (env : Env) (I₁ : Heap) (it : Addr) (St₂ : Nat → Heap → Prop) (N : Nat) (P : Nat → Heap → (Str → Option Value) → List (Addr × Obj) → Prop) (n : Nat) (s : Shared) : Prop
  | mk (i : Nat) (h' : Heap) (tk' : Nat) (I' : Heap) (m' : Str → Option Value) (ms' : List (Addr × Obj)) (o' : Obj) (en : n + i = N) (e : s = Mine.St b h' tk') (F : Fm w fs h₀ I₀ I' env h' m' ((it, o') :: ms')) (ne : ∀ p ∈ ms', p.1 ≠ it) (u : I₁.StaysIn I') (st : St₂ i h') (hP : P i I' m' ms')
theorem for_core {x : Str} {px : Pos} {body : List Stmt} {Q : Flow → Shared → Prop} {R : Result → Shared → Prop} {I₁ : Heap} {it : Addr} {St₂ : Nat → Heap → Prop} {N : Nat} {Pv : Nat → Value → Prop} {P : Nat → Heap → (Str → Option Value) → List (Addr × Obj) → Prop} (C : CellsNew h₀ env) (W : Iter prog w A I₁ it N Pv St₂)
    (turn : ∀ i v I' h' tk' m' ms' o' E', i < N → Pv i v → I₁.StaysIn I' → Fm w fs h₀ I₀ I' env h' (upd m' x v) ((it, o') :: ms') → (∀ p ∈ ms', p.1 ≠ it) → P i I' m' ms' → WP (model prog w) A (execs body env) (LoopQ Q (FAgain w b fs h₀ I₀ env it o' I' (P (i + 1)))) E' (Mine.St b h' tk'))
    (fin : ∀ h' tk' I' m' ms', Fm w fs h₀ I₀ I' env h' m' ms' → I₁.StaysIn I' → P N I' m' ms' → Q .next (Mine.St b h' tk'))
    (h1 : ∀ s', Q .next s' → R (.ok .next) s') (h2 : ∀ v s', Q (.ret v) s' → R (.ok (.ret v)) s') (hx : nameOk env x = true) (ht : ∀ v, letOwnedTupleGo (.Name x px) (.ref it) v = pure ()) (n : Nat) (s : Shared) (inv : FInv w b fs h₀ I₀ env I₁ it St₂ N P n s) :
    codeAny (model prog w) A (.forLoop (.Name x px) (.ref it) body [] env) R s := by
  refine codeAny_forLoop (FInv w b fs h₀ I₀ env I₁ it St₂ N P) ?_ n inv ht
  rintro n s ⟨i, h', tk', I', m', ms', o', hn, rfl, F', ne', u', st', hP'⟩
  by_cases hi : i < N
  · refine W.item i _ _ _ hi st' fun v h₃ tk₃ hv st₃ hk₃ => ?_
    obtain ⟨o₃, ho₃⟩ := W.there _ _ st₃
    have F₃ := F'.turnE ne' hk₃ ho₃
    refine wpAny_assign_Name (Fm.st (b := b) (tk := tk₃) F₃ C (fun h₄ tk₄ F₄ => ?_) hx)
    have ho₄ := (F₄.made _ (.head _)).1
    have st₄ := W.stable _ _ h₄ st₃ (stays_trans u' F₄.stays) fun o e => by rw [ho₃] at e; cases e; exact ho₄
    refine wpAny_mono (turn i v I' h₄ tk₄ m' ms' o₃ _ hi hv u' F₄ ne' hP').run (fun f s₃ q => ?_) fun _ _ e => e
    have go : FAgain w b fs h₀ I₀ env it o₃ I' (P (i + 1)) s₃ → ∃ m, m < n ∧ FInv w b fs h₀ I₀ env I₁ it St₂ N P m s₃ := by
      rintro ⟨h₅, tk₅, I₅, m₅, ms₅, rfl, F₅, ne₅, u₅, hP₅⟩
      have ho₅ := (F₅.made _ (.head _)).1
      exact ⟨n - 1, by first | assumption | exact Nat.le_trans (by assumption) (by decide) | omega, i + 1, h₅, tk₅, I₅, m₅, ms₅, o₃, by first | assumption | exact Nat.le_trans (by assumption) (by decide) | omega, rfl, F₅, ne₅, stays_trans u' u₅, W.stable _ _ h₅ st₄ (stays_trans (stays_trans u' u₅) F₅.stays) fun o e => by rw [ho₄] at e; cases e; exact ho₅, hP₅⟩
    cases f with
    | next => exact go q
    | cont => exact go q
    | brk => exact h1 _ q
    | ret v => exact h2 _ _ q
  · obtain rfl : i = N := by omega
    exact W.done _ _ _ st' fun h₃ tk₃ hk₃ => wpAny_execs_nil (h1 _ (fin h₃ tk₃ I' m' ms' (F'.dropE ne' hk₃) u' hP'))

/-- for x in e: body; the source a thing of which an iterator is had -/
theorem sFor {α : Type} {x : Str} {px pos : Pos} {iter : Expr} {body : List Stmt} {Q : Flow → Shared → Prop} (F : Fm w fs h₀ I₀ I env h m ms) (C : CellsNew h₀ env) (xs : List α) (RI : Rep α) (mi : Mono RI) (P : Nat → Heap → (Str → Option Value) → List (Addr × Obj) → Prop)
    (k : WP (model prog w) A (eval iter env) (ForSrc prog w A b fs h₀ I₀ env xs RI P x body Q) E (St b h tk))
    (hx : nameOk env x = true := by kernel_rfl!) (hs : ∀ x, foldedSetIterable iter env x = pure x := by intro _; with_unfolding_all rfl) (ht : ∀ it v, letOwnedTupleGo (.Name x px) it v = pure () := by intro _ _; rfl) :
    WP (model prog w) A (exec (.For (.Name x px) iter body [] pos) env) Q E (St b h tk) := by
  refine ⟨wpAny_For (wpAny_mono k.run (fun xv s₁ q => ?_) fun _ _ e => e) hs⟩
  obtain ⟨h₁, tk₁, I₁, m₁, ms₁, rfl, F₁, src, hP, turn, fin⟩ := q
  refine src _ _ fun it h₂ St₂ hit hk W st => ?_
  obtain ⟨o, hio⟩ := W.there 0 _ st
  have F₂ := F₁.fresh hk hit hio
  have ne₂ : ∀ p ∈ ms₁, p.1 ≠ it := fun p hp e => by have := (F₁.made p hp).1; rw [e, show h₁.get? it = none from hit] at this; cases this
  exact for_core C W (fun i v I' h' tk' m' ms' o' E' hi hv u F' ne' hP' => let ⟨d, hd, hR⟩ := hv; turn i d v I' h' tk' m' ms' it o' E' hd (mi _ _ _ _ u hR) u F' ne' hP') fin (fun _ q => q) (fun _ _ q => q) hx (ht _) xs.length _ ⟨0, h₂, tk₁, I₁, m₁, ms₁, o, by first | assumption | exact Nat.le_trans (by assumption) (by decide) | omega, rfl, F₂, ne₂, stays_refl _, st, hP⟩
end

/-! ## rows -/
inductive RowR (I : Heap) (v : Value) (r : Nat × Nat × Nat) : Prop
  | mk (t : Addr) (x y z : Value) (e : v = .ref t) (ht : I.IsTuple t #[x, y, z]) (hx : NatR I x r.1) (hy : NatR I y r.2.1) (hz : Th I z r.2.2)
theorem RowR.mono : Mono RowR := fun _ _ _ _ k ⟨t, x, y, z, e, ht, hx, hy, hz⟩ => ⟨t, x, y, z, e, IsTuple.up ht k, hx, hy, Th.mono _ _ _ _ k hz⟩
theorem IsTuple.inj {h : Heap} {a : Addr} {x y : Array Value} (p : h.IsTuple a x) (q : h.IsTuple a y) : x = y := by
  obtain ⟨o, e, _, n, hd⟩ := p
  obtain ⟨o', e', _, n', hd'⟩ := q
  rw [e] at e'; cases e'
  rw [hd] at hd'; cases hd'; rfl
theorem RowR.uniq : Uniq RowR := by
  rintro I v ⟨a, b, c⟩ ⟨a', b', c'⟩ ⟨t, x, y, z, rfl, ht, hx, hy, hz⟩ ⟨t', x', y', z', e, ht', hx', hy', hz'⟩
  cases e
  have := IsTuple.inj ht ht'
  simp at this
  obtain ⟨rfl, rfl, rfl⟩ := this
  have h1 := NatR.uniq _ _ _ _ hx hx'
  have h2 := NatR.uniq _ _ _ _ hy hy'
  have h3 := Th.uniq _ _ _ _ hz hz'
  simp only at h1 h2 h3
  rw [h1, h2, h3]
theorem RowR.eqRep : EqRep RowR 5 := by
  rintro A s v v' d d' hu x y
  have x0 := x
  have y0 := y
  obtain ⟨a, b, c⟩ := d
  obtain ⟨a', b', c'⟩ := d'
  obtain ⟨t, x1, x2, x3, rfl, ht, hx1, hx2, hx3⟩ := x
  obtain ⟨t', y1, y2, y3, rfl, ht', hy1, hy2, hy3⟩ := y
  by_cases htt : t = t'
  · subst htt
    have e := RowR.uniq _ _ _ _ x0 y0
    rw [e]
    simpa using EqAt.same (A := A) (s := s) (Value.ref t)
  · have e1 := NatR.eqRep A.in1 s _ _ _ _ (by show A.units + 1 + 0 < _; omega) hx1 hy1
    have e2 := NatR.eqRep A.in1 s _ _ _ _ (by show A.units + 1 + 0 < _; omega) hx2 hy2
    have e3 := Th.eqRep A.in1 s _ _ _ _ (by show A.units + 1 + 4 < _; omega) hx3 hy3
    have := RcAt.tuples (A := A) ht ht' (by first | assumption | exact Nat.le_trans (by assumption) (by decide) | omega) (e := fun j => if j = 0 then decide (a = a') else if j = 1 then decide (b = b') else decide (c = c')) (fun j h1 h2 => by
      match j, h1 with
      | 0, _ => exact e1
      | 1, _ => exact e2
      | 2, _ => exact e3)
    refine EqAt.of_refs htt ?_
    have e : decide ((a, b, c) = (a', b', c')) = ((List.range (min (#[x1, x2, x3] : Array Value).size (#[y1, y2, y3] : Array Value).size)).all (fun j => if j = 0 then decide (a = a') else if j = 1 then decide (b = b') else decide (c = c')) && (#[x1, x2, x3] : Array Value).size == (#[y1, y2, y3] : Array Value).size) := by
      rw [Bool.eq_iff_iff]
      simp [List.range_succ]
    rw [e]; exact this
end Mine

namespace Mine
def rowsStep (one two : List Nat) (acc : List (Nat × Nat × Nat)) (k : Nat) : List (Nat × Nat × Nat) :=
  if one.count k ≠ two.count k ∧ (one.count k, two.count k, k) ∉ acc then acc ++ [(one.count k, two.count k, k)] else acc
def rowsF (one two : List Nat) : List (Nat × Nat × Nat) := (one ++ two).foldl (rowsStep one two) []
theorem rowsStep_length (one two acc k) : (rowsStep one two acc k).length ≤ acc.length + 1 := by unfold rowsStep; split <;> simp
inductive RowP (one two : List Nat) (I : Heap) (M a1 a2 : Addr) (i : Nat) (I' : Heap) (m' : Str → Option Value) (ms' : List (Addr × Obj)) : Prop
  | mk (vm : List Value) (nm : Nat) (e : ms' = [(M, lobj vm nm)]) (h1 : m' "rows" = some (.ref M)) (h2 : m' "one" = some (.ref a1)) (h3 : m' "two" = some (.ref a2)) (u : I.StaysIn I') (p : Paired (RowR I') vm (((one ++ two).take i).foldl (rowsStep one two) [])) (len : (((one ++ two).take i).foldl (rowsStep one two) []).length ≤ i)
section
variable {prog : Program} {w : World} {A : Around} {E : Value → Shared → Prop} {s b : Shared} {env : Env} {h₀ I₀ I h : Heap} {m : Str → Option Value} {ms : List (Addr × Obj)} {tk : Nat} {Q : Value → Shared → Prop} {fs : List Addr}

theorem xNotIn {α : Type} [DecidableEq α] {R : Rep α} {u : Nat} {x : Value} {a : Addr} {vs : List Value} {n : Nat} {ds : List α} {d : α} (er : EqRep R u) (uq : Uniq R) (mo : Mono R) (st : I.StaysIn h) (hu : A.units + (u + 2) < cLine) (hl : h.get? a = some (lobj vs n)) (hp : Paired (R I) vs ds) (hx : R I x d)
    (k : Q (.bool (decide (d ∉ ds))) (St b h tk)) : WP (model prog w) A (compareOp .NotIn x (.ref a)) Q E (St b h tk) := by
  have hp' := mo.paired st hp
  have hx' := mo _ _ _ _ st hx
  refine ⟨notIn_listAt (s := St b h tk) (fun y => @decide (R h y d) (Classical.propDecidable _)) (items := vs.toArray) ⟨_, hl, rfl, n, rfl⟩ (eqAt_of (s := St b h tk) (A := A.in1) er uq (by show A.units + 1 + u < _; omega) hx' hp') ?_⟩
  have e : (!(vs.toArray.any fun y => @decide (R h y d) (Classical.propDecidable _))) = decide (d ∉ ds) := by
    rw [List.any_toArray]
    have key : ∀ {vs : List Value} {ds : List α}, Paired (R h) vs ds → (vs.any fun y => @decide (R h y d) (Classical.propDecidable _)) = decide (d ∈ ds) := by
      intro vs ds hp
      induction hp with
      | nil => simp
      | @cons v c r rs hv _ ih =>
        rw [List.any_cons, ih]
        by_cases q : c = d
        · subst q; simp [hv]
        · have : ¬ R h v d := fun z => q (uq _ _ _ _ hv z)
          simp [this, Ne.symm q]
    rw [key hp']
    simp
  rw [e]; exact k

theorem rows_ok {v v' : Value} {one two : List Nat} (W : Wd w I) (st : I.StaysIn h) (r : Rm A 1 30) (hv : LOf Th I v one) (hv' : LOf Th I v' two) (hb1 : one.length ≤ 300) (hb2 : two.length ≤ 300)
    (K : ∀ x h' tk' I', Done [] h I h' I' → LOf RowR I' x (rowsF one two) → Q x (St b h' tk')) :
    WP (model prog w) A (call (.ref 216) [v, v']) Q E (St b h tk) := by
  obtain ⟨a1, vs1, rfl, l1, p1⟩ := id hv
  obtain ⟨a2, vs2, rfl, l2, p2⟩ := id hv'
  refine wEnter 216 [("one", .ref a1), ("two", .ref a2)] [] W st r.room (fun _ q => nomatch q) (fun L h₁ tk₁ F C => ?_)
  have r' := Rm.deeper (d := 0) (u := 27) r (envAt w 216 L)
  refine sCons (sAssign (eList (aNil (xListM F fun M h₂ hM F₂ hMs => xSt F₂ C fun h₃ tk₃ F₃ => ?_))))
  refine sCons (sFor F₃ C (one ++ two) Th Th.mono (RowP one two I M a1 a2)
    (eBin (eName F₃ rfl (eName F₃ rfl (oCat Th.mono F₃ hv hv' (by first | assumption | exact Nat.le_trans (by assumption) (by decide) | omega) fun D h₄ I₄ F₄ u₄ hD => ⟨h₄, _, I₄, _, _, rfl, F₄, SrcOf.list r'.handled F₄.stays hD, ⟨[], 0, rfl, rfl, rfl, rfl, u₄, .nil, by simp⟩, ?_, ?_⟩)))))
  · rintro i d v I' h' tk' m' ms' it o E' hd hv₅ u' F' ne' ⟨vm, nm, rfl, hm1, hm2, hm3, uI, pm, hlen⟩
    have nvm := pm.length
    have hi : i < (one ++ two).length := (List.getElem?_eq_some_iff.mp hd).1
    have hi' : i < 600 := by simp at hi; omega
    have ht : (one ++ two).take (i + 1) = (one ++ two).take i ++ [d] := by rw [List.take_add_one, hd]; rfl
    have hst : ((one ++ two).take (i + 1)).foldl (rowsStep one two) [] = rowsStep one two (((one ++ two).take i).foldl (rowsStep one two) []) d := by rw [ht, List.foldl_append]; rfl
    generalize ((one ++ two).take i).foldl (rowsStep one two) [] = acc at pm hlen nvm hst
    have pl1 := PlainList.up (PlainList.up l1 uI) F'.stays
    have pl2 := PlainList.up (PlainList.up l2 uI) F'.stays
    refine sCons (sAssign (eTuple (aCons (eMethL1 "list.count" F' hm2 pl1 PySem.F.slot_list_count PySem.F.type_list_count (eName F' rfl (xCount Th.eqRep Th.uniq Th.mono F'.stays r'.ule (LOf.mono Th.mono _ _ _ _ uI hv) hv₅ fun t₁ tk₁ => ?_)))))) 
    refine aCons (eMethL1 "list.count" F' hm3 pl2 PySem.F.slot_list_count PySem.F.type_list_count (eName F' rfl (xCount Th.eqRep Th.uniq Th.mono F'.stays r'.ule (LOf.mono Th.mono _ _ _ _ uI hv') hv₅ fun t₂ tk₂ => ?_)))
    refine aCons (eName F' rfl (aNil (xTupleI F' fun t h₅ I₅ _ F₅ u₅ ht₅ => xSt F₅ C fun h₆ tk₆ F₆ => ?_)))
    have hrow : RowR I₅ (.ref t) (one.count d, two.count d, d) := ⟨t, _, _, _, rfl, ht₅, ⟨_, rfl⟩, ⟨_, rfl⟩, Th.mono _ _ _ _ u₅ hv₅⟩
    have hM6 := (F₆.made (M, lobj vm nm) (by simp)).1
    refine sCons (sIf (tAnd (tCmp (eSub (eName F₆ rfl (eInt fun _ _ => xItemT (j := 0) (vs := [_, _, _]) (IsTuple.up ht₅ F₆.stays) rfl (by simp) (eSub (eName F₆ rfl (eInt fun _ _ => xItemT (j := 1) (vs := [_, _, _]) (IsTuple.up ht₅ F₆.stays) rfl (by simp) (qNe (vBool ?_)))))))))))
    have fin : ∀ (hnot : ¬ (one.count d ≠ two.count d ∧ (one.count d, two.count d, d) ∉ acc)) (tk₉ : Nat), FAgain w b [] h I (envAt w 216 L) it o I' (RowP one two I M a1 a2 (i + 1)) (St b h₆ tk₉) := fun hnot tk₉ =>
      ⟨h₆, tk₉, I₅, _, _, rfl, F₆, ne', u₅, vm, nm, rfl, hm1, hm2, hm3, stays_trans uI u₅, by rw [hst, rowsStep, if_neg hnot]; exact RowR.mono.paired u₅ pm, by rw [hst, rowsStep, if_neg hnot]; omega⟩
    by_cases hc : one.count d = two.count d
    · refine iteF (by simp [hc]) (iteF (by simp) ?_)
      exact sNil (sAgain (fin (fun q => q.1 hc) _))
    · refine iteT (by first | exact Nat.le_trans (by assumption) (by decide) | (simp; omega)) ?_
      refine tAnd (tCmp (eName F₆ rfl (eName F₆ hm1 (xNotIn RowR.eqRep RowR.uniq RowR.mono F₆.stays r'.ule hM6 (RowR.mono.paired u₅ pm) hrow (vBool ?_)))))
      by_cases hin : (one.count d, two.count d, d) ∈ acc
      · refine iteF (by simp [hin]) (iteF (by simp) ?_)
        exact sNil (sAgain (fin (fun q => q.2 hin) _))
      · refine iteT (by simp [hin]) ?_
        refine tAndNil ?_
        refine iteT rfl ?_
        refine sCons (sExpr (eMethL1 "list.append" F₆ hm1 ⟨_, hM6⟩ PySem.F.slot_list_append PySem.F.type_list_append (eName F₆ rfl (xAppend F₆ (.tail _ (.head _)) (by first | assumption | exact Nat.le_trans (by assumption) (by decide) | omega) fun h₉ F₉ => ⟨fun _ q => (nomatch q), ?_⟩))))
        have hMit : M ≠ it := ne' _ (.head _)
        have e9 : setM [(it, o), (M, lobj vm nm)] M (lobj (vm ++ [.ref t]) (nm + 1)) = [(it, o), (M, lobj (vm ++ [.ref t]) (nm + 1))] := by simp [setM, Ne.symm hMit]
        rw [e9] at F₉
        refine sNil (sAgain ⟨h₉, _, I₅, _, _, rfl, F₉, (fun p hp => by simp at hp; rw [hp]; exact hMit), u₅, vm ++ [.ref t], nm + 1, rfl, hm1, hm2, hm3, stays_trans uI u₅, ?_, by rw [hst]; exact Nat.le_trans (rowsStep_length _ _ _ _) (by first | assumption | exact Nat.le_trans (by assumption) (by decide) | omega)⟩)
        rw [hst, rowsStep, if_pos ⟨hc, hin⟩]
        exact Paired.append (RowR.mono.paired u₅ pm) (.cons hrow .nil)
  · rintro h' tk' I' m' ms' F' u' ⟨vm, nm, rfl, hm1, hm2, hm3, uI, pm, hlen⟩
    rw [List.take_length] at pm
    have F₅ := F'.freeze (a := M) (o := lobj vm nm) (ms' := []) (.head _) (fun _ q => nomatch q)
    have u₅ := add_up (a := M) F'.stays
    exact sCons (sRet (eName F₅ hm1 ⟨_, rfl, K _ _ _ _ F₅.done ⟨M, vm, rfl, ⟨nm, add_new.trans (F'.made _ (.head _)).1⟩, RowR.mono.paired u₅ pm⟩⟩))
end
end Mine

namespace Mine

theorem mro_object : mroOf (.type "object") = pure [.type "object"] := by rw [mroOf_type]; kernel_rfl
theorem lookup_object_new : typeLookup (.type "object") "__new__" = pure (some (.builtin "object.__new__")) := by rw [typeLookup_type, builtinLookup_eq_fast]; kernel_rfl
theorem slot_object_init : Slot "object" "__init__" "object.__init__" :=
  .of (owner := "object") (n := "__init__") (by rw [typeLookup_type, builtinLookup_eq_fast]; kernel_rfl) (by decide +kernel) (by decide +kernel) (by decide +kernel)
    (by first | exact .inl (by decide +kernel) | exact .inr (by decide +kernel)) (by rw [isSubtype_type]; kernel_rfl)
theorem called_object : TypeCalled "object" "object.__new__" "object.__init__" :=
  ⟨by decide +kernel, by decide +kernel, ⟨_, _, mro_object⟩, madeBy_type mro_object lookup_object_new (by decide +kernel), by decide +kernel, by rw [isSubtype_type]; kernel_rfl, slot_object_init⟩
theorem typeCall_object_0 : checkTypeCall "object" ⟨[], []⟩ = pure () := by kernel_rfl
theorem newCall_object_0 : checkBuiltinCall "object.__new__" ⟨[.type "object"], []⟩ = pure () := by kernel_rfl
theorem madeHere_object : Bind.madeHere "object.__new__" (.type "object") = pure () := by
  unfold Bind.madeHere
  have e : Bind.staticBase (.type "object") = pure (.type "object") := by first | rfl | kernel_rfl
  rw [e]
  simp only [pure_bind, called_object.made]
  rfl
theorem entry_object_new : entryFor table "object.__new__" = some Builtin.«object.__new__» := entryFor_of_tree (by kernel_rfl)

theorem meets_object_new : Meets (Builtin.«object.__new__» ⟨[.type "object"], []⟩) (fun _ R s => R (.ok (.ret (.ref s.heap.objs.size))) { s with heap := s.heap.push { cls := .type "object", data := .plain } }) :=
  .of_wp fun prog w A R s h => by
    obtain ⟨hp, g, d, tk, os⟩ := s
    have h1 := madeHere_object
    have h2 : typeHasDict (.type "object") = false := by decide +kernel
    have h3 : diesByItsTypesDel "object" = false := by decide +kernel
    have h4 : (Manifest.find? "object").elim false (·.mro.any fun t => (Manifest.find? t).elim false (·.noNew)) = false := by decide +kernel
    unfold Builtin.«object.__new__»
    wp_walk
    exact ⟨_, rfl, h⟩

section
variable {prog : Program} {w : World} {A : Around} {E : Value → Shared → Prop} {s : Shared} {Q : Value → Shared → Prop}
theorem call_object0 (h : Q (.ref s.heap.objs.size) { s with heap := s.heap.push { cls := .type "object", data := .plain } }) : wpAny (model prog w) A (call (.type "object") []) Q E s := by
  refine callType_meets (Q₁ := fun obj s₁ => obj = .ref s.heap.objs.size ∧ s₁ = { s with heap := s.heap.push { cls := .type "object", data := .plain } }) called_object typeCall_object_0 newCall_object_0 entry_object_new PySem.F.entry_object_init meets_object_new ⟨rfl, rfl⟩ fun obj s₁ hq => ?_
  obtain ⟨rfl, rfl⟩ := hq
  exact ⟨⟨_, Heap.get?_push_size _ rfl, rfl⟩, PySem.F.args_object_init_1 _, fun _ R s => R (.ok (.ret .none)) s, Meets.of_wp fun prog w A R s hs => wpAny_pure ⟨_, rfl, hs⟩, rfl, h⟩
end
end Mine

namespace Mine

/-! ## equality without the shortcut of one and the same; an object of no kind -/
theorem Th.rc {A : Around} {s : Shared} {v v' : Value} {k k' : Nat} (hu : A.units + 4 < cLine) (x : Th s.heap v k) (y : Th s.heap v' k') : RcAt A s v v' (decide (k = k')) := by
  obtain ⟨hk, a, rfl, ha, h⟩ := x
  obtain ⟨hk', a', rfl, ha', h'⟩ := y
  have hu1 : A.units < cLine := by omega
  have bx : (a == sysModules) = false := by simpa using ha
  have by' : (a' == sysModules) = false := by simpa using ha'
  rcases h with ⟨p, o, hs, t, l, n, tk, q1, q2, q3, q4⟩ | ⟨p, tk, e, q1, q2⟩ <;> rcases h' with ⟨p', o', hs', t', l', n', tk', q1', q2', q3', q4'⟩ | ⟨p', tk', e', q1', q2'⟩
  · have he := eqAt_reads (.list [.int (k : Int)]) (.list [.int (k' : Int)]) A.in1 s (.ref l) (.ref l') _ _ (reads_int1 q4) (reads_int1 q4') rfl rfl (by show A.units + 1 + _ < _; simp [PyData.depth, PyData.depthAll]; omega)
    refine rc_dict1 bx by' q1 q2 q3 q1' q2' q3' hu1 ?_
    have e2 : PyData.eqv (.list [.int (k : Int)]) (.list [.int (k' : Int)]) = decide (k = k') := by
      simp [PyData.eqv, PyData.eqvAll]
      by_cases hkk : k = k'
      · simp [hkk]
      · simp [hkk]; omega
    rwa [e2] at he
  · have e2 : decide (k = k') = false := by simp; omega
    rw [e2]
    exact rc_dict_list q1' q1 q2 q3 hu1
  · have e2 : decide (k = k') = false := by simp; omega
    rw [e2]
    exact rc_list_dict q1 q1' q2' q3' hu1
  · have h1 := EqAt.int_int (A := A.in1) (s := s) (k : Int) tk (k' : Int) tk'
    have h2 := eqAt_reads (.list []) (.list []) A.in1 s (.ref e) (.ref e') _ _ (by obtain ⟨o, q, hc, n, hd⟩ := q2; exact .list q hc hd .nil) (by obtain ⟨o, q, hc, n, hd⟩ := q2'; exact .list q hc hd .nil) rfl rfl (by show A.units + 1 + _ < _; simp [PyData.depth, PyData.depthAll]; omega)
    have := RcAt.lists (A := A) q1 q1' rfl (by first | assumption | exact Nat.le_trans (by assumption) (by decide) | omega) (e := fun j => if j = 0 then ((k : Int) == (k' : Int)) else PyData.eqv (.list []) (.list [])) (fun j hj hj' => by
      match j, hj with
      | 0, _ => exact h1
      | 1, _ => exact h2)
    have e2 : ((List.range (#[Value.int (k : Int) tk, .ref e] : Array Value).size).all fun j => if j = 0 then ((k : Int) == (k' : Int)) else PyData.eqv (.list []) (.list [])) = decide (k = k') := by
      rw [Bool.eq_iff_iff]
      simp [List.range_succ, PyData.eqv, PyData.eqvAll]
      omega
    rw [← e2]; exact this

theorem list_eq_declines_object (l b : Addr) (items : Array Value) (n : Nat) (dd : Option Addr) (sl : Array (Option Value)) (ob : Obj) (hob : ob.cls = .type "object") :
    Meets (Builtin.«list.__eq__» ⟨[.ref l, .ref b], []⟩) (fun _ R s => s.heap.get? l = some { cls := .type "list", dict := dd, data := .seq items n, slots := sl } ∧ s.heap.get? b = some ob ∧ R (.ok (.ret .notImplemented)) s) := by
  obtain ⟨c, d2, dt, s2⟩ := ob
  simp only at hob
  subst hob
  exact .of_wp fun prog w A R s h => by obtain ⟨hp, g, d, tk, os⟩ := s; obtain ⟨hl, hb, h⟩ := h; have f1 := PySem.F.sub_object_list; wp_walk using wpAny_loadPart' hl, wpAny_loadPart' hb; exact ⟨_, rfl, h⟩

theorem rc_eq_decline_sub {M : Model} {A : Around} {E : Value → Shared → Prop} {s : Shared} {a b : Value} {Ta Tb ida idb : String} {k : Bool} {Q : Value → Shared → Prop} (ha : s.TypeIs a Ta) (hb : s.TypeIs b Tb)
    (hne : (Value.type Ta != Value.type Tb) = true) (hsub : isSubtype (.type Tb) (.type Ta) = pure true) (h1 : Slot Ta (cmpInfo .Eq).2.1 ida) (h2 : Slot Tb (cmpInfo .Eq).2.2 idb)
    (hc1 : ∀ Q' : Value → Shared → Prop, Q' .notImplemented s → wpAny M A (call (.builtin ida) [a, b]) Q' E s)
    (hc2 : ∀ Q' : Value → Shared → Prop, Q' .notImplemented s → wpAny M A (call (.builtin idb) [b, a]) Q' E s)
    (hk : ∀ Q' : Bool → Shared → Prop, Q' k s → wpAny M A (isSame a b) Q' E s)
    (hr : A.units < cLine) (h : Q (.bool k) s) : wpAny M A (richCompare .Eq a b) Q E s := by
  rcases hi : cmpInfo CmpOp.Eq with ⟨sym, f, r⟩
  rw [hi] at h1 h2
  simp only [richCompare, hi, ha.oneThing_none]
  try with_reducible refine wpAny_holding ?_
  refine wpAny_bind (wpAny_cRoomFor_or (.inr hr) ?_)
  refine wpAny_bind (wpAny_typeOf ha (wpAny_bind (wpAny_typeOf hb ?_)))
  simp only [hne, if_true]
  refine wpAny_bind (wpAny_of_eq hsub ?_)
  simp only [if_true]
  refine wpAny_bind (m := tryCompare b _ a) (wpAny_tryCompare_declines hb h2 (hc2 _ ⟨rfl, ?_⟩))
  refine wpAny_bind (m := tryCompare a _ b) (wpAny_tryCompare_declines ha h1 (hc1 _ ⟨rfl, ?_⟩))
  exact wpAny_bind (wpAny_rule (wpAny_bind (hk _ (wpAny_pure h))))

theorem object_eq_declines {prog : Program} {w : World} {A : Around} {E : Value → Shared → Prop} {s : Shared} {N b : Addr} {oN ob : Obj} {Q : Value → Shared → Prop} (hN : s.heap.get? N = some oN) (hc : oN.cls = .type "object") (hb : s.heap.get? b = some ob) (hne : N ≠ b) (h : Q .notImplemented s) :
    wpAny (model prog w) A (call (.builtin "object.__eq__") [.ref N, .ref b]) Q E s := by
  refine wpAny_call_entry PySem.F.slot_object_eq ⟨_, hN, hc⟩ PySem.F.entry_object_eq ?_ (PySem.F.args_object_eq_2 _ _)
  show wpAny _ _ (isSame (.ref N) (.ref b) >>= _) _ _ s
  refine wpAny_bind (wpAny_isSame_ref_other hne hN hb (by rw [hc]; decide) ?_)
  simp only [Bool.false_eq_true, if_false]
  exact wpAny_pure ⟨_, rfl, h⟩

theorem rc_null {A : Around} {s : Shared} {N : Addr} {oN : Obj} {v : Value} {k : Nat} (hN : s.heap.get? N = some oN) (hc : oN.cls = .type "object") (hv : Th s.heap v k) (hu : A.units < cLine) : RcAt A s (.ref N) v false := fun prog w E Q h => by
  obtain ⟨hk, a, rfl, ha, hh⟩ := hv
  rcases hh with ⟨p, o, hs, t, l, n, tk, q1, q2, q3, q4⟩ | ⟨p, tk, e, q1, q2⟩
  · have hne : N ≠ a := fun z => by rw [z, q1] at hN; cases hN; rw [q2] at hc; exact absurd hc (by decide)
    exact rc_eq_decline_sub (k := false) ⟨_, hN, hc⟩ ⟨_, q1, q2⟩ (by decide) PySem.F.sub_dict_object PySem.F.slot_object_eq PySem.F.slot_dict_eq_refl
      (fun _ hq => object_eq_declines hN hc q1 hne hq) (fun _ hq => dict_eq_declines q1 q2 ⟨_, hN, hc⟩ PySem.F.sub_object_dict hq)
      (fun _ hq => wpAny_isSame_ref_other hne hN q1 (by rw [hc]; decide) hq) hu h
  · obtain ⟨⟨cls, dd, data, sl⟩, ho, hcl, n', hd⟩ := q1
    simp only at hcl hd
    subst hcl hd
    have hne : N ≠ a := fun z => by rw [z, ho] at hN; cases hN; exact absurd (show Value.type "list" = Value.type "object" from hc) (by decide)
    exact rc_eq_decline_sub (k := false) ⟨_, hN, hc⟩ ⟨_, ho, rfl⟩ (by decide) PySem.F.sub_list_object PySem.F.slot_object_eq PySem.F.slot_list_eq_refl
      (fun _ hq => object_eq_declines hN hc ho hne hq)
      (fun _ hq => call_meets PySem.F.slot_list_eq_refl ⟨_, ho, rfl⟩ PySem.F.entry_list_eq (PySem.F.args_list_eq_2 _ _) (list_eq_declines_object a N _ n' dd sl oN hc) ⟨ho, hN, hq⟩)
      (fun _ hq => wpAny_isSame_ref_other hne hN ho (by rw [hc]; decide) hq) hu h

/-- a thing, or the mark for one that is done -/
def ThO (N : Addr) : Rep (Option Nat) := fun I v d => match d with
  | none => v = .ref N ∧ ∃ o, I.get? N = some o ∧ o.cls = .type "object"
  | some k => Th I v k
theorem ThO.mono {N : Addr} : Mono (ThO N) := fun I I' v d st x => match d, x with
  | none, ⟨e, o, h1, h2⟩ => ⟨e, o, st _ _ h1, h2⟩
  | some _, x => Th.mono _ _ _ _ st x
theorem ThO.rc {N : Addr} {A : Around} {s : Shared} {v v' : Value} {d : Option Nat} {k : Nat} (hu : A.units + 4 < cLine) (x : ThO N s.heap v d) (y : Th s.heap v' k) : RcAt A s v v' (decide (d = some k)) := by
  cases d with
  | none =>
    obtain ⟨rfl, o, h1, h2⟩ := x
    exact rc_null h1 h2 y (by first | assumption | exact Nat.le_trans (by assumption) (by decide) | omega)
  | some j => simpa using Th.rc hu x y
end Mine

namespace Mine

def LO (o : Obj) (vs : List Value) : Prop := o.cls = .type "list" ∧ ∃ n, o.data = .seq vs.toArray n
theorem LO.of (vs : List Value) (n : Nat) : LO (lobj vs n) vs := ⟨rfl, n, rfl⟩
theorem LO.isList {h : Heap} {l : Addr} {o : Obj} {vs : List Value} (e : h.get? l = some o) (x : LO o vs) : h.IsList l vs.toArray := ⟨o, e, x.1, x.2⟩

theorem SrcOf.range2 {prog : Program} {w : World} {A : Around} {I : Heap} {r : Addr} {s₁ : Shared} {a b : Nat} {t u v : Tok} (hh : A.handled = none) (hr : IsRange s₁.heap r (a : Int) (b : Int) 1 t u v) (hab : a ≤ b) (hs : Builtin.Range.small (a : Int) (b : Int) 1 = true) :
    SrcOf prog w A I (.ref r) s₁ NatR (List.range' a (b - a)) := by
  intro Q E k
  have hn : Builtin.Range.rangeSize (a : Int) (b : Int) 1 = ((b - a : Nat) : Int) := by rw [rangeSize_one]; split <;> omega
  refine wpAny_pyIter_range hr hs (k _ _ (fun i h => IsRangeIter h s₁.heap.objs.size ((a : Int) + (i : Nat) * 1) (((b - a : Nat) : Int) - (i : Nat)) 1) (Heap.get?_none_of_le (Nat.le_refl _)) (fun b o e => Heap.get?_push_of_some _ e) ?_ ?_)
  · have W := Iter.range (prog := prog) (w := w) (A := A) (I := I) (it := s₁.heap.objs.size) hh (a : Int) (b - a)
    have e : (List.range' a (b - a)).length = b - a := by simp
    rw [e]
    exact { W with item := fun i s Q E hi st k => W.item i s Q E hi st fun v h' tk hv => k v h' tk (by
      obtain ⟨t, rfl⟩ := hv
      exact ⟨a + i, by simp [hi], t, by simp⟩) }
  · rw [hn]; simpa using Heap.get?_push_size _ rfl

section
variable {prog : Program} {w : World} {A : Around} {E : Value → Shared → Prop} {s b : Shared} {env : Env} {h₀ I₀ I h h' : Heap} {m : Str → Option Value} {ms : List (Addr × Obj)} {tk : Nat} {fs : List Addr}

theorem xRange2 {Q : Value → Shared → Prop} {x y : Nat} {t u : Tok} (F : Fm w fs h₀ I₀ I env h m ms) (hxy : x ≤ y) (hn : y ≤ 1000000) (hh : A.handled = none) (k : ∀ r h' tk', Fm w fs h₀ I₀ I env h' m ms → (∀ I', SrcOf prog w A I' (.ref r) (St b h' tk') NatR (List.range' x (y - x))) → Q (.ref r) (St b h' tk')) :
    WP (model prog w) A (call (.type "range") [.int (x : Int) t, .int (y : Int) u]) Q E (St b h tk) := by
  refine ⟨call_range_2 (s := St b h tk) ?_⟩
  have hk : ∀ b o, h.get? b = some o → (h.push { cls := .type "range", data := .fields #[.int (x : Int) t, .int (y : Int) u, .int 1 tk] }).get? b = some o := fun b o e => Heap.get?_push_of_some _ e
  refine k h.objs.size _ _ (F.keeps hk) fun I' => ?_
  exact SrcOf.range2 (s₁ := St b (h.push { cls := .type "range", data := .fields #[.int (x : Int) t, .int (y : Int) u, .int 1 tk] }) (tk + 1)) hh (IsRange.new h x y 1 t u tk) hxy (small_one (by first | assumption | exact Nat.le_trans (by assumption) (by decide) | omega) (by first | assumption | exact Nat.le_trans (by assumption) (by decide) | omega) (by first | assumption | exact Nat.le_trans (by assumption) (by decide) | omega) (by first | assumption | exact Nat.le_trans (by assumption) (by decide) | omega))

theorem eObj0 {np pos : Pos} {Q : Value → Shared → Prop} (F : Fm w fs h₀ I₀ I env h m ms) (k : ∀ a h' I' o, h.get? a = none → Fm w fs h₀ I₀ I' env h' m ms → I.StaysIn I' → I'.get? a = some o → o.cls = .type "object" → Q (.ref a) (St b h' tk))
    (hk : env.kindOf "object" = some .globalImplicit := by kernel_rfl!) (hm : nsIn (KK w) mainGlobals "object" = some none := by kernel_rfl!) (hv : bootBuiltins "object" = some (.type "object") := by decide +kernel) :
    WP (model prog w) A (eval (.Call (.Name "object" np) [] [] pos) env) Q E (St b h tk) := by
  have hk' : ∀ b o, h.get? b = some o → (h.push { cls := .type "object", data := .plain }).get? b = some o := fun b o e => Heap.get?_push_of_some _ e
  exact ⟨Call_ (F.bu hv (callWith_type0 (call_object0 (s := St b h tk) (k _ _ _ _ (get_size _) (F.frozen hk' (get_size _)) (add_up (stays_trans F.stays hk')) (add_new.trans (Heap.get?_push_size _ rfl)) rfl))) hm hk)⟩

theorem sSetItem {o i value : Expr} {p pos : Pos} {Q : Flow → Shared → Prop}
    (k : WP (model prog w) A (eval value env) (fun v s₁ => WP (model prog w) A (eval o env) (fun ov s₂ => WP (model prog w) A (eval i env) (fun iv s₃ => WP (model prog w) A (setItem ov iv v) (fun _ => Q .next) E s₃) E s₂) E s₁) E s)
    (hs : swapsWith value (some (.Subscript o i p)) pos.line env = pure false := by kernel_rfl!) : WP (model prog w) A (exec (.Assign [.Subscript o i p] value pos) env) Q E s :=
  ⟨wpAny_Assign_Subscript (wpAny_mono k.run (fun _ _ q => wpAny_mono q.run (fun _ _ q => wpAny_mono q.run (fun _ _ q => q.run) fun _ _ e => e) fun _ _ e => e) fun _ _ e => e) hs⟩

theorem xSetItem {l : Addr} {o : Obj} {vs : List Value} {j : Nat} {t : Tok} {v : Value} {Q : Unit → Shared → Prop} (F : Fm w fs h₀ I₀ I env h m ms) (hl : (l, o) ∈ ms) (ho : LO o vs) (hj : j < vs.length) (hb : vs.length ≤ 1000000)
    (k : ∀ h' o', Fm w fs h₀ I₀ I env h' m (setM ms l o') → LO o' (vs.set j v) → Q () (St b h' tk)) : WP (model prog w) A (setItem (.ref l) (.int (j : Int) t) v) Q E (St b h tk) := by
  refine ⟨wpAny_setItem_list (s := St b h tk) (ho.isList (F.made _ hl).1) (by first | assumption | exact Nat.le_trans (by assumption) (by decide) | omega) (by first | assumption | exact Nat.le_trans (by assumption) (by decide) | omega) (by first | exact Nat.le_trans (by assumption) (by decide) | (simp; omega)) fun h' hl' hs => ?_⟩
  obtain ⟨o', e', hc, n, hd⟩ := hl'
  refine k h' o' (F.turnM hl hs e') ⟨hc, n, ?_⟩
  rw [hd]; simp

/-- a value's item, the list one that may turn -/
theorem xItM {value slice : Expr} {l : Addr} {o : Obj} {vs : List Value} {j : Nat} {t : Tok} {v : Value} {ops : List Value} {Q : Value → Shared → Prop} (F : Fm w fs h₀ I₀ I env h m ms) (hl : (l, o) ∈ ms) (ho : LO o vs) (hv : vs[j]? = some v) (hb : vs.length ≤ 1000000) (k : Q v (St b h tk))
    (hs : subscripted slice false (.ref l) (.int (j : Int) t) = operate ops (getItem (.ref l) (.int (j : Int) t)) := by with_unfolding_all rfl) :
    WP (model prog w) A (subscriptTail value slice (.ref l) (.int (j : Int) t)) Q E (St b h tk) :=
  xItem (ho.isList (F.made _ hl).1) (by first | assumption | exact Nat.le_trans (by assumption) (by decide) | omega) (by simpa using hv) hb k hs

theorem xLenM {l : Addr} {o : Obj} {vs : List Value} {Q : Value → Shared → Prop} (F : Fm w fs h₀ I₀ I env h m ms) (hl : (l, o) ∈ ms) (ho : LO o vs) (hb : vs.length ≤ 1000000) (k : ∀ t tk', Q (.int (vs.length : Nat) t) (St b h tk')) : WP (model prog w) A (call (.builtin "len") [.ref l]) Q E (St b h tk) := by
  have := call_len_list (prog := prog) (w := w) (A := A) (E := E) (s := St b h tk) (Q := Q) (ho.isList (F.made _ hl).1) (by first | exact Nat.le_trans (by assumption) (by decide) | (simp; omega))
  refine ⟨this ?_⟩
  have e : vs.toArray.size = vs.length := by simp
  rw [e]
  exact k _ _

inductive EAgain (w : World) (b : Shared) (fs : List Addr) (h₀ I₀ : Heap) (env : Env) (e it : Addr) (oe oi : Obj) (I : Heap) (P : Heap → (Str → Option Value) → List (Addr × Obj) → Prop) (s : Shared) : Prop
  | mk (h₃ : Heap) (tk₃ : Nat) (I₃ : Heap) (m₃ : Str → Option Value) (ms₃ : List (Addr × Obj)) (es : s = St b h₃ tk₃) (F : Fm w fs h₀ I₀ I₃ env h₃ m₃ ((e, oe) :: (it, oi) :: ms₃)) (ne : ∀ p ∈ ms₃, p.1 ≠ e ∧ p.1 ≠ it) (u : I.StaysIn I₃) (hP : P I₃ m₃ ms₃)
abbrev enumO (it : Addr) (i : Int) (old : Value) : Obj := { cls := .type "enumerate", dict := none, data := .fields #[.none, .bool false, .ref it, rawInt i, .none, old], slots := #[] }
inductive EInv (w : World) (b : Shared) (fs : List Addr) (h₀ I₀ : Heap) (env : Env) (I : Heap) (e it l : Addr) (N : Nat) (P : Nat → Heap → (Str → Option Value) → List (Addr × Obj) → Prop) (n : Nat) (s : Shared) : Prop
  | mk (i : Nat) (h' : Heap) (tk' : Nat) (I' : Heap) (m' : Str → Option Value) (ms' : List (Addr × Obj)) (oi' : Obj) (old : Value) (en : n + i = N + 1) (hiN : i ≤ N) (es : s = St b h' tk') (F : Fm w fs h₀ I₀ I' env h' m' ((e, enumO it (i : Int) old) :: (it, oi') :: ms')) (hI : h'.IsListIter it l i) (ne : ∀ p ∈ ms', p.1 ≠ e ∧ p.1 ≠ it) (u : I.StaysIn I') (hP : P i I' m' ms')
/-- for x, y in enumerate(z): body; z a list that may turn -/
theorem sForEnum {x y z : Str} {px py tp np zp cp pos : Pos} {k1 : Nat} {body : List Stmt} {Q : Flow → Shared → Prop} (F : Fm w fs h₀ I₀ I env h m ms) (C : CellsNew h₀ env) (hh : A.handled = none) (N : Nat) (l : Addr) (P : Nat → Heap → (Str → Option Value) → List (Addr × Obj) → Prop)
    (hz : m z = some (.ref l)) (hP : ∀ i I m ms, P i I m ms → ∃ o vs, (l, o) ∈ ms ∧ LO o vs ∧ vs.length = N) (h0 : P 0 I m ms)
    (turn : ∀ i v t I' h' tk' m' ms' e it oe oi E', i < N → (∀ o vs, (l, o) ∈ ms' → LO o vs → vs[i]? = some v) → I.StaysIn I' → Fm w fs h₀ I₀ I' env h' (upd (upd m' x (.int (i : Int) t)) y v) ((e, oe) :: (it, oi) :: ms') → (∀ p ∈ ms', p.1 ≠ e ∧ p.1 ≠ it) → P i I' m' ms' →
      WP (model prog w) A (execs body env) (LoopQ Q (EAgain w b fs h₀ I₀ env e it oe oi I' (P (i + 1)))) E' (St b h' tk'))
    (fin : ∀ h' tk' I' m' ms', Fm w fs h₀ I₀ I' env h' m' ms' → I.StaysIn I' → P N I' m' ms' → Q .next (St b h' tk'))
    (hx : nameOk env x = true := by kernel_rfl!) (hy : nameOk env y = true := by kernel_rfl!) (hzk : nameOk env z = true := by kernel_rfl!) (hzd : (z == ("__debug__" : Str)) = false := by kernel_rfl!)
    (hk : env.kindOf "enumerate" = some .globalImplicit := by kernel_rfl!)
    (hs : ∀ v, foldedSetIterable (.Call (.Name "enumerate" np) [.Name z zp] [] cp) env v = pure v := by intro _; with_unfolding_all rfl)
    (he : starEach [.Name z zp] env = (false, eval (.Name z zp) env) :: starEach [] env := by with_unfolding_all rfl) (hp : (backTo cp (starEach [] env)).any (·.1) = false := by with_unfolding_all rfl) :
    WP (model prog w) A (exec (.For (.Tuple [.Name x px, .Name y py] k1 tp) (.Call (.Name "enumerate" np) [.Name z zp] [] cp) body [] pos) env) Q E (St b h tk) := by
  obtain ⟨o, vs, hl, ho, hn⟩ := hP _ _ _ _ h0
  refine ⟨wpAny_For (eCallT "enumerate" F (aCons (eName F hz (aNil ?_) hzk hzd) he) (hk := hk) (he := he) (hp := hp)).run hs⟩
  have hL := ho.isList (F.made _ hl).1
  refine ⟨call_enumerate_list (s := St b h tk) hL fun h₁ hE hI hsz hk₁ => ?_⟩
  refine wpAny_pyIter_enum (s := St b h₁ tk) hE ?_
  have hit : h.get? h.objs.size = none := get_size _
  have hen : h.get? (h.objs.size + 1) = none := Heap.get?_none_of_le (Nat.le_succ _)
  replace hE : IsEnum h₁ (h.objs.size + 1) h.objs.size 0 .none := hE
  replace hI : h₁.IsListIter h.objs.size l 0 := hI
  change codeAny _ _ (.forLoop _ (.ref (h.objs.size + 1)) _ _ _) _ _
  clear hsz hL
  obtain ⟨e, hed⟩ : ∃ e, e = h.objs.size + 1 := ⟨_, rfl⟩
  obtain ⟨it, hid⟩ : ∃ it, it = h.objs.size := ⟨_, rfl⟩
  have hei : e ≠ it := by omega
  rw [← hed] at hE hen ⊢
  rw [← hid] at hE hit hI
  obtain ⟨oi, hoi, ri⟩ := id hI
  have F₁ : Fm w fs h₀ I₀ I env h₁ m ((it, oi) :: ms) := F.fresh hk₁ hit hoi
  have F₂ : Fm w fs h₀ I₀ I env h₁ m ((e, { cls := .type "enumerate", dict := none, data := .fields #[.none, .bool false, .ref it, rawInt 0, .none, .none], slots := #[] }) :: (it, oi) :: ms) := by
    refine { F₁ with made := fun p hp => ?_ }
    rcases List.mem_cons.mp hp with rfl | hp
    · exact ⟨hE, none_inI F hen, none_in₀ F hen, (fun q => by obtain ⟨o, _, _, e, _⟩ := F.localsAt; rw [← q, hen] at e; cases e), fun n c hc q => by obtain ⟨o, e, _⟩ := F.cells n c hc; rw [← q, hen] at e; cases e⟩
    · exact F₁.made p hp
  have ne₂ : ∀ p ∈ ms, p.1 ≠ e ∧ p.1 ≠ it := fun p hp => by
    have := (F.made p hp).1
    exact ⟨(fun q => by rw [q, hen] at this; cases this), fun q => by rw [q, hit] at this; cases this⟩
  refine codeAny_forLoop_any (EInv w b fs h₀ I₀ env I e it l N P) ?_ (N + 1) ⟨0, h₁, tk, I, m, ms, oi, .none, by first | assumption | exact Nat.le_trans (by assumption) (by decide) | omega, by first | assumption | exact Nat.le_trans (by assumption) (by decide) | omega, rfl, F₂, hI, ne₂, stays_refl _, h0⟩
  rintro n s ⟨i, h', tk', I', m', ms', oi', old, hn', hiN, rfl, F', hI', ne', u', hP'⟩
  obtain ⟨o', vs', hl', ho', hlen'⟩ := hP _ _ _ _ hP'
  have hE' := (F'.made _ (.head _)).1
  have hL' := ho'.isList (F'.made _ (.tail _ (.tail _ hl'))).1
  by_cases hi : i < N
  · have hv : vs'[i]? = some (vs'[i]'(by first | assumption | exact Nat.le_trans (by assumption) (by decide) | omega)) := List.getElem?_eq_getElem (by first | assumption | exact Nat.le_trans (by assumption) (by decide) | omega)
    generalize vs'[i]'(by first | assumption | exact Nat.le_trans (by assumption) (by decide) | omega) = v at hv
    refine wpAny_pyNext_enum_item (s := St b h' tk') hE' hI' hL' (x := v) (by simpa using hv) hei fun h₂ hEo hI₂ ht₂ hz₂ hk₂ => ?_
    have hk₂' : ∀ c q, c ≠ e → c ≠ it → h'.get? c = some q → h₂.get? c = some q := hk₂
    refine wpAny_letOwnedTupleGo_enum (s := St b h₂ (tk' + 1)) hEo fun h₃ hE₃ hs₃ => ?_
    have hs₃' : Heap.SameBut e h₂ h₃ := hs₃
    have hel : e < h'.objs.size := Heap.lt_size hE'
    have ht₃ : h₃.IsTuple h'.objs.size #[.int (i : Int) tk', v] := ⟨_, (hs₃'.2 _ (Nat.ne_of_gt hel)).trans ht₂, rfl, _, rfl⟩
    obtain ⟨oi₂, hoi₂, ri₂⟩ := id hI₂
    -- the frame
    have hne1 : ∀ p ∈ (it, oi') :: ms', p.1 ≠ e := fun p hp => by
      rcases List.mem_cons.mp hp with rfl | hp
      · exact Ne.symm hei
      · exact (ne' p hp).1
    have Fx : Fm w fs h₀ I₀ I' env h₃ m' ((e, { cls := .type "enumerate", dict := none, data := .fields #[.none, .bool false, .ref it, rawInt ((i : Int) + 1), .none, v], slots := #[] }) :: (it, oi₂) :: ms') := by
      have kk : ∀ c q, c ≠ e → c ≠ it → h'.get? c = some q → h₃.get? c = some q := fun c q h1 h2 h3 => (hs₃'.2 c h1).trans (hk₂' c q h1 h2 h3)
      exact F'.hid [e, it] (fun x hx => by
          rcases List.mem_cons.mp hx with rfl | hx
          · exact ⟨_, .head _⟩
          · cases List.mem_singleton.mp hx; exact ⟨_, .tail _ (.head _)⟩) (fun c q h1 h2 => kk c q (fun z => h1 (z ▸ .head _)) (fun z => h1 (z ▸ .tail _ (.head _))) h2) fun p hp => by
        rcases List.mem_cons.mp hp with rfl | hp
        · exact .inr ⟨.head _, hE₃⟩
        rcases List.mem_cons.mp hp with rfl | hp
        · exact .inr ⟨.tail _ (.head _), (hs₃'.2 _ (Ne.symm hei)).trans hoi₂⟩
        · refine .inl ⟨.tail _ (.tail _ hp), fun z => ?_⟩
          rcases List.mem_cons.mp z with z | z
          · exact (ne' p hp).1 z
          · exact (ne' p hp).2 (List.mem_singleton.mp z)
    refine wpAny_assign_Tuple (s := St b h₃ (tk' + 1)) (items := #[.int (i : Int) tk', v]) hh ht₃ rfl rfl fun h₄ hx₄ => ?_
    refine wpAny_assignInOrder_more (wpAny_assign_Name (Fm.st (b := b) (tk := tk' + 1) (Fx.extBut hx₄) C (fun h₅ tk₅ F₅ => wpAny_assignInOrder_more (wpAny_assign_Name (Fm.st F₅ C (fun h₆ tk₆ F₆ => wpAny_assignInOrder_none ?_) hy))) hx))
    refine wpAny_mono (turn i v tk' I' h₆ tk₆ m' ms' e it _ _ _ hi (fun o'' vs'' q1 q2 => ?_) u' F₆ ne' hP').run (fun f s₃ q => ?_) fun _ _ e => e
    · have e1 := (F'.made _ (.tail _ (.tail _ q1))).1
      have e2 := (F'.made _ (.tail _ (.tail _ hl'))).1
      simp only at e1 e2
      rw [e1] at e2
      cases e2
      obtain ⟨_, n1, d1⟩ := q2
      obtain ⟨_, n2, d2⟩ := ho'
      rw [d1] at d2
      injection d2 with d2 _
      have : vs'' = vs' := by simpa using d2
      rw [this]; exact hv
    have go : EAgain w b fs h₀ I₀ env e it { cls := .type "enumerate", dict := none, data := .fields #[.none, .bool false, .ref it, rawInt ((i : Int) + 1), .none, v], slots := #[] } oi₂ I' (P (i + 1)) s₃ →
        ∃ m, m < n ∧ EInv w b fs h₀ I₀ env I e it l N P m s₃ := by
      rintro ⟨h₅, tk₅, I₅, m₅, ms₅, rfl, F₅, ne₅, u₅, hP₅⟩
      refine ⟨n - 1, by first | assumption | exact Nat.le_trans (by assumption) (by decide) | omega, i + 1, h₅, tk₅, I₅, m₅, ms₅, oi₂, v, by first | assumption | exact Nat.le_trans (by assumption) (by decide) | omega, by first | assumption | exact Nat.le_trans (by assumption) (by decide) | omega, rfl, ?_, ⟨oi₂, (F₅.made _ (.tail _ (.head _))).1, ri₂⟩, ne₅, stays_trans u' u₅, hP₅⟩
      rw [show ((i + 1 : Nat) : Int) = (i : Int) + 1 from by push_cast; rfl]
      exact F₅
    cases f with
    | next => exact go q
    | cont => exact go q
    | brk => exact q
    | ret v => exact q
  · have hi' : i = N := by omega
    subst hi'
    have hv : vs'.toArray[i]? = none := by simp; omega
    refine wpAny_pyNext_enum_end (s := St b h' tk') hh hE' hI' hL' hv fun h₂ hx₂ => ?_
    have hx₂' : Heap.ExtBut it h' h₂ := hx₂
    refine wpAny_execs_nil (fin h₂ tk' I' m' ms' ?_ u' hP')
    exact (F'.drop (ms' := (it, oi') :: ms') (fun p hp => .tail _ hp)).dropE (fun p hp => (ne' p hp).2) hx₂'
end
end Mine

namespace Mine

noncomputable def clsM (w : World) : Obj := ((KK w).lookup 142).getD default
noncomputable def cdM (w : World) : ClassData := match (clsM w).data with
  | .cls c => c
  | _ => default
section
variable {w : World}
theorem m_ho : (KK w).lookup 142 = some (clsM w) := by kernel_rfl!
theorem m_clsIn : clsIn (KK w) 142 = some (cdM w) := by kernel_rfl!
theorem m_mro : (cdM w).mro = [.ref 142, .type "tuple", .type "object"] := by kernel_rfl!
theorem m_bases : (cdM w).bases = [.type "tuple"] := by kernel_rfl!
theorem m_del : (cdM w).hasDel = false := by kernel_rfl!
theorem m_s4 : ((clsM w).slots.toList[4]?).join = some .none := by kernel_rfl!
theorem m_data : (clsM w).data = .cls (cdM w) := by kernel_rfl!
theorem m_call : specialIn (KK w) (.ref 142) "__call__" = some (some (.builtin "type.__call__")) := by kernel_rfl!
theorem m_typ : instIn (KK w) (.ref 142) (.type "type") = some true := by kernel_rfl!
theorem m_sub : mroIn (KK w) 142 (.type "tuple") = some true := by kernel_rfl!
theorem m_self : mroIn (KK w) 142 (.ref 142) = some true := by kernel_rfl!
theorem m_init : findIn (KK w) (.ref 142) "__init__" = some (some (.builtin "object.__init__")) := by kernel_rfl!
theorem m_reads : readsIn (KK w) 142 (.type "type") = true := by kernel_rfl!
theorem m_new : findCls (KK w) (.ref 142) (.type "type") "__new__" = some (.get (.builtin "staticmethod.__get__") (.ref 143) .none (.ref 142)) := by kernel_rfl!
theorem m_rec : recIn (KK w) 143 "staticmethod" = some [.ref 89] := by kernel_rfl!
theorem m_hand : handedIn (.ref 89) = true := by kernel_rfl!
theorem m_tnew : findCls (KK w) (.type "tuple") (.type "type") "__new__" = some (.val (.builtin "tuple.__new__")) := by kernel_rfl!
theorem m_thand : handedIn (.builtin "tuple.__new__") = true := by kernel_rfl!
end

theorem best_tuple : Builtin.Slots.bestBase [.type "tuple"] = pure (.type "tuple") := by kernel_rfl
section
variable {M : Model} {w : World} {h : Heap}
theorem lk_mro (X : (KK w).In h) : Looks M h (mroOf (.ref 142)) [.ref 142, .type "tuple", .type "object"] := m_mro (w := w) ▸ (looks_clsIn X m_clsIn).andThen .now
theorem lk_made (X : (KK w).In h) : Looks M h (Bind.madeBy (.ref 142)) none := by
  intro A Q E s k q
  unfold Bind.madeBy
  refine wpAny_bind (lk_mro X A _ E s k ?_)
  rw [List.forIn_cons]
  refine wpAny_bind (wpAny_bind (wpAny_bind (wpAny_bind (wpAny_loadPart (k _ _ (X _ _ m_ho)) (wpAny_pure ?_)))))
  dsimp only
  rw [← Array.getElem?_toList, m_s4]
  exact wpAny_pure (wpAny_pure (wpAny_pure q))
theorem lk_base (X : (KK w).In h) : Looks M h (Bind.staticBase (.ref 142)) (.type "tuple") := by
  intro A Q E s k q
  unfold Bind.staticBase
  refine wpAny_bind (lk_mro X A _ E s k ?_)
  rw [List.forIn_cons]
  refine wpAny_bind (wpAny_bind (wpAny_bind (lk_made X A _ E s k ?_)))
  rw [if_neg (by decide)]
  refine wpAny_bind (looks_clsIn X m_clsIn A _ E s k ?_)
  rw [m_bases, best_tuple]
  refine wpAny_bind (wpAny_pure (wpAny_pure ?_))
  dsimp only
  rw [List.forIn_cons]
  refine wpAny_bind (wpAny_bind ?_)
  rw [PySem.F.called_tuple.made]
  exact wpAny_pure (wpAny_pure (wpAny_pure (wpAny_pure q)))
end
section
variable {prog : Program} {w : World} {A : Around} {E : Value → Shared → Prop} {h : Heap} {g : Array GenState} {d : Drawn} {t : Nat} {os : OsState}

/-- tuple.__new__(Mismatch, a tuple) -/
theorem tnew_mm {it : Addr} {ot : Obj} {items : Array Value} {n : Nat} {Q : Value → Shared → Prop} (X : (KK w).In h) (ht : h.get? it = some ot) (hc : ot.cls = .type "tuple") (hd : ot.data = .seq items n) (hsz : items.size ≤ sizeLine)
    (k : ∀ h' x, (∀ b o, h.get? b = some o → h'.get? b = some o) → h.get? x = none → (∃ dx, h'.get? x = some { cls := .ref 142, dict := some dx, data := .seq items }) → Q (.ref x) ⟨h', g, d, t, os⟩) :
    wpAny (model prog w) A (call (.builtin "tuple.__new__") [.ref 142, .ref it]) Q E ⟨h, g, d, t, os⟩ := by
  have base := lk_base (M := model prog w) X
  have typ := looks_instIn (M := model prog w) X m_typ
  have sub := looks_mroIn (M := model prog w) X m_sub
  have madeT : Looks (model prog w) h (Bind.madeBy (.type "tuple")) (some "tuple.__new__") := Looks.of_pure PySem.F.called_tuple.made
  refine wpAny_call (codeAny_call_builtin_code (Code.quiet_builtin _ (by decide +kernel)) ?_)
  have kind : builtinKind "tuple.__new__" = some .builtinFn := by decide +kernel
  have split : splitId "tuple.__new__" = some ("tuple", "__new__") := by decide +kernel
  simp only [checkBuiltinCall, kind, split]
  have hC := X _ _ (m_ho (w := w))
  have hdt := m_data (w := w)
  rw [if_pos (by decide)]
  unfold isType
  repeat (first | simp only [Bool.not_true, Bool.false_eq_true, if_false, bne_self_eq_false] | lk)
  refine codeAny_builtin PySem.F.entry_tuple_new ?_
  have init := looks_findIn (M := model prog w) X m_init
  have here : Looks (model prog w) h (Bind.madeHere "tuple.__new__" (.ref 142)) () := base.andThen (madeT.andThen (Looks.of_pure (by simp only [Option.map_some, bne_self_eq_false, Bool.false_eq_true, if_false])))
  unfold Builtin.«tuple.__new__» isType
  repeat (first | simp only [Bool.not_true, Bool.false_eq_true, if_false] | with_reducible refine wpAny_collect_seq (hsz := hsz) it (.inr rfl) ht hc hd (fun h₁ hk₁ => ?_) | lk)
  rw [if_neg (by simp only [Array.toArray_toList]; omega)]
  unfold newObjAsIs classHasDel
  refine wpAny_bind (wpAny_alloc (wpAny_bind (wpAny_bind (wpAny_load (Heap.get?_push_of_some _ (Heap.get?_push_of_some _ (hk₁ _ _ hC))) ?_))))
  rw [hdt]
  refine wpAny_pure ?_
  rw [m_del]
  refine wpAny_pure (wpAny_pure ?_)
  have e : items.toList.toArray = items := by simp
  rw [e]
  refine k _ _ (fun b o q => Heap.get?_push_of_some _ (Heap.get?_push_of_some _ (hk₁ b o q))) ?_ ⟨_, Heap.get?_push_size _ rfl⟩
  cases q : h.get? (h₁.push { cls := .type "dict", data := .dict #[] }).objs.size with
  | none => rfl
  | some o =>
    have z : (h₁.push { cls := .type "dict", data := .dict #[] }).objs.size < h₁.objs.size := Heap.lt_size (h := h₁) (hk₁ _ _ q)
    rw [Heap.size_push] at z
    omega
end
end Mine

namespace Mine
/-- a Mismatch -/
def MObj (I : Heap) (x : Addr) (vs : List Value) : Prop := ∃ dx, I.get? x = some { cls := .ref 142, dict := some dx, data := .seq vs.toArray }

section
variable {prog : Program} {w : World} {A : Around} {E : Value → Shared → Prop} {b : Shared} {I h : Heap} {tk : Nat} {Q : Value → Shared → Prop}

theorem meth_tnew {name : Str} {pl : Sem Bool} {Q : Value × List Value → Shared → Prop} {s : Shared} (X : (KK w).In s.heap) (hn : name = "__new__") (k : Q (.builtin "tuple.__new__", []) { s with toks := s.toks + 1 }) : wpAny (model prog w) A (getMethod (.type "tuple") name pl) Q E s := by
  subst hn
  have ht : typeOf (.type "tuple") = pure (.type "type") := by kernel_rfl
  have hs : Manifest.isStub "tuple" = false := by decide +kernel
  have hstub : opaqueClassAbove (.type "tuple") = pure none := by unfold opaqueClassAbove; dsimp only; rw [hs]; rfl
  have L0 : Looks (model prog w) s.heap (typeOf (.type "tuple")) (.type "type") := Looks.of_pure ht
  have hg : findIn (KK w) (.type "type") "__getattribute__" = some (some (.builtin "type.__getattribute__")) := type_tga
  unfold getMethod specialOf
  refine wpAny_bind (wpAny_bind (L0.here ((looks_findIn X hg).here ?_)))
  dsimp only
  rw [if_pos canon_tga]
  refine wpAny_bind (wpAny_mono (Q := fun v => Q (v, [])) (E := E) ?_ (fun _ _ z => wpAny_pure z) fun _ _ z => z)
  have LO : Looks (model prog w) s.heap (opaqueClassAbove (.type "tuple")) none := Looks.of_pure hstub
  refine cls_open X LO L0 hg (looks_hook X (r := none) (by rfl)) (by show subIn (KK w) _ _ = _; rfl) m_tnew
    (wpAny_pure (by show wpAny _ _ (handedOut _) _ _ _; rw [handedOut_of m_thand]; exact wpAny_pure k))

theorem eTNew {env : Env} {h₀ I₀ : Heap} {fs : List Addr} {m : Str → Option Value} {ms : List (Addr × Obj)} {np ap pos : Pos} {e : Expr} {rest : List Expr} (F : Fm w fs h₀ I₀ I env h m ms)
    (k : ∀ tk', WP (model prog w) A (spliced (backTo pos (starEach (e :: rest) env))) (fun vs s₁ => WP (model prog w) A (call (.builtin "tuple.__new__") vs) Q E s₁) E (St b h tk'))
    (hk : env.kindOf "tuple" = some .globalImplicit := by kernel_rfl!) (hm : nsIn (KK w) mainGlobals "tuple" = some none := by kernel_rfl!) (hv : bootBuiltins "tuple" = some (.type "tuple") := by decide +kernel)
    (he : starEach (e :: rest) env = (false, eval e env) :: starEach rest env := by with_unfolding_all rfl) (hp : (backTo pos (starEach rest env)).any (·.1) = false := by with_unfolding_all rfl)
    {pl : Sem Bool} (hc : eval (.Call (.Attribute (.Name "tuple" np) "__new__" ap) (e :: rest) [] pos) env = (do
      let ov ← eval (.Name "tuple" np) env
      standAt ap.atName
      let (f, first) ← holding [ov] (getMethod ov "__new__" pl)
      callWith pos f first (backTo pos (starEach (e :: rest) env)) []) := by with_unfolding_all rfl) :
    WP (model prog w) A (eval (.Call (.Attribute (.Name "tuple" np) "__new__" ap) (e :: rest) [] pos) env) Q E (St b h tk) :=
  ⟨MethodCall_ (F.bu hv (meth_tnew (s := St b h tk) (F.wd.X.keeps F.stays) rfl (callWith_builtin1 (wpAny_mono (k _).run (fun _ _ q => q.run) fun _ _ e => e) he hp)) hm hk) hc⟩

theorem mnew_ok {x y z : Value} (W : Wd w I) (st : I.StaysIn h) (r : Rm A 1 10)
    (K : ∀ v h' tk' I', Done [] h I h' I' → (∃ a, v = .ref a ∧ MObj I' a [x, y, z]) → Q v (St b h' tk')) :
    WP (model prog w) A (call (.ref 89) [.ref 142, x, y, z]) Q E (St b h tk) := by
  refine wEnter 89 [("_cls", .ref 142), ("actual", x), ("expected", y), ("value", z)] [] W st r.room (fun _ q => nomatch q) (fun L h₁ tk₁ F C => ?_)
  refine sCons (sExpr (eStr fun _ _ => ⟨fun _ q => (nomatch q), ?_⟩))
  refine sCons (sRet (eTNew F fun _ => aCons (eName F rfl (aCons (eTuple (aCons (eName F rfl (aCons (eName F rfl (aCons (eName F rfl (aNil (xTupleI F fun t h₂ I₂ _ F₂ u₂ ht => aNil ?_)))))))))))))
  obtain ⟨ot, e1, e2, n, e3⟩ := IsTuple.up ht F₂.stays
  refine ⟨tnew_mm (F₂.wd.X.keeps F₂.stays) e1 e2 e3 (by rw [sizeLine_eq]; simp) fun h₃ xa hk hn hx => ?_⟩
  obtain ⟨dx, hx⟩ := hx
  have F₃ := F₂.frozen hk hn
  exact ⟨_, rfl, K _ _ _ _ F₃.done ⟨xa, rfl, dx, add_new.trans hx⟩⟩
end
end Mine

namespace Mine
section
variable {prog : Program} {w : World} {A : Around} {E : Value → Shared → Prop} {b : Shared} {I h : Heap} {tk : Nat} {Q : Value → Shared → Prop}

theorem m_obj : mroIn (KK w) 142 (.type "object") = some true := by kernel_rfl!
theorem oi_args4 (a x y z : Value) : argsOk "object.__init__" ⟨[a, x, y, z], []⟩ := by unfold argsOk; kernel_rfl
theorem oi_mm {a : Addr} {dd : Option Addr} {dt : Data} {sl : Array (Option Value)} {x y z : Value} {s : Shared} {R : Value → Shared → Prop} (X : (KK w).In s.heap) (ha : s.heap.get? a = some ⟨.ref 142, dd, dt, sl⟩) (k : R .none s) :
    wpAny (model prog w) A (call (.builtin "object.__init__") [.ref a, x, y, z]) R E s := by
  have t1 : Looks (model prog w) s.heap (typeOf (.ref a)) (.ref 142) := (Looks.ld ha).andThen .now
  have i1 := looks_findIn (M := model prog w) X m_init
  have m1 := lk_made (M := model prog w) X
  have o1 : Looks (model prog w) s.heap (isInstance (.ref a) (.type "object")) true := t1.andThen (looks_mroIn X m_obj)

  refine wpAny_call (codeAny_call_builtin oi_plain entry_oi (@check_slot (model prog w) _ _ _ "object.__init__" "object" "__init__" (.ref a) [x, y, z] [] _ oi_kind oi_split o1 (oi_args4 (.ref a) x y z) ?_))
  unfold Builtin.«object.__init__»
  dsimp only
  rw [if_pos (by rfl)]
  refine wpAny_bind (t1.here ?_)
  refine wpAny_bind (i1.here ?_)
  refine wpAny_bind (m1.here ?_)
  dsimp only
  rw [if_neg (by simp)]
  rw [if_neg (by decide)]
  exact wpAny_pure k

theorem mm_ok {x y z : Value} (W : Wd w I) (st : I.StaysIn h) (r : Rm A 2 20)
    (K : ∀ v h' tk' I', Done [] h I h' I' → (∃ a, v = .ref a ∧ MObj I' a [x, y, z]) → Q v (St b h' tk')) :
    WP (model prog w) A (call (.ref 142) [x, y, z]) Q E (St b h tk) := by
  have X := W.X.keeps st
  obtain ⟨oc, od, sl, hC⟩ : ∃ oc od sl, h.get? 142 = some ⟨oc, od, .cls (cdM w), sl⟩ := ⟨_, _, _, by rw [X _ _ (m_ho (w := w)), ← m_data]⟩
  refine wCall (codeAny_of_tree ?_)
  show wpAny _ _ (callAny (.ref 142) _) _ _ _
  refine nd_load (s := St b h tk) hC ?_
  show wpAny _ _ (callAny.viaDunder (.ref 142) _) _ _ _
  unfold callAny.viaDunder
  have call := looks_specialIn (M := model prog w) X m_call
  have typ := looks_instIn (M := model prog w) X m_typ
  refine wpAny_bind (call.here ?_)
  dsimp only
  rw [tc_bind]
  refine wpAny_bind (wpAny_pure (wpAny_bind (wpAny_pure ?_)))
  refine wpAny_pure (a := Fin.again (.call (.builtin "type.__call__") ⟨[.ref 142, x, y, z], []⟩)) (And.intro rfl ?_)
  refine codeAny_call_builtin_at (Code.quiet_builtin _ (by decide +kernel)) entry_typeCall (check_slot tc_kind tc_split typ (tc_args _ _ _) ?_)
  unfold Builtin.«type.__call__»
  have hm := lk_mro (M := model prog w) X
  have made := lk_made (M := model prog w) X
  have hw : (Code.builtin "type.__call__" ⟨[.ref 142, x, y, z], []⟩).weight = 1 := by kernel_rfl!
  have hcu : (Code.builtin "type.__call__" ⟨[.ref 142, x, y, z], []⟩).cUnits = 1 := by kernel_rfl!
  have r1 : Rm (A.under (.builtin "type.__call__" ⟨[.ref 142, x, y, z], []⟩)) 1 19 := ⟨r.handled, by show A.depth + _ + 1 < _; rw [hw]; have := r.depth; omega, by show A.units + _ + 19 < _; rw [hcu]; have := r.units; omega⟩
  generalize A.under (.builtin "type.__call__" ⟨[.ref 142, x, y, z], []⟩) = A' at r1 ⊢
  refine wpAny_bind (hm.here ?_)
  rw [if_neg (by decide)]
  refine wpAny_bind (made.here ?_)
  refine wpAny_bind (cls_bind (K := KK w) X m_reads m_new (wpAny_call (sm_get (s := St b h (tk + 1)) X m_rec (handed_on m_hand ?_))))
  refine wpAny_bind (wpAny_holding ?_)
  refine (mnew_ok (b := b) (tk := tk + 1) W st r1.mono fun v h₂ tk₂ I₂ D hv => ?_).run
  obtain ⟨a, rfl, dx, ha⟩ := hv
  have X₂ := (W.keeps D.ext.1).X.keeps D.stays
  have ha' := D.stays _ _ ha
  have t1 : Looks (model prog w) h₂ (typeOf (.ref a)) (.ref 142) := (Looks.ld ha').andThen .now
  have s1 := looks_mroIn (M := model prog w) X₂ m_self
  have i1 := looks_findIn (M := model prog w) X₂ m_init
  refine wpAny_bind ?_
  unfold isInstance
  refine wpAny_bind (t1.here (s1.here ?_))
  simp only [Bool.not_true, Bool.false_eq_true, if_false]
  refine wpAny_bind (wpAny_holding ?_)
  unfold callSpecial? specialOf
  refine wpAny_bind (wpAny_bind (t1.here (i1.here ?_)))
  dsimp only
  refine wpAny_holding ?_
  rw [oi_bind]
  refine wpAny_bind (wpAny_pure (wpAny_bind ?_))
  refine oi_mm (s := St b h₂ tk₂) X₂ ha' (wpAny_pure ?_)
  dsimp only
  rw [if_neg (by decide)]
  exact wpAny_pure (K _ _ _ _ D ⟨a, rfl, dx, ha⟩)
end
end Mine

namespace Mine
open MeetsSeq MeetsSeq2 MeetsSeq3 SeqRoads2

theorem tuple_eqAtM (l b : Addr) (cl : Value) (items items2 : Array Value) (n n2 : Nat) (dd dd2 : Option Addr) (sl sl2 : Array (Option Value)) (e : Nat → Bool) :
    Meets (Builtin.«tuple.__eq__» ⟨[.ref l, .ref b], []⟩)
      (fun A R s => s.heap.get? l = some { cls := cl, dict := dd, data := .seq items n, slots := sl } ∧ s.heap.get? b = some { cls := .type "tuple", dict := dd2, data := .seq items2 n2, slots := sl2 } ∧
        (∀ j (h1 : j < items.size) (h2 : j < items2.size), EqAt A.in1 s items[j] items2[j] (e j)) ∧
        R (.ok (.ret (.bool ((List.range (min items.size items2.size)).all e && items.size == items2.size)))) s) :=
  .of_wp fun prog w A R s h => by
    obtain ⟨hp, g, d, tk, os⟩ := s; obtain ⟨hl, hb, he, h⟩ := h
    have f2 := AutoSeq1.sub_tuple_tuple
    have hZ : (items.toList.zip items2.toList).length = min items.size items2.size := by simp
    wp_walk using wpAny_loadPart' hl, wpAny_loadPart' hb, wpAny_forIn_list _ (fun rest b s' => b.1 = none ∧ s' = ⟨hp, g, d, tk, os⟩ ∧ ∃ i, rest = (items.toList.zip items2.toList).drop i ∧
      R (.ok (.ret (.bool (((List.range (min items.size items2.size)).drop i).all e && items.size == items2.size)))) ⟨hp, g, d, tk, os⟩) _
    case turn =>
      rintro ⟨y, x⟩ rest b s' ⟨hb', rfl, i, hz, hR⟩
      have hlt : i < (items.toList.zip items2.toList).length := by
        rcases Nat.lt_or_ge i (items.toList.zip items2.toList).length with h' | h'
        · exact h'
        · rw [List.drop_of_length_le h'] at hz; cases hz
      have hm : i < min items.size items2.size := hZ ▸ hlt
      have h1 : i < items.size := Nat.lt_of_lt_of_le hm (Nat.min_le_left _ _)
      have h2 : i < items2.size := Nat.lt_of_lt_of_le hm (Nat.min_le_right _ _)
      rw [List.drop_eq_getElem_cons hlt] at hz
      injection hz with hyx hrest
      have hy : y = items[i] := by have := congrArg Prod.fst hyx; simpa using this
      have hx : x = items2[i] := by have := congrArg Prod.snd hyx; simpa using this
      subst hy hx
      have hd : (List.range (min items.size items2.size)).drop i = i :: (List.range (min items.size items2.size)).drop (i + 1) := by simp [List.drop_eq_getElem_cons, hm]
      rw [hd, List.all_cons] at hR
      refine wpAny_bind (he i h1 h2 prog w _ _ ?_)
      cases hy : e i with
      | true =>
        rw [hy] at hR
        wp_walk
        exact ⟨rfl, rfl, i + 1, hrest, by simpa using hR⟩
      | false =>
        rw [hy] at hR
        wp_walk
        exact ⟨_, rfl, by simpa using hR⟩
    case fin =>
      rintro ⟨b1, b2⟩ s' ⟨hb', rfl, i, hz, hR⟩
      simp only at hb'
      subst hb'
      have hge : min items.size items2.size ≤ i := by
        rcases Nat.lt_or_ge i (items.toList.zip items2.toList).length with h' | h'
        · rw [List.drop_eq_getElem_cons h'] at hz; cases hz
        · exact hZ ▸ h'
      rw [List.drop_of_length_le (by simpa using hge)] at hR
      wp_walk
      exact ⟨_, rfl, by simpa [Builtin.Tuple.tupleCompareSizes] using hR⟩
    case h =>
      exact ⟨rfl, rfl, 0, rfl, by simpa using h⟩

section
variable {prog : Program} {w : World} {A : Around} {E : Value → Shared → Prop} {s : Shared}
theorem m_eq : findIn (KK w) (.ref 142) "__eq__" = some (some (.builtin "tuple.__eq__")) := by kernel_rfl!
theorem m_tsub : subIn (KK w) (.type "tuple") (.ref 142) = some false := by kernel_rfl!
theorem teq_bind (self : Value) : bindSpecial (.builtin "tuple.__eq__") self = pure (.builtin "tuple.__eq__", [self]) := PySem.F.slot_tuple_eq.bind self
theorem teq_kind : builtinKind "tuple.__eq__" = some .slot := by decide +kernel
theorem teq_split : splitId "tuple.__eq__" = some ("tuple", "__eq__") := by decide +kernel
theorem teq_plain : plainId "tuple.__eq__" = true := by decide +kernel

theorem bound_mm {a : Addr} {t : Value} {Q : Option Value → Shared → Prop} (t1 : Looks (model prog w) s.heap (typeOf (.ref a)) (.ref 142)) (i1 : Looks (model prog w) s.heap (typeLookup (.ref 142) "__eq__") (some (.builtin "tuple.__eq__")))
    (hc : wpAny (model prog w) A (call (.builtin "tuple.__eq__") [.ref a, t]) (fun v => Q (some v)) E s) : wpAny (model prog w) A (callSpecialIfBound? (.ref a) "__eq__" [t]) Q E s := by
  simp only [callSpecialIfBound?, bindSpecialIfBound?]
  refine wpAny_holding (wpAny_bind (wpAny_bind ?_))
  unfold specialOf
  refine wpAny_bind (t1.here (i1.here ?_))
  simp only [teq_bind]
  refine wpAny_bind (wpAny_askSetting (wpAny_ite ?_))
  have fin : wpAny (model prog w) A (call (.builtin "tuple.__eq__") ([.ref a] ++ [t]) >>= fun v => pure (some v)) Q E s :=
    wpAny_bind (wpAny_mono hc (fun v s' h' => wpAny_pure h') fun _ _ h' => h')
  split
  · exact wpAny_bind (wpAny_pure (wpAny_pure fin))
  · exact wpAny_tryCatch (wpAny_bind (wpAny_pure (wpAny_pure fin)))

theorem call_teq_mm {a t : Addr} {items items2 : Array Value} {n n2 : Nat} {dd dd2 : Option Addr} {sl sl2 : Array (Option Value)} {e : Nat → Bool} (o1 : Looks (model prog w) s.heap (isInstance (.ref a) (.type "tuple")) true) (ha : s.heap.get? a = some ⟨.ref 142, dd, .seq items n, sl⟩) (ht : s.heap.get? t = some ⟨.type "tuple", dd2, .seq items2 n2, sl2⟩)
    (he : ∀ j (h1 : j < items.size) (h2 : j < items2.size), EqAt A.in1 s items[j] items2[j] (e j)) {Q : Value → Shared → Prop} (k : Q (.bool ((List.range (min items.size items2.size)).all e && items.size == items2.size)) s) :
    wpAny (model prog w) A (call (.builtin "tuple.__eq__") [.ref a, .ref t]) Q E s := by
  refine wpAny_call ?_
  show codeAny (model prog w) A _ (wants Q E) s
  refine codeAny_call_builtin teq_plain PySem.F.entry_tuple_eq (@check_slot (model prog w) _ _ _ "tuple.__eq__" "tuple" "__eq__" (.ref a) [.ref t] [] _ teq_kind teq_split o1 (PySem.F.args_tuple_eq_2 _ _) ?_)
  exact tuple_eqAtM a t (.ref 142) items items2 n n2 dd dd2 sl sl2 e prog w A (wants Q E) s ⟨ha, ht, he, k⟩

theorem rc_mm {w₀ : World} {a t : Addr} {items items2 : Array Value} {n n2 : Nat} {dd dd2 : Option Addr} {sl sl2 : Array (Option Value)} {e : Nat → Bool} (X : (KK w₀).In s.heap) (ha : s.heap.get? a = some ⟨.ref 142, dd, .seq items n, sl⟩) (ht : s.heap.get? t = some ⟨.type "tuple", dd2, .seq items2 n2, sl2⟩) (hu : A.units < cLine)
    (he : ∀ j (h1 : j < items.size) (h2 : j < items2.size), EqAt A.in1 s items[j] items2[j] (e j)) {Q : Value → Shared → Prop} (k : Q (.bool ((List.range (min items.size items2.size)).all e && items.size == items2.size)) s) :
    wpAny (model prog w) A (richCompare .Eq (.ref a) (.ref t)) Q E s := by
  have t1 : Looks (model prog w) s.heap (typeOf (.ref a)) (.ref 142) := (Looks.ld ha).andThen .now
  have t2 : Looks (model prog w) s.heap (typeOf (.ref t)) (.type "tuple") := (Looks.ld ht).andThen .now
  have i1 := looks_findIn (M := model prog w) X m_eq
  have s1 := looks_subIn (M := model prog w) X m_tsub
  have o1 : Looks (model prog w) s.heap (isInstance (.ref a) (.type "tuple")) true := t1.andThen (looks_mroIn X m_sub)
  have hone : oneThing? .Eq (.ref a) (.ref t) = none := by rfl
  simp only [richCompare, cmpInfo, hone]
  refine wpAny_holding ?_
  refine wpAny_bind (wpAny_cRoomFor_or (.inr hu) ?_)
  refine wpAny_bind (t1.here (wpAny_bind (t2.here ?_)))
  rw [if_pos (by decide)]
  refine wpAny_bind (s1.here ?_)
  simp only [Bool.false_eq_true, if_false]
  refine wpAny_bind ?_
  unfold tryCompare
  refine wpAny_bind (bound_mm t1 i1 (call_teq_mm o1 ha ht he ?_))
  exact wpAny_pure (wpAny_pure k)
end

/-- what _count_diff_all_purpose lists -/
inductive MisR (I : Heap) (v : Value) (r : Nat × Nat × Nat) : Prop
  | mk (a : Addr) (x y z : Value) (e : v = .ref a) (ht : MObj I a [x, y, z]) (hx : NatR I x r.1) (hy : NatR I y r.2.1) (hz : Th I z r.2.2)
theorem MisR.mono : Mono MisR := fun _ _ _ _ k ⟨a, x, y, z, e, ⟨dx, ht⟩, hx, hy, hz⟩ => ⟨a, x, y, z, e, ⟨dx, k _ _ ht⟩, hx, hy, Th.mono _ _ _ _ k hz⟩

theorem mis_eq {w₀ : World} {A : Around} {s : Shared} {v v' : Value} {d d' : Nat × Nat × Nat} (X : (KK w₀).In s.heap) (hu : A.units + 5 < cLine) (x : MisR s.heap v d) (y : RowR s.heap v' d') : EqAt A s v v' (decide (d = d')) := by
  obtain ⟨a, b, c⟩ := d
  obtain ⟨a', b', c'⟩ := d'
  obtain ⟨m, x1, x2, x3, rfl, ⟨dx, hm⟩, hx1, hx2, hx3⟩ := x
  obtain ⟨t, y1, y2, y3, rfl, ht, hy1, hy2, hy3⟩ := y
  obtain ⟨⟨cl, dd, dt, sl⟩, ho, hc, n, hd⟩ := ht
  simp only at hc hd
  subst hc hd
  have hne : m ≠ t := fun q => by rw [q, ho] at hm; cases hm
  have e1 := NatR.eqRep A.in1 s _ _ _ _ (by show A.units + 1 + 0 < _; omega) hx1 hy1
  have e2 := NatR.eqRep A.in1 s _ _ _ _ (by show A.units + 1 + 0 < _; omega) hx2 hy2
  have e3 := Th.eqRep A.in1 s _ _ _ _ (by show A.units + 1 + 4 < _; omega) hx3 hy3
  refine EqAt.of_refs hne fun prog w E Q k => ?_
  refine rc_mm X hm ho (by first | assumption | exact Nat.le_trans (by assumption) (by decide) | omega) (e := fun j => if j = 0 then decide (a = a') else if j = 1 then decide (b = b') else decide (c = c')) (fun j h1 h2 => by
      match j, h1 with
      | 0, _ => exact e1
      | 1, _ => exact e2
      | 2, _ => exact e3) ?_
  have e : decide ((a, b, c) = (a', b', c')) = ((List.range (min ([x1, x2, x3] : List Value).toArray.size (#[y1, y2, y3] : Array Value).size)).all (fun j => if j = 0 then decide (a = a') else if j = 1 then decide (b = b') else decide (c = c')) && ([x1, x2, x3] : List Value).toArray.size == (#[y1, y2, y3] : Array Value).size) := by
    rw [Bool.eq_iff_iff]
    simp [List.range_succ]
  rw [← e]; exact k

theorem LOf.rcNe2 {α : Type} [DecidableEq α] {R R' : Rep α} {A : Around} {s : Shared} {v v' : Value} {ds ds' : List α} (er : ∀ v v' d d', R s.heap v d → R' s.heap v' d' → EqAt A.in1 s v v' (decide (d = d'))) (hu : A.units < cLine) (x : LOf R s.heap v ds) (y : LOf R' s.heap v' ds') : RcNeAt A s v v' (!decide (ds = ds')) := by
  obtain ⟨a, vs, rfl, hl, hp⟩ := x
  obtain ⟨a', vs', rfl, hl', hp'⟩ := y
  have n1 := hp.length
  have n2 := hp'.length
  by_cases hsz : vs.length = vs'.length
  · have := RcNeAt.lists hl.isList hl'.isList (by simpa using hsz) (by first | assumption | exact Nat.le_trans (by assumption) (by decide) | omega) (e := fun j => decide (ds[j]? = ds'[j]?)) (fun j h1 h2 => by
      have e1 : vs[j]? = some vs.toArray[j] := by simp at h1; simp [h1]
      have e2 : vs'[j]? = some vs'.toArray[j] := by simp at h2; simp [h2]
      obtain ⟨d, hd, hR⟩ := Paired.get hp e1
      obtain ⟨d', hd', hR'⟩ := Paired.get hp' e2
      rw [hd, hd']
      have := er _ _ d d' hR hR'
      simpa using this)
    rw [List.size_toArray, n1, all_range_eq _ _ (by first | assumption | exact Nat.le_trans (by assumption) (by decide) | omega)] at this
    exact this
  · have e : decide (ds = ds') = false := by
      rw [decide_eq_false_iff_not]
      intro e
      rw [e] at n1
      omega
    rw [e]
    exact RcNeAt.lists_lengths hl.isList hl'.isList (by simpa using hsz) (by first | assumption | exact Nat.le_trans (by assumption) (by decide) | omega)
theorem cNe2 {prog : Program} {w : World} {A : Around} {E : Value → Shared → Prop} {b : Shared} {I h : Heap} {tk : Nat} {Q : Value → Shared → Prop} {v v' : Value} {ds ds' : List (Nat × Nat × Nat)} (W : Wd w I) (st : I.StaysIn h) (hu : A.units + 6 < cLine) (x : LOf MisR I v ds) (y : LOf RowR I v' ds') (k : Q (.bool (!decide (ds = ds'))) (St b h tk)) :
    WP (model prog w) A (compareOp .NotEq v v') Q E (St b h tk) :=
  ⟨LOf.rcNe2 (s := St b h tk) (fun v v' d d' q q' => mis_eq (w₀ := w) (A := A.in1) (s := St b h tk) (W.X.keeps st) (by show A.units + 1 + 5 < _; omega) q q') (by first | assumption | exact Nat.le_trans (by assumption) (by decide) | omega) (LOf.mono MisR.mono _ _ _ _ st x) (LOf.mono RowR.mono _ _ _ _ st y) prog w E Q k⟩
end Mine

namespace Mine

/-! ## what _count_diff_all_purpose computes -/
def nul (k : Nat) (o : Option Nat) : Option Nat := if o = some k then none else o
/-- the first j behind i are done -/
def nulTo (i j k : Nat) (s : List (Option Nat)) : List (Option Nat) := s.take i ++ ((s.drop i).take j).map (nul k) ++ (s.drop i).drop j
theorem nulTo_zero (i k : Nat) (s : List (Option Nat)) : nulTo i 0 k s = s := by simp [nulTo]
theorem nulTo_length (i j k : Nat) (s : List (Option Nat)) : (nulTo i j k s).length = s.length := by
  rw [nulTo, List.length_append, List.length_append, List.length_map, Nat.add_assoc, ← List.length_append (as := (s.drop i).take j), List.take_append_drop, ← List.length_append, List.take_append_drop]
theorem nulTo_get (i j k : Nat) (s : List (Option Nat)) (h : i + j < s.length) : (nulTo i j k s)[i + j]? = s[i + j]? := by
  have h1 : (s.take i ++ ((s.drop i).take j).map (nul k)).length = i + j := by simp; omega
  rw [nulTo, List.getElem?_append_right (by first | assumption | exact Nat.le_trans (by assumption) (by decide) | omega), h1, Nat.sub_self, List.getElem?_drop, List.getElem?_drop]
  rfl
theorem nulTo_succ (i j k : Nat) (s : List (Option Nat)) (o : Option Nat) (h : s[i + j]? = some o) : nulTo i (j + 1) k s = if o = some k then (nulTo i j k s).set (i + j) none else nulTo i j k s := by
  have hlt : i + j < s.length := (List.getElem?_eq_some_iff.mp h).1
  have h1 : (s.take i ++ ((s.drop i).take j).map (nul k)).length = i + j := by simp; omega
  have e1 : (s.drop i).drop j = o :: (s.drop i).drop (j + 1) := by
    rw [List.drop_drop, List.drop_drop, List.drop_eq_getElem_cons hlt]
    rw [List.getElem?_eq_getElem hlt] at h
    rw [Option.some.inj h]; congr 2
  have e2 : (s.drop i).take (j + 1) = (s.drop i).take j ++ [o] := by rw [List.take_add_one, List.getElem?_drop, h]; rfl
  by_cases hk : o = some k
  · rw [if_pos hk, nulTo, e2, nulTo, e1, List.set_append_right _ _ (by first | assumption | exact Nat.le_trans (by assumption) (by decide) | omega), h1, Nat.sub_self, List.set_cons_zero]
    simp [nul, hk]
  · rw [if_neg hk, nulTo, e2, nulTo, e1]
    simp [nul, hk]
theorem cntTo_succ (i j k : Nat) (s : List (Option Nat)) (o : Option Nat) (h : s[i + j]? = some o) : ((s.drop i).take (j + 1)).count (some k) = ((s.drop i).take j).count (some k) + (if o = some k then 1 else 0) := by
  have e2 : (s.drop i).take (j + 1) = (s.drop i).take j ++ [o] := by rw [List.take_add_one, List.getElem?_drop, h]; rfl
  rw [e2, List.count_append, List.count_singleton]
  simp

abbrev S1 := List (Option Nat) × List (Option Nat) × List (Nat × Nat × Nat)
def step1 (x : S1) (i : Nat) : S1 := match x.1[i]? with
  | some (some k) =>
    let c := (x.1.drop i).count (some k)
    let d := x.2.1.count (some k)
    (nulTo i (x.1.length - i) k x.1, nulTo 0 x.2.1.length k x.2.1, if c ≠ d then x.2.2 ++ [(c, d, k)] else x.2.2)
  | _ => x
def step2 (x : List (Option Nat) × List (Nat × Nat × Nat)) (i : Nat) : List (Option Nat) × List (Nat × Nat × Nat) := match x.1[i]? with
  | some (some k) => (nulTo i (x.1.length - i) k x.1, x.2 ++ [(0, (x.1.drop i).count (some k), k)])
  | _ => x
def st1 (one two : List Nat) (i : Nat) : S1 := (List.range i).foldl step1 (one.map some, two.map some, [])
def st2 (t : List (Option Nat)) (r : List (Nat × Nat × Nat)) (i : Nat) : List (Option Nat) × List (Nat × Nat × Nat) := (List.range i).foldl step2 (t, r)
def cdiff (one two : List Nat) : List (Nat × Nat × Nat) := (st2 (st1 one two one.length).2.1 (st1 one two one.length).2.2 two.length).2
theorem st1_succ (one two : List Nat) (i : Nat) : st1 one two (i + 1) = step1 (st1 one two i) i := by simp [st1, List.range_succ]
theorem st2_succ (t : List (Option Nat)) (r : List (Nat × Nat × Nat)) (i : Nat) : st2 t r (i + 1) = step2 (st2 t r i) i := by simp [st2, List.range_succ]
theorem step1_len (x : S1) (i : Nat) : (step1 x i).1.length = x.1.length ∧ (step1 x i).2.1.length = x.2.1.length ∧ (step1 x i).2.2.length ≤ x.2.2.length + 1 := by
  unfold step1
  split
  · refine ⟨nulTo_length _ _ _ _, nulTo_length _ _ _ _, ?_⟩
    dsimp only
    split <;> simp
  · exact ⟨rfl, rfl, by first | assumption | exact Nat.le_trans (by assumption) (by decide) | omega⟩
theorem step2_len (x : List (Option Nat) × List (Nat × Nat × Nat)) (i : Nat) : (step2 x i).1.length = x.1.length ∧ (step2 x i).2.length ≤ x.2.length + 1 := by
  unfold step2
  split
  · exact ⟨nulTo_length _ _ _ _, by simp⟩
  · exact ⟨rfl, by first | assumption | exact Nat.le_trans (by assumption) (by decide) | omega⟩
theorem st1_len (one two : List Nat) : ∀ i, (st1 one two i).1.length = one.length ∧ (st1 one two i).2.1.length = two.length ∧ (st1 one two i).2.2.length ≤ i
  | 0 => by simp [st1]
  | i + 1 => by
    obtain ⟨h1, h2, h3⟩ := st1_len one two i
    obtain ⟨g1, g2, g3⟩ := step1_len (st1 one two i) i
    rw [st1_succ]
    exact ⟨g1.trans h1, g2.trans h2, by first | assumption | exact Nat.le_trans (by assumption) (by decide) | omega⟩
theorem st2_len (t : List (Option Nat)) (r : List (Nat × Nat × Nat)) : ∀ i, (st2 t r i).1.length = t.length ∧ (st2 t r i).2.length ≤ r.length + i
  | 0 => by simp [st2]
  | i + 1 => by
    obtain ⟨h1, h3⟩ := st2_len t r i
    obtain ⟨g1, g3⟩ := step2_len (st2 t r i) i
    rw [st2_succ]
    exact ⟨g1.trans h1, by first | assumption | exact Nat.le_trans (by assumption) (by decide) | omega⟩
end Mine

namespace Mine
section
variable {prog : Program} {w : World} {A : Around} {E : Value → Shared → Prop} {s b : Shared} {env : Env} {h₀ I₀ I h : Heap} {m : Str → Option Value} {ms : List (Addr × Obj)} {tk : Nat} {Q : Value → Shared → Prop} {fs : List Addr}

/-- a call of Mismatch by a name -/
theorem eCallM {x : Str} {np pos : Pos} {e : Expr} {rest : List Expr} (F : Fm w fs h₀ I₀ I env h m ms)
    (k : WP (model prog w) A (spliced (backTo pos (starEach (e :: rest) env))) (fun vs s₁ => (KK w).In s₁.heap ∧ WP (model prog w) A (call (.ref 142) vs) Q E s₁) E (St b h tk))
    (hv : nsIn (KK w) mainGlobals x = some (some (.ref 142)) := by kernel_rfl!)
    (hk : env.kindOf x = some .globalImplicit := by kernel_rfl!) (hd : (x == ("__debug__" : Str)) = false := by kernel_rfl!) (hkeep : keepIn (KK w) (.ref 142) = true := by kernel_rfl!)
    (he : starEach (e :: rest) env = (false, eval e env) :: starEach rest env := by with_unfolding_all rfl) (hp : (backTo pos (starEach rest env)).any (·.1) = false := by with_unfolding_all rfl) :
    WP (model prog w) A (eval (.Call (.Name x np) (e :: rest) [] pos) env) Q E (St b h tk) :=
  ⟨Call_ (F.gl hv (callWith_K (first := []) (F.wd.X.keeps F.stays) hkeep (wpAny_mono k.run (fun _ _ q => ⟨q.1, q.2.run⟩) fun _ _ e => e) he hp) hk hd)⟩

theorem sAssign2 {x y : Str} {p1 p2 pos : Pos} {e : Expr} {Q : Flow → Shared → Prop} (k : WP (model prog w) A (eval e env) (fun v s₁ => WP (model prog w) A (storeName env x v) (fun _ s₂ => WP (model prog w) A (storeName env y v) (fun _ => Q .next) E s₂) E s₁) E s)
    (he : (assignEach [.Name x p1, .Name y p2] env).map (·.2) = [assign (.Name x p1) env, assign (.Name y p2) env] := by with_unfolding_all rfl)
    (hw : swappedStores [.Name x p1, .Name y p2] e env = pure none := by with_unfolding_all rfl) : WP (model prog w) A (exec (.Assign [.Name x p1, .Name y p2] e pos) env) Q E s :=
  ⟨wpAny_Assign_two (wpAny_mono k.run (fun _ _ q => wpAny_assign_Name (wpAny_mono q.run (fun _ _ q => wpAny_assign_Name q.run) fun _ _ e => e)) fun _ _ e => e) he hw⟩

theorem cEqO {N : Addr} {v v' : Value} {d : Option Nat} {k : Nat} (st : I.StaysIn h) (hu : A.units + 4 < cLine) (x : ThO N I v d) (y : Th I v' k) (q : Q (.bool (decide (d = some k))) (St b h tk)) : WP (model prog w) A (compareOp .Eq v v') Q E (St b h tk) :=
  ⟨ThO.rc (s := St b h tk) hu (ThO.mono _ _ _ _ st x) (Th.mono _ _ _ _ st y) prog w E Q q⟩

theorem cIsO {N : Addr} {v : Value} {d : Option Nat} {oN : Obj} (st : I.StaysIn h) (hN : I.get? N = some oN) (hc : oN.cls = .type "object") (x : ThO N I v d) (q : Q (.bool d.isNone) (St b h tk)) : WP (model prog w) A (compareOp .Is v (.ref N)) Q E (St b h tk) := by
  cases d with
  | none =>
    obtain ⟨rfl, _⟩ := x
    exact ⟨wpAny_is_ref_self q⟩
  | some k =>
    obtain ⟨_, a, rfl, _, hh⟩ := x
    have hN' := st _ _ hN
    rcases hh with ⟨p, o, hs, t, l, n, tk', q1, q2, q3, q4⟩ | ⟨p, tk', e, q1, q2⟩
    · have hne : a ≠ N := fun z => by rw [z, hN] at q1; cases q1; rw [q2] at hc; exact absurd hc (by decide)
      exact ⟨wpAny_is_ref_other (s := St b h tk) hne (st _ _ q1) hN' (by rw [q2]; decide) q⟩
    · obtain ⟨o, ho, hcl, _⟩ := q1
      have hne : a ≠ N := fun z => by rw [z, hN] at ho; cases ho; rw [hcl] at hc; exact absurd hc (by decide)
      exact ⟨wpAny_is_ref_other (s := St b h tk) hne (st _ _ ho) hN' (by rw [hcl]; decide) q⟩
end
theorem Paired.set {α β : Type} {F : α → β → Prop} : ∀ {l : List α} {l' : List β} {j : Nat} {a : α} {b : β}, Paired F l l' → F a b → Paired F (l.set j a) (l'.set j b)
  | _, _, _, _, _, .nil, _ => by simpa using .nil
  | _, _, 0, _, _, .cons _ r, x => by simpa using .cons x r
  | _, _, j + 1, _, _, .cons y r, x => by simpa using .cons y (Paired.set r x)
theorem Paired.someO {N : Addr} {I : Heap} : ∀ {vs : List Value} {ds : List Nat}, Paired (Th I) vs ds → Paired (ThO N I) vs (ds.map some)
  | _, _, .nil => .nil
  | _, _, .cons x r => .cons x (Paired.someO r)
end Mine

namespace Mine
theorem sContAgain2 {M : Model} {A : Around} {E : Value → Shared → Prop} {s : Shared} {env : Env} {pos : Pos} {K K' : Shared → Prop} {Q : Flow → Shared → Prop} {N : Shared → Prop} (k : N s) : WP M A (exec (.Continue pos) env) (Nxt K (Nxt K' (LoopQ Q N))) E s := ⟨wpAny_Continue k⟩
section
variable {prog : Program} {w : World} {A : Around} {E : Value → Shared → Prop} {s b : Shared} {I h : Heap} {tk : Nat} {Q : Value → Shared → Prop}

structure VM (sa ta ra N : Addr) (lm ln : Nat) (m : Str → Option Value) : Prop where
  vs1 : m "s" = some (.ref sa)
  vs2 : m "t" = some (.ref ta)
  vs3 : ∃ x, m "m" = some (.int (lm : Int) x)
  vs4 : ∃ x, m "n" = some (.int (ln : Int) x)
  vs5 : m "NULL" = some (.ref N)
  vs6 : m "result" = some (.ref ra)
inductive CP1 (one two : List Nat) (sa ta ra N : Addr) (I₁ : Heap) (i : Nat) (I' : Heap) (m' : Str → Option Value) (ms' : List (Addr × Obj)) : Prop
  | mk (vr : List Value) (nr : Nat) (ot os : Obj) (vs vt : List Value) (e : ms' = [(ra, lobj vr nr), (ta, ot), (sa, os)]) (los : LO os vs) (lot : LO ot vt) (p1 : Paired (ThO N I') vs (st1 one two i).1) (p2 : Paired (ThO N I') vt (st1 one two i).2.1) (p3 : Paired (MisR I') vr (st1 one two i).2.2) (V : VM sa ta ra N one.length two.length m') (u : I₁.StaysIn I')
theorem CP1.of {one two : List Nat} {sa ta ra N : Addr} {I₁ : Heap} {i : Nat} {I' : Heap} {m' : Str → Option Value} {ms' : List (Addr × Obj)} {S T : List (Option Nat)} {R : List (Nat × Nat × Nat)} (es : st1 one two i = (S, T, R)) (vr : List Value) (nr : Nat) (ot os : Obj) (vs vt : List Value) (e : ms' = [(ra, lobj vr nr), (ta, ot), (sa, os)]) (los : LO os vs) (lot : LO ot vt)
    (p1 : Paired (ThO N I') vs S) (p2 : Paired (ThO N I') vt T) (p3 : Paired (MisR I') vr R) (V : VM sa ta ra N one.length two.length m') (u : I₁.StaysIn I') : CP1 one two sa ta ra N I₁ i I' m' ms' :=
  ⟨vr, nr, ot, os, vs, vt, e, los, lot, by rw [es]; exact p1, by rw [es]; exact p2, by rw [es]; exact p3, V, u⟩
inductive CP2 (lm ln i k : Nat) (S : List (Option Nat)) (sa ta ra N e it : Addr) (oe oi ot : Obj) (vr : List Value) (nr : Nat) (ev : Value) (I' : Heap) (j : Nat) (I'' : Heap) (m'' : Str → Option Value) (ms'' : List (Addr × Obj)) : Prop
  | mk (so' : Obj) (vs' : List Value) (tc : Tok) (ems : ms'' = [(e, oe), (it, oi), (ra, lobj vr nr), (ta, ot), (sa, so')]) (los : LO so' vs') (p1 : Paired (ThO N I'') vs' (nulTo i j k S)) (hc : m'' "cnt_s" = some (.int ((((S.drop i).take j).count (some k) : Nat) : Int) tc)) (ht : ∃ tz, m'' "cnt_t" = some (.int 0 tz)) (hel : m'' "elem" = some ev) (V : VM sa ta ra N lm ln m'') (eI : I'' = I')
inductive CP3 (lm ln i k : Nat) (S T : List (Option Nat)) (sa ta ra N e it : Addr) (oe oi os : Obj) (vr : List Value) (nr : Nat) (ev : Value) (tc : Tok) (I' : Heap) (j : Nat) (I'' : Heap) (m'' : Str → Option Value) (ms'' : List (Addr × Obj)) : Prop
  | mk (to' : Obj) (vt' : List Value) (td : Tok) (ems : ms'' = [(e, oe), (it, oi), (ra, lobj vr nr), (ta, to'), (sa, os)]) (lot : LO to' vt') (p2 : Paired (ThO N I'') vt' (nulTo 0 j k T)) (hct : m'' "cnt_t" = some (.int ((((T.drop 0).take j).count (some k) : Nat) : Int) td)) (hc : m'' "cnt_s" = some (.int (((S.drop i).count (some k) : Nat) : Int) tc)) (hel : m'' "elem" = some ev) (V : VM sa ta ra N lm ln m'') (eI : I'' = I')
inductive CP4 (lm ln : Nat) (T : List (Option Nat)) (R : List (Nat × Nat × Nat)) (sa ta ra N : Addr) (os : Obj) (I₁ : Heap) (i : Nat) (I' : Heap) (m' : Str → Option Value) (ms' : List (Addr × Obj)) : Prop
  | mk (vr : List Value) (nr : Nat) (ot : Obj) (vt : List Value) (e : ms' = [(ra, lobj vr nr), (ta, ot), (sa, os)]) (lot : LO ot vt) (p2 : Paired (ThO N I') vt (st2 T R i).1) (p3 : Paired (MisR I') vr (st2 T R i).2) (V : VM sa ta ra N lm ln m') (u : I₁.StaysIn I')
theorem CP4.of {lm ln : Nat} {T : List (Option Nat)} {R : List (Nat × Nat × Nat)} {sa ta ra N : Addr} {os : Obj} {I₁ : Heap} {i : Nat} {I' : Heap} {m' : Str → Option Value} {ms' : List (Addr × Obj)} {T' : List (Option Nat)} {R' : List (Nat × Nat × Nat)} (es : st2 T R i = (T', R')) (vr : List Value) (nr : Nat) (ot : Obj) (vt : List Value) (e : ms' = [(ra, lobj vr nr), (ta, ot), (sa, os)]) (lot : LO ot vt)
    (p2 : Paired (ThO N I') vt T') (p3 : Paired (MisR I') vr R') (V : VM sa ta ra N lm ln m') (u : I₁.StaysIn I') : CP4 lm ln T R sa ta ra N os I₁ i I' m' ms' :=
  ⟨vr, nr, ot, vt, e, lot, by rw [es]; exact p2, by rw [es]; exact p3, V, u⟩
inductive CP5 (lm ln i k : Nat) (T : List (Option Nat)) (sa ta ra N e it : Addr) (oe oi os : Obj) (vr : List Value) (nr : Nat) (ev : Value) (I' : Heap) (j : Nat) (I'' : Heap) (m'' : Str → Option Value) (ms'' : List (Addr × Obj)) : Prop
  | mk (to' : Obj) (vt' : List Value) (tc : Tok) (ems : ms'' = [(e, oe), (it, oi), (ra, lobj vr nr), (ta, to'), (sa, os)]) (lot : LO to' vt') (p2 : Paired (ThO N I'') vt' (nulTo i j k T)) (hct : m'' "cnt_t" = some (.int ((((T.drop i).take j).count (some k) : Nat) : Int) tc)) (hel : m'' "elem" = some ev) (V : VM sa ta ra N lm ln m'') (eI : I'' = I')

theorem cdiff_ok {v v' : Value} {one two : List Nat} (W : Wd w I) (st : I.StaysIn h) (r : Rm A 3 40) (hv : LOf Th I v one) (hv' : LOf Th I v' two) (hb1 : one.length ≤ 300) (hb2 : two.length ≤ 300)
    (K : ∀ x h' tk' I', Done [] h I h' I' → LOf MisR I' x (cdiff one two) → Q x (St b h' tk')) :
    WP (model prog w) A (call (.ref 152) [v, v']) Q E (St b h tk) := by
  refine wEnter 152 [("actual", v), ("expected", v')] [] W st r.room (fun _ q => nomatch q) (fun L h₁ tk₁ F C => ?_)
  have r' := Rm.deeper (d := 2) (u := 37) r (envAt w 152 L)
  refine sCons (sExpr (eStr fun _ _ => ⟨fun _ q => (nomatch q), ?_⟩))
  refine sCons (sTup2S F C r'.handled (eTuple (aCons (eListOf F (eName F rfl ⟨h₁, _, I, _, one, rfl, F, hv, by first | assumption | exact Nat.le_trans (by assumption) (by decide) | omega, fun sa h₂ vs ns ps F₂ _ => ?_⟩)))))
  refine aCons (eListOf F₂ (eName F₂ rfl ⟨h₂, _, I, _, two, rfl, F₂, hv', by first | assumption | exact Nat.le_trans (by assumption) (by decide) | omega, fun ta h₃ vt nt pt F₃ hnta => ?_⟩))
  refine aNil (xTupleI F₃ fun tt h₄ I₄ _ F₄ u₄ ht₄ => ⟨h₄, _, I₄, _, tt, _, _, rfl, rfl, F₄, ht₄, fun h₅ tk₅ F₅ => ?_⟩)
  have nvs := ps.length
  have nvt := pt.length
  refine sCons (sTup2S F₅ C r'.handled (eTuple (aCons (eCallB "len" F₅ (aCons (eName F₅ rfl (aNil (xLenM F₅ (.tail _ (.head _)) (LO.of vs ns) (by first | assumption | exact Nat.le_trans (by assumption) (by decide) | omega) fun tm tk₆ => ?_))))))))
  refine aCons (eCallB "len" F₅ (aCons (eName F₅ rfl (aNil (xLenM F₅ (.head _) (LO.of vt nt) (by first | assumption | exact Nat.le_trans (by assumption) (by decide) | omega) fun tn tk₇ => ?_)))))
  refine aNil (xTupleI F₅ fun tt₂ h₈ I₈ _ F₈ u₈ ht₈ => ⟨h₈, _, I₈, _, tt₂, _, _, rfl, rfl, F₈, ht₈, fun h₉ tk₉ F₉ => ?_⟩)
  refine sCons (sAssign (eObj0 F₉ fun N h₁₀ I₁₀ oN _ F₁₀ u₁₀ hN hNc => xSt F₁₀ C fun h₁₁ tk₁₁ F₁₁ => ?_))
  refine sCons (sAssign (eList (aNil (xListM F₁₁ fun ra h₁₂ _ F₁₂ hra => xSt F₁₂ C fun h₁₃ tk₁₃ F₁₃ => ?_))))
  have hst : sa ≠ ta := hnta _ (.head _)
  have hrt : ta ≠ ra := hra _ (.head _)
  have hrs : sa ≠ ra := hra _ (.tail _ (.head _))
  have uI := stays_trans (stays_trans u₄ u₈) u₁₀
  rw [nvs, nvt] at F₁₃
  refine sCons (sForEnum F₁₃ C r'.handled one.length sa (CP1 one two sa ta ra N I₁₀)
    rfl ?_ ?_ ?_ ?_)
  · rintro i I' m' ms' ⟨vr, nr, to, so, vs, vt, rfl, h1, h2, h3, _⟩
    exact ⟨so, vs, .tail _ (.tail _ (.head _)), h1, h3.length.trans (st1_len one two i).1⟩
  · exact ⟨[], 0, _, _, vs, vt, rfl, LO.of _ _, LO.of _ _, Paired.someO (Th.mono.paired uI ps), Paired.someO (Th.mono.paired uI pt), .nil, ⟨rfl, rfl, ⟨_, rfl⟩, ⟨_, rfl⟩, rfl, rfl⟩, stays_refl _⟩
  · rintro i ev ti I' h' tk' m' ms' e it oe oi E' hi hev u' F' ne' ⟨vr, nr, to, so, vs, vt, rfl, los, lot, p1, p2, p3, V, uN⟩
    have hvi := hev so vs (.tail _ (.tail _ (.head _))) los
    have hlen := st1_len one two i
    have hs1 := st1_succ one two i
    generalize st1 one two i = x at p1 p2 p3 hlen hs1
    obtain ⟨S, T, R⟩ := x
    dsimp only at p1 p2 p3 hlen
    obtain ⟨o, ho, hR⟩ := Paired.get p1 hvi
    have hN' := uN _ _ hN
    refine sCons (sIf (tCmp (eName F' rfl (eName F' V.vs5 (cIsO F'.stays hN' hNc hR (vBool ?_))))))
    cases o with
    | none =>
      refine iteT (by rfl) ?_
      refine sCons (sContAgain2 ?_)
      have e1 : step1 (S, T, R) i = (S, T, R) := by simp [step1, ho]
      exact ⟨h', _, I', _, _, rfl, F', ne', stays_refl _, CP1.of (hs1.trans e1) vr nr to so vs vt rfl los lot p1 p2 p3 ⟨V.vs1, V.vs2, V.vs3, V.vs4, V.vs5, V.vs6⟩ uN⟩
    | some k =>
      refine iteF (by simp) ?_
      refine sNil (sCons (sAssign2 (eInt fun tz _ => xSt F' C fun h₁ tk₁ F₁ => xSt F₁ C fun h₂ tk₂ F₂ => ?_)))
      have e1 : step1 (S, T, R) i = (nulTo i (S.length - i) k S, nulTo 0 T.length k T, if (S.drop i).count (some k) ≠ T.count (some k) then R ++ [((S.drop i).count (some k), T.count (some k), k)] else R) := by simp [step1, ho]
      have hse : sa ≠ e := (ne' (sa, so) (.tail _ (.tail _ (.head _)))).1
      have hsi : sa ≠ it := (ne' (sa, so) (.tail _ (.tail _ (.head _)))).2
      have hte : ta ≠ e := (ne' (ta, to) (.tail _ (.head _))).1
      have hti : ta ≠ it := (ne' (ta, to) (.tail _ (.head _))).2
      have hre : ra ≠ e := (ne' (ra, lobj vr nr) (.head _)).1
      have hri : ra ≠ it := (ne' (ra, lobj vr nr) (.head _)).2
      refine sCons (sFor F₂ C (List.range' i (one.length - i)) NatR NatR.mono (CP2 one.length two.length i k S sa ta ra N e it oe oi to vr nr ev I')
        (eCallT "range" F₂ (aCons (eName F₂ rfl (aCons (eName F₂ V.vs3.choose_spec (aNil (xRange2 F₂ (by first | assumption | exact Nat.le_trans (by assumption) (by decide) | omega) (by first | assumption | exact Nat.le_trans (by assumption) (by decide) | omega) r'.handled fun rr h₃ tk₃ F₃ src =>
          ⟨h₃, tk₃, I', _, _, rfl, F₃, src _, ⟨so, vs, tz, rfl, los, by rw [nulTo_zero]; exact p1, rfl, ⟨tz, rfl⟩, rfl, ⟨V.vs1, V.vs2, V.vs3, V.vs4, V.vs5, V.vs6⟩, rfl⟩, ?_, ?_⟩))))))))
      · rintro j d vj I'' h'' tk'' m'' ms'' it2 o2 E'' hd hvj _ F'' ne'' ⟨so', vs', tc, rfl, los', p1', hc, ⟨tz', hct⟩, hel, V, rfl⟩
        obtain ⟨tj, rfl⟩ := hvj
        obtain ⟨hj, hdj⟩ := List.getElem?_eq_some_iff.mp hd
        simp only [List.length_range'] at hj
        have hdj : d = i + j := by rw [← hdj]; simp
        subst hdj
        have hlt : i + j < S.length := by omega
        obtain ⟨o', ho'⟩ : ∃ o', S[i + j]? = some o' := ⟨_, List.getElem?_eq_getElem hlt⟩
        obtain ⟨vj', hvj', hRj⟩ := Paired.get' p1' ((nulTo_get i j k S hlt).trans ho')
        have hvl : vs'.length = S.length := p1'.length.trans (nulTo_length _ _ _ _)
        refine sCons (sIf (tCmp (eSub (eName F'' V.vs1 (eName F'' rfl (xItM F'' (.tail _ (.tail _ (.tail _ (.tail _ (.tail _ (.head _)))))) los' hvj' (by first | assumption | exact Nat.le_trans (by assumption) (by decide) | omega) (eName F'' hel (cEqO F''.stays r'.ule hRj hR (vBool ?_)))))))))
        have hsit : sa ≠ it2 := ne'' (sa, so') (.tail _ (.tail _ (.tail _ (.tail _ (.head _)))))
        by_cases hk : o' = some k
        · refine iteT (by simpa using hk) ?_
          refine sCons (sAug (xLd F'' hc (eInt fun _ _ => oIAdd fun t₁ _ => xSt F'' C fun h₁ tk₁ F₁ => ?_)))
          refine sCons (sSetItem (eName F₁ V.vs5 (eName F₁ V.vs1 (eName F₁ rfl (xSetItem F₁ (.tail _ (.tail _ (.tail _ (.tail _ (.tail _ (.head _)))))) los' (by first | assumption | exact Nat.le_trans (by assumption) (by decide) | omega) (by first | assumption | exact Nat.le_trans (by assumption) (by decide) | omega) fun h₂ o₂ F₂ lo₂ => ?_)))))
          have e9 : setM [(it2, o2), (e, oe), (it, oi), (ra, lobj vr nr), (ta, to), (sa, so')] sa o₂ = [(it2, o2), (e, oe), (it, oi), (ra, lobj vr nr), (ta, to), (sa, o₂)] := setM_t (Ne.symm hsit) (setM_t (Ne.symm hse) (setM_t (Ne.symm hsi) (setM_t (Ne.symm hrs) (setM_t (Ne.symm hst) (setM_h (setM_n))))))
          rw [e9] at F₂
          refine sNil (sAgain ⟨h₂, _, _, _, _, rfl, F₂, ?_, stays_refl _, o₂, vs'.set (i + j) (.ref N), t₁, rfl, lo₂, ?_, ?_, ⟨tz', hct⟩, hel, ⟨V.vs1, V.vs2, V.vs3, V.vs4, V.vs5, V.vs6⟩, rfl⟩)
          · exact adr_all (P := fun a => a ≠ it2) ne'' rfl
          · rw [nulTo_succ _ _ _ _ _ ho', if_pos hk]
            exact Paired.set p1' ⟨rfl, oN, hN', hNc⟩
          · show some (Value.int _ t₁) = _
            rw [cntTo_succ _ _ _ _ _ ho', if_pos hk]
            push_cast; rfl
        · refine iteF (by simpa using hk) ?_
          refine sNil (sAgain ⟨h'', _, _, _, _, rfl, F'', ne'', stays_refl _, so', vs', tc, rfl, los', ?_, ?_, ⟨tz', hct⟩, hel, ⟨V.vs1, V.vs2, V.vs3, V.vs4, V.vs5, V.vs6⟩, rfl⟩)
          · rw [nulTo_succ _ _ _ _ _ ho', if_neg hk]; exact p1'
          · rw [cntTo_succ _ _ _ _ _ ho', if_neg hk]; exact hc
      rintro hA tkA I₃ mA msA FA uA ⟨so₃, vs₃, tc, rfl, lo₃, p1₃, hc, ⟨tz₃, hct⟩, hel, V, rfl⟩
      simp only [List.length_range'] at p1₃ hc
      have hcS : ((S.drop i).take (one.length - i)).count (some k) = (S.drop i).count (some k) := by rw [List.take_of_length_le (by first | exact Nat.le_trans (by assumption) (by decide) | (simp; omega))]
      rw [hcS] at hc
      refine sCons (sForEnum FA C r'.handled two.length ta (CP3 one.length two.length i k S T sa ta ra N e it oe oi so₃ vr nr ev tc I₃)
        V.vs2 ?_ ⟨to, vt, tz₃, rfl, lot, by rw [nulTo_zero]; exact p2, by simpa using hct, hc, hel, ⟨V.vs1, V.vs2, V.vs3, V.vs4, V.vs5, V.vs6⟩, rfl⟩ ?_ ?_)
      · rintro j I'' m'' ms'' ⟨to', vt', td, rfl, h1, h2, _⟩
        exact ⟨to', vt', .tail _ (.tail _ (.tail _ (.head _))), h1, h2.length.trans ((nulTo_length _ _ _ _).trans hlen.2.1)⟩
      · rintro j vj tj I'' h'' tk'' m'' ms'' e2 it2 oe2 oi2 E'' hj hvj _ F'' ne'' ⟨to', vt', td, rfl, lot', p2', hct, hc, hel, V, rfl⟩
        have hvj' := hvj to' vt' (.tail _ (.tail _ (.tail _ (.head _)))) lot'
        have hlt : 0 + j < T.length := by omega
        obtain ⟨o', ho'⟩ : ∃ o', T[0 + j]? = some o' := ⟨_, List.getElem?_eq_getElem hlt⟩
        obtain ⟨o₂, ho₂, hRj⟩ := Paired.get p2' hvj'
        have g := (nulTo_get 0 j k T hlt).trans ho'
        rw [Nat.zero_add] at g
        rw [g] at ho₂
        cases ho₂
        have hvl : vt'.length = T.length := p2'.length.trans (nulTo_length _ _ _ _)
        have hte2 : ta ≠ e2 := (ne'' (ta, to') (.tail _ (.tail _ (.tail _ (.head _))))).1
        have hti2 : ta ≠ it2 := (ne'' (ta, to') (.tail _ (.tail _ (.tail _ (.head _))))).2
        refine sCons (sIf (tCmp (eName F'' rfl (eName F'' hel (cEqO F''.stays r'.ule hRj hR (vBool ?_))))))
        by_cases hk : o' = some k
        · refine iteT (by simpa using hk) ?_
          refine sCons (sAug (xLd F'' hct (eInt fun _ _ => oIAdd fun t₁ _ => xSt F'' C fun h₁ tk₁ F₁ => ?_)))
          refine sCons (sSetItem (eName F₁ V.vs5 (eName F₁ V.vs2 (eName F₁ rfl (xSetItem F₁ (.tail _ (.tail _ (.tail _ (.tail _ (.tail _ (.head _)))))) lot' (by first | assumption | exact Nat.le_trans (by assumption) (by decide) | omega) (by first | assumption | exact Nat.le_trans (by assumption) (by decide) | omega) fun h₂ o₂ F₂ lo₂ => ?_)))))
          have e9 : setM [(e2, oe2), (it2, oi2), (e, oe), (it, oi), (ra, lobj vr nr), (ta, to'), (sa, so₃)] ta o₂ = [(e2, oe2), (it2, oi2), (e, oe), (it, oi), (ra, lobj vr nr), (ta, o₂), (sa, so₃)] := setM_t (Ne.symm hte2) (setM_t (Ne.symm hti2) (setM_t (Ne.symm hte) (setM_t (Ne.symm hti) (setM_t (Ne.symm hrt) (setM_h (setM_t (hst) (setM_n)))))))
          rw [e9] at F₂
          refine sNil (sAgain ⟨h₂, _, _, _, _, rfl, F₂, ?_, stays_refl _, o₂, vt'.set j (.ref N), t₁, rfl, lo₂, ?_, ?_, hc, hel, ⟨V.vs1, V.vs2, V.vs3, V.vs4, V.vs5, V.vs6⟩, rfl⟩)
          · exact adr_all (P := fun a => a ≠ e2 ∧ a ≠ it2) ne'' rfl
          · rw [nulTo_succ _ _ _ _ _ ho', if_pos hk, Nat.zero_add]
            exact Paired.set p2' ⟨rfl, oN, hN', hNc⟩
          · show some (Value.int _ t₁) = _
            rw [cntTo_succ _ _ _ _ _ ho', if_pos hk]
            push_cast; rfl
        · refine iteF (by simpa using hk) ?_
          refine sNil (sAgain ⟨h'', _, _, _, _, rfl, F'', ne'', stays_refl _, to', vt', td, rfl, lot', ?_, ?_, hc, hel, ⟨V.vs1, V.vs2, V.vs3, V.vs4, V.vs5, V.vs6⟩, rfl⟩)
          · rw [nulTo_succ _ _ _ _ _ ho', if_neg hk]; exact p2'
          · rw [cntTo_succ _ _ _ _ _ ho', if_neg hk]; exact hct
      rintro h₄ tk₄ I₄ m₄ ms₄ F₄ u₄ ⟨to₄, vt₄, td, rfl, lo₄, p2₄, hct, hc, hel, V, rfl⟩
      have hcT : ((T.drop 0).take two.length).count (some k) = T.count (some k) := by rw [List.drop_zero, List.take_of_length_le (by first | assumption | exact Nat.le_trans (by assumption) (by decide) | omega)]
      rw [hcT] at hct
      have hl1 : one.length - i = S.length - i := by rw [hlen.1]
      rw [hl1] at p1₃
      rw [← hlen.2.1] at p2₄
      refine sCons (sIf (tCmp (eName F₄ hc (eName F₄ hct (qNe (vBool ?_))))))
      by_cases hcd : (S.drop i).count (some k) = T.count (some k)
      · refine iteF (by simp [hcd]) ?_
        rw [if_neg (by simp [hcd])] at e1
        exact sNil (sAgain ⟨h₄, _, _, _, _, rfl, F₄, (adr_all (P := fun a => a ≠ e ∧ a ≠ it) ne' rfl), stays_refl _, CP1.of (hs1.trans e1) vr nr to₄ so₃ vs₃ vt₄ rfl lo₃ lo₄ p1₃ p2₄ p3 ⟨V.vs1, V.vs2, V.vs3, V.vs4, V.vs5, V.vs6⟩ uN⟩)
      · refine iteT (by first | exact Nat.le_trans (by assumption) (by decide) | (simp; omega)) ?_
        rw [if_pos hcd] at e1
        refine sCons (sAssign (eCallM F₄ (aCons (eName F₄ hc (aCons (eName F₄ hct (aCons (eName F₄ hel (aNil ⟨F₄.wd.X.keeps F₄.stays, mm_ok F₄.wd F₄.stays r'.mono fun x h₅ tk₅ I₅ D hx => ?_⟩))))))))) 
        obtain ⟨xa, rfl, hxa⟩ := hx
        have F₅ := F₄.aft D
        refine xSt F₅ C fun h₆ tk₆ F₆ => ?_
        have hM6 := (F₆.made (ra, lobj vr nr) (.tail _ (.tail _ (.head _)))).1
        have nvr := p3.length
        refine sCons (sExpr (eMethL1 "list.append" F₆ V.vs6 ⟨_, hM6⟩ PySem.F.slot_list_append PySem.F.type_list_append (eName F₆ rfl (xAppend F₆ (.tail _ (.tail _ (.head _))) (by first | assumption | exact Nat.le_trans (by assumption) (by decide) | omega) fun h₇ F₇ => ⟨fun _ q => (nomatch q), ?_⟩))))
        have e9 : setM [(e, oe), (it, oi), (ra, lobj vr nr), (ta, to₄), (sa, so₃)] ra (lobj (vr ++ [.ref xa]) (nr + 1)) = [(e, oe), (it, oi), (ra, lobj (vr ++ [.ref xa]) (nr + 1)), (ta, to₄), (sa, so₃)] := setM_t (Ne.symm hre) (setM_t (Ne.symm hri) (setM_h (setM_t (hrt) (setM_t (hrs) (setM_n)))))
        rw [e9] at F₇
        refine sNil (sAgain ⟨h₇, _, _, _, _, rfl, F₇, (adr_all (P := fun a => a ≠ e ∧ a ≠ it) ne' rfl), D.ext.1, CP1.of (hs1.trans e1) (vr ++ [.ref xa]) (nr + 1) to₄ so₃ vs₃ vt₄ rfl lo₃ lo₄ (ThO.mono.paired D.ext.1 p1₃) (ThO.mono.paired D.ext.1 p2₄) (Paired.append (MisR.mono.paired D.ext.1 p3) (.cons ?_ .nil)) ⟨V.vs1, V.vs2, V.vs3, V.vs4, V.vs5, V.vs6⟩ (stays_trans uN D.ext.1)⟩)
        exact ⟨xa, _, _, _, rfl, hxa, ⟨_, rfl⟩, ⟨_, rfl⟩, Th.mono _ _ _ _ D.ext.1 hR⟩
  rintro hB tkB IB mB msB FB uB ⟨vr, nr, to, so, vs, vt, rfl, los, lot, p1, p2, p3, V, uN⟩
  have hlen := st1_len one two one.length
  have hcd : cdiff one two = (st2 (st1 one two one.length).2.1 (st1 one two one.length).2.2 two.length).2 := rfl
  rw [hcd] at K
  generalize st1 one two one.length = x at p1 p2 p3 hlen K
  obtain ⟨S, T, R⟩ := x
  dsimp only at p1 p2 p3 hlen K
  refine sCons (sForEnum FB C r'.handled two.length ta (CP4 one.length two.length T R sa ta ra N so I₁₀)
    V.vs2 ?_ ⟨vr, nr, to, vt, rfl, lot, p2, p3, ⟨V.vs1, V.vs2, V.vs3, V.vs4, V.vs5, V.vs6⟩, uN⟩ ?_ ?_)
  · rintro i I' m' ms' ⟨vr, nr, to, vt, rfl, h1, h2, _⟩
    exact ⟨to, vt, .tail _ (.head _), h1, h2.length.trans ((st2_len T R i).1.trans hlen.2.1)⟩
  · rintro i ev ti I' h' tk' m' ms' e it oe oi E' hi hev u' F' ne' ⟨vr, nr, to, vt, rfl, lot, p2, p3, V, uN⟩
    have hvi := hev to vt (.tail _ (.head _)) lot
    have hlen2 := st2_len T R i
    have hs2 := st2_succ T R i
    generalize st2 T R i = x at p2 p3 hlen2 hs2
    obtain ⟨T', R'⟩ := x
    dsimp only at p2 p3 hlen2
    obtain ⟨o, ho, hR⟩ := Paired.get p2 hvi
    have hN' := uN _ _ hN
    refine sCons (sIf (tCmp (eName F' rfl (eName F' V.vs5 (cIsO F'.stays hN' hNc hR (vBool ?_))))))
    cases o with
    | none =>
      refine iteT (by rfl) ?_
      refine sCons (sContAgain2 ?_)
      have e1 : step2 (T', R') i = (T', R') := by simp [step2, ho]
      exact ⟨h', _, I', _, _, rfl, F', ne', stays_refl _, CP4.of (hs2.trans e1) vr nr to vt rfl lot p2 p3 ⟨V.vs1, V.vs2, V.vs3, V.vs4, V.vs5, V.vs6⟩ uN⟩
    | some k =>
      refine iteF (by simp) ?_
      refine sNil (sCons (sAssign (eInt fun tz _ => xSt F' C fun h₁ tk₁ F₁ => ?_)))
      have e1 : step2 (T', R') i = (nulTo i (T'.length - i) k T', R' ++ [(0, (T'.drop i).count (some k), k)]) := by simp [step2, ho]
      have hse : sa ≠ e := (ne' (sa, so) (.tail _ (.tail _ (.head _)))).1
      have hsi : sa ≠ it := (ne' (sa, so) (.tail _ (.tail _ (.head _)))).2
      have hte : ta ≠ e := (ne' (ta, to) (.tail _ (.head _))).1
      have hti : ta ≠ it := (ne' (ta, to) (.tail _ (.head _))).2
      have hre : ra ≠ e := (ne' (ra, lobj vr nr) (.head _)).1
      have hri : ra ≠ it := (ne' (ra, lobj vr nr) (.head _)).2
      refine sCons (sFor F₁ C (List.range' i (two.length - i)) NatR NatR.mono (CP5 one.length two.length i k T' sa ta ra N e it oe oi so vr nr ev I')
        (eCallT "range" F₁ (aCons (eName F₁ rfl (aCons (eName F₁ V.vs4.choose_spec (aNil (xRange2 F₁ (by first | assumption | exact Nat.le_trans (by assumption) (by decide) | omega) (by first | assumption | exact Nat.le_trans (by assumption) (by decide) | omega) r'.handled fun rr h₃ tk₃ F₃ src =>
          ⟨h₃, tk₃, I', _, _, rfl, F₃, src _, ⟨to, vt, tz, rfl, lot, by rw [nulTo_zero]; exact p2, rfl, rfl, ⟨V.vs1, V.vs2, V.vs3, V.vs4, V.vs5, V.vs6⟩, rfl⟩, ?_, ?_⟩))))))))
      · rintro j d vj I'' h'' tk'' m'' ms'' it2 o2 E'' hd hvj _ F'' ne'' ⟨to', vt', tc, rfl, lot', p2', hc, hel, V, rfl⟩
        obtain ⟨tj, rfl⟩ := hvj
        obtain ⟨hj, hdj⟩ := List.getElem?_eq_some_iff.mp hd
        simp only [List.length_range'] at hj
        have hdj : d = i + j := by rw [← hdj]; simp
        subst hdj
        have hlt : i + j < T'.length := by omega
        obtain ⟨o', ho'⟩ : ∃ o', T'[i + j]? = some o' := ⟨_, List.getElem?_eq_getElem hlt⟩
        obtain ⟨vj', hvj', hRj⟩ := Paired.get' p2' ((nulTo_get i j k T' hlt).trans ho')
        have hvl : vt'.length = T'.length := p2'.length.trans (nulTo_length _ _ _ _)
        refine sCons (sIf (tCmp (eSub (eName F'' V.vs2 (eName F'' rfl (xItM F'' (.tail _ (.tail _ (.tail _ (.tail _ (.head _))))) lot' hvj' (by first | assumption | exact Nat.le_trans (by assumption) (by decide) | omega) (eName F'' hel (cEqO F''.stays r'.ule hRj hR (vBool ?_)))))))))
        have htit : ta ≠ it2 := ne'' (ta, to') (.tail _ (.tail _ (.tail _ (.head _))))
        by_cases hk : o' = some k
        · refine iteT (by simpa using hk) ?_
          refine sCons (sAug (xLd F'' hc (eInt fun _ _ => oIAdd fun t₁ _ => xSt F'' C fun h₁ tk₁ F₁ => ?_)))
          refine sCons (sSetItem (eName F₁ V.vs5 (eName F₁ V.vs2 (eName F₁ rfl (xSetItem F₁ (.tail _ (.tail _ (.tail _ (.tail _ (.head _))))) lot' (by first | assumption | exact Nat.le_trans (by assumption) (by decide) | omega) (by first | assumption | exact Nat.le_trans (by assumption) (by decide) | omega) fun h₂ o₂ F₂ lo₂ => ?_)))))
          have e9 : setM [(it2, o2), (e, oe), (it, oi), (ra, lobj vr nr), (ta, to'), (sa, so)] ta o₂ = [(it2, o2), (e, oe), (it, oi), (ra, lobj vr nr), (ta, o₂), (sa, so)] := setM_t (Ne.symm htit) (setM_t (Ne.symm hte) (setM_t (Ne.symm hti) (setM_t (Ne.symm hrt) (setM_h (setM_t (hst) (setM_n))))))
          rw [e9] at F₂
          refine sNil (sAgain ⟨h₂, _, _, _, _, rfl, F₂, ?_, stays_refl _, o₂, vt'.set (i + j) (.ref N), t₁, rfl, lo₂, ?_, ?_, hel, ⟨V.vs1, V.vs2, V.vs3, V.vs4, V.vs5, V.vs6⟩, rfl⟩)
          · exact adr_all (P := fun a => a ≠ it2) ne'' rfl
          · rw [nulTo_succ _ _ _ _ _ ho', if_pos hk]
            exact Paired.set p2' ⟨rfl, oN, hN', hNc⟩
          · show some (Value.int _ t₁) = _
            rw [cntTo_succ _ _ _ _ _ ho', if_pos hk]
            push_cast; rfl
        · refine iteF (by simpa using hk) ?_
          refine sNil (sAgain ⟨h'', _, _, _, _, rfl, F'', ne'', stays_refl _, to', vt', tc, rfl, lot', ?_, ?_, hel, ⟨V.vs1, V.vs2, V.vs3, V.vs4, V.vs5, V.vs6⟩, rfl⟩)
          · rw [nulTo_succ _ _ _ _ _ ho', if_neg hk]; exact p2'
          · rw [cntTo_succ _ _ _ _ _ ho', if_neg hk]; exact hc
      rintro h₄ tk₄ I₄ m₄ ms₄ F₄ u₄ ⟨to₄, vt₄, td, rfl, lo₄, p2₄, hct, hel, V, rfl⟩
      simp only [List.length_range'] at p2₄ hct
      have hl1 : two.length - i = T'.length - i := by rw [hlen2.1, hlen.2.1]
      rw [hl1] at p2₄ hct
      have hcT : ((T'.drop i).take (T'.length - i)).count (some k) = (T'.drop i).count (some k) := by rw [List.take_of_length_le (by simp)]
      rw [hcT] at hct
      refine sCons (sAssign (eCallM F₄ (aCons (eInt fun t0 _ => aCons (eName F₄ hct (aCons (eName F₄ hel (aNil ⟨F₄.wd.X.keeps F₄.stays, mm_ok F₄.wd F₄.stays r'.mono fun x h₅ tk₅ I₅ D hx => ?_⟩))))))))
      obtain ⟨xa, rfl, hxa⟩ := hx
      have F₅ := F₄.aft D
      refine xSt F₅ C fun h₆ tk₆ F₆ => ?_
      have hM6 := (F₆.made (ra, lobj vr nr) (.tail _ (.tail _ (.head _)))).1
      have nvr := p3.length
      refine sCons (sExpr (eMethL1 "list.append" F₆ V.vs6 ⟨_, hM6⟩ PySem.F.slot_list_append PySem.F.type_list_append (eName F₆ rfl (xAppend F₆ (.tail _ (.tail _ (.head _))) (by first | assumption | exact Nat.le_trans (by assumption) (by decide) | omega) fun h₇ F₇ => ⟨fun _ q => (nomatch q), ?_⟩))))
      have e9 : setM [(e, oe), (it, oi), (ra, lobj vr nr), (ta, to₄), (sa, so)] ra (lobj (vr ++ [.ref xa]) (nr + 1)) = [(e, oe), (it, oi), (ra, lobj (vr ++ [.ref xa]) (nr + 1)), (ta, to₄), (sa, so)] := setM_t (Ne.symm hre) (setM_t (Ne.symm hri) (setM_h (setM_t (hrt) (setM_t (hrs) (setM_n)))))
      rw [e9] at F₇
      refine sAgain ⟨h₇, _, _, _, _, rfl, F₇, (adr_all (P := fun a => a ≠ e ∧ a ≠ it) ne' rfl), D.ext.1, CP4.of (hs2.trans e1) (vr ++ [.ref xa]) (nr + 1) to₄ vt₄ rfl lo₄ (ThO.mono.paired D.ext.1 p2₄) (Paired.append (MisR.mono.paired D.ext.1 p3) (.cons ?_ .nil)) ⟨V.vs1, V.vs2, V.vs3, V.vs4, V.vs5, V.vs6⟩ (stays_trans uN D.ext.1)⟩
      exact ⟨xa, _, _, _, rfl, hxa, ⟨_, rfl⟩, ⟨_, rfl⟩, Th.mono _ _ _ _ D.ext.1 hR⟩
  rintro h' tk' I' m' ms' F' u' ⟨vr, nr, to, vt, rfl, lot, p2, p3, V, uN⟩
  have F₅ := F'.freeze (a := ra) (o := lobj vr nr) (ms' := []) (.head _) (fun _ q => nomatch q)
  have u₅ := add_up (a := ra) F'.stays
  exact sCons (sRet (eName F₅ V.vs6 ⟨_, rfl, K _ _ _ _ F₅.done ⟨ra, vr, rfl, ⟨nr, add_new.trans (F'.made _ (.head _)).1⟩, MisR.mono.paired u₅ p3⟩⟩))
end
end Mine

namespace Mine
section
variable {prog : Program} {w : World} {A : Around} {E : Value → Shared → Prop} {s b : Shared} {env : Env} {h₀ I₀ I h : Heap} {m : Str → Option Value} {ms : List (Addr × Obj)} {tk : Nat} {Q : Value → Shared → Prop} {fs : List Addr}

/-- a list's iterator -/
def ItO (o : Obj) (a : Addr) (i : Nat) : Prop := o.cls = .type "list_iterator" ∧ o.data = .fields #[.ref a, .int (i : Int) 0]
theorem ItO.at {it a : Addr} {o : Obj} {i : Nat} (x : ItO o a i) (e : h.get? it = some o) : h.IsListIter it a i := ⟨o, e, x.1, x.2⟩

theorem xIter {a : Addr} {vs : List Value} (F : Fm w fs h₀ I₀ I env h m ms) (hl : I.PlainList a vs.toArray)
    (k : ∀ it h' o, Fm w fs h₀ I₀ I env h' m ((it, o) :: ms) → ItO o a 0 → (∀ p ∈ ms, p.1 ≠ it) → Q (.ref it) (St b h' tk)) : WP (model prog w) A (call (.builtin "iter") [.ref a]) Q E (St b h tk) := by
  refine ⟨call_function_entry (s := St b h tk) (by decide +kernel) (by decide +kernel) kdk_entry_iter (kdk_args_iter _) ?_⟩
  unfold Builtin.«iter»
  refine wpAny_bind (m := someArgs "iter" 1 2 _) (wpAny_of_eq (a := [Value.ref a]) (by first | rfl | kernel_rfl!) ?_)
  show wpAny _ _ (pyIter (.ref a) >>= _) _ _ _
  refine wpAny_bind (wpAny_pyIter_list (s := St b h tk) (IsList.up hl.isList F.stays) ?_)
  have hk : ∀ b o, h.get? b = some o → (h.push { cls := .type "list_iterator", data := .fields #[.ref a, .int 0 0] }).get? b = some o := fun b o e => Heap.get?_push_of_some _ e
  refine wpAny_pure ⟨_, rfl, k _ _ _ (F.fresh hk (get_size _) (Heap.get?_push_size _ rfl)) ⟨rfl, rfl⟩ fun p hp e => ?_⟩
  have q : h.get? h.objs.size = some p.2 := e ▸ (F.made p hp).1
  rw [get_size] at q; cases q

theorem xNext {it a : Addr} {o : Obj} {i : Nat} {vs : List Value} {x : Value} (F : Fm w fs h₀ I₀ I env h m ms) (hm : (it, o) ∈ ms) (ho : ItO o a i) (hl : I.PlainList a vs.toArray) (hx : vs[i]? = some x)
    (k : ∀ h' o', Fm w fs h₀ I₀ I env h' m (setM ms it o') → ItO o' a (i + 1) → Q x (St b h' tk)) : WP (model prog w) A (call (.builtin "next") [.ref it]) Q E (St b h tk) := by
  have hit := ho.at (F.made _ hm).1
  refine ⟨call_function_entry (s := St b h tk) (by decide +kernel) (by decide +kernel) kdk_entry_next (kdk_args_next _) ?_⟩
  unfold Builtin.«next»
  refine wpAny_bind (m := someArgs "next" 1 2 _) (wpAny_of_eq (a := [Value.ref it]) (by first | rfl | kernel_rfl!) ?_)
  dsimp only
  refine wpAny_bind (wpAny_specialOf (s := St b h tk) (name := Str.ofString "__next__") hit.typeIs slot_listiter_next.lookup ?_)
  refine wpAny_ite_split (fun hab => absurd hab (by decide)) (fun _ => ?_)
  obtain ⟨ol, hol, _, nl, hdl⟩ := IsList.up hl.isList F.stays
  have ho' := (F.made _ hm).1
  refine wpAny_bind (wpAny_callSpecial?_slot (s := St b h tk) (name := Str.ofString "__next__") hit.typeIs slot_listiter_next (wpAny_call_entry (s := St b h tk) slot_listiter_next hit.typeIs entry_listiter_next ?_ (args_listiter_next _)))
  show wpAny _ _ (field (.ref it) 0 >>= _) _ _ _
  refine wpAny_bind (wpAny_field (s := St b h tk) ho' ho.2 (x := .ref a) rfl ?_)
  show wpAny _ _ (if (Value.ref a == Value.none) = true then _ else _) _ _ _
  rw [if_neg (show ¬ ((Value.ref a == Value.none) = true) from Bool.false_ne_true)]
  show wpAny _ _ (field (.ref it) 1 >>= _) _ _ _
  refine wpAny_bind (wpAny_field (s := St b h tk) ho' ho.2 (x := .int i 0) rfl ?_)
  show wpAny _ _ (seqItems? (.ref a) >>= _) _ _ _
  refine wpAny_bind (wpAny_seqItems (s := St b h tk) hol hdl ?_)
  have hx' : vs.toArray[i]? = some x := by simpa using hx
  simp only [Int.toNat_natCast, hx']
  refine wpAny_bind (wpAny_setField (s := St b h tk) ho' ho.2 (by simp) (wpAny_pure ⟨x, rfl, ?_⟩))
  refine wpAny_pure ⟨_, rfl, k _ _ (F.turnM hm (Heap.SameBut.update ..) (Heap.get?_update_self _ ho' (Obj.isFreed_of_fields (Obj.data_mapFields ho.2 _)))) ⟨(Obj.cls_mapFields ..).trans ho.1, ?_⟩⟩
  rw [Obj.data_mapFields ho.2]; simp [rawInt]

/-- a call of a local's function -/
theorem eCallV {x : Str} {np pos : Pos} {e : Expr} {rest : List Expr} {f : Addr} (F : Fm w fs h₀ I₀ I env h m ms) (hv : m x = some (.ref f)) (hf : FnAt f h)
    (k : WP (model prog w) A (spliced (backTo pos (starEach (e :: rest) env))) (fun vs s₁ => FnAt f s₁.heap ∧ WP (model prog w) A (call (.ref f) vs) Q E s₁) E (St b h tk))
    (hk : nameOk env x = true := by kernel_rfl!) (hd : (x == ("__debug__" : Str)) = false := by kernel_rfl!)
    (he : starEach (e :: rest) env = (false, eval e env) :: starEach rest env := by with_unfolding_all rfl) (hp : (backTo pos (starEach rest env)).any (·.1) = false := by with_unfolding_all rfl) :
    WP (model prog w) A (eval (.Call (.Name x np) (e :: rest) [] pos) env) Q E (St b h tk) :=
  ⟨Call_ (F.nm hv (callWith_F (first := []) (s := St b h tk) hf (wpAny_mono k.run (fun _ _ q => ⟨q.1, q.2.run⟩) fun _ _ e => e) he hp) hk hd)⟩
end
end Mine

namespace Mine
section
variable {prog : Program} {w : World} {A : Around} {E : Value → Shared → Prop} {s b : Shared} {env : Env} {h₀ I₀ I h : Heap} {m : Str → Option Value} {ms : List (Addr × Obj)} {tk : Nat} {fs : List Addr}

/-- for x in it: body; it a list's iterator, some way on -/
theorem sForIt {x itn : Str} {px ip pos : Pos} {body : List Stmt} {Q : Flow → Shared → Prop} {it a : Addr} {o : Obj} {i₀ : Nat} {vs : List Value} (F : Fm w fs h₀ I₀ I env h m ((it, o) :: ms)) (C : CellsNew h₀ env) (hh : A.handled = none) (ne : ∀ p ∈ ms, p.1 ≠ it)
    (hin : m itn = some (.ref it)) (ho : ItO o a i₀) (hl : I.PlainList a vs.toArray) (hi₀ : i₀ ≤ vs.length) (P : Nat → Heap → (Str → Option Value) → List (Addr × Obj) → Prop) (h0 : P i₀ I m ms)
    (turn : ∀ i v I' h' tk' m' ms' o' E', vs[i]? = some v → I.StaysIn I' → Fm w fs h₀ I₀ I' env h' (upd m' x v) ((it, o') :: ms') → (∀ p ∈ ms', p.1 ≠ it) → P i I' m' ms' →
      WP (model prog w) A (execs body env) (LoopQ Q (FAgain w b fs h₀ I₀ env it o' I' (P (i + 1)))) E' (St b h' tk'))
    (fin : ∀ h' tk' I' m' ms', Fm w fs h₀ I₀ I' env h' m' ms' → I.StaysIn I' → P vs.length I' m' ms' → Q .next (St b h' tk'))
    (hx : nameOk env x = true := by kernel_rfl!) (hk : nameOk env itn = true := by kernel_rfl!) (hd : (itn == ("__debug__" : Str)) = false := by kernel_rfl!)
    (hs : ∀ v, foldedSetIterable (.Name itn ip) env v = pure v := by intro _; with_unfolding_all rfl) (ht : ∀ it v, letOwnedTupleGo (.Name x px) it v = pure () := by intro _ _; rfl) :
    WP (model prog w) A (exec (.For (.Name x px) (.Name itn ip) body [] pos) env) Q E (St b h tk) := by
  have hit₀ := (F.made _ (.head _)).1
  have hait : a ≠ it := fun q => by
    obtain ⟨n, e⟩ := hl
    rw [q, (F.made _ (.head _)).2.1] at e; cases e
  have W := Iter.list (prog := prog) (w := w) (A := A) (I := I) (it := it) hh hl.isList hait
  have hsz : vs.toArray.size = vs.length := by simp
  rw [hsz] at W
  have st0 : h.IsListIter it a i₀ ∧ h.IsList a vs.toArray := ⟨ho.at hit₀, IsList.up hl.isList F.stays⟩
  refine ⟨wpAny_For (F.nm hin ?_ hk hd) hs⟩
  refine W.self i₀ _ _ _ st0 ?_
  exact for_core C W (fun i v I' h' tk' m' ms' o' E' _ hv u F' ne' hP' => turn i v I' h' tk' m' ms' o' E' (by simpa using hv) u F' ne' hP') fin (fun _ q => q) (fun _ _ q => q) hx (ht _) (vs.length - i₀) _ ⟨i₀, h, tk, I, m, ms, o, by first | assumption | exact Nat.le_trans (by assumption) (by decide) | omega, rfl, F, ne, stays_refl _, st0, h0⟩

/-- the entry of a def with defaults, and no cells -/
theorem wEnterD {Q : Value → Shared → Prop} {vals : List Value} {oc : Value} {od : Option Addr} {osl : Array (Option Value)}
    (f : Addr) (binds : List (Str × Value)) (fs : List Addr) (W : Wd w I) (st : I.StaysIn h) (hroom : A.depth < recursionLimit) (hfs : ∀ f ∈ fs, ∃ o, h.get? f = some o)
    (k : ∀ L h₁ tk', Fm w fs h I I (envAt w f L) h₁ (fun x => binds.reverse.lookup x) [] → CellsNew h (envAt w f L) →
      WP (model prog w) (A.deeper (envAt w f L)) (execs (bodyAt w f) (envAt w f L)) (RetQ Q) (fun _ _ => False) (St b h₁ tk'))
    (ho : (KK w).lookup f = some ⟨oc, od, .func (fdAt w f), osl⟩ := by rfl) (hbody : (fdAt w f).body = .stmts (bodyAt w f) := by kernel_rfl!) (hbind : ∀ S, peek (KK w) S (bindArgs (fdAt w f) ⟨vals, []⟩) = some binds := by intro _; kernel_rfl!)
    (hcd : codeIn (KK w) (fdAt w f).code (fdAt w f).qualname = true := by kernel_rfl!) (hcell : ((fdAt w f).scope.names.all fun x => x.2 != .cell) = true := by kernel_rfl!) (hloc : (binds.all fun x => (fdAt w f).scope.names.lookup x.1 == some .local) = true := by kernel_rfl!)
    (henv : ∀ L, callEnv (fdAt w f) L f = envAt w f L := by intro _; kernel_rfl!) (hcl : ∀ L, (envAt w f L).cells = [] := by intro _; kernel_rfl!)
    (hg : (fdAt w f).globals = mainGlobals := by kernel_rfl!) (hbl : (fdAt w f).builtins = builtinsNs := by kernel_rfl!)
    (hco : (fdAt w f).scope.isCoroutine = false := by kernel_rfl!) (hgen : (fdAt w f).scope.isGenerator = false := by kernel_rfl!) (hk : (fdAt w f).scope.kind = .function := by kernel_rfl!) :
    WP (model prog w) A (call (.ref f) vals) Q E (St b h tk) := by
  have X := W.X.keeps st
  refine wCall (codeAny_call_def (s := St b h tk) hroom (X _ _ ho) rfl (W.nolimit.keeps st) (codeRec_of X hcd) hbody (kp_binds X hbind) (fun x hx => by simpa using List.all_eq_true.mp hcell x hx) (fun x hx => by simpa using List.all_eq_true.mp hloc x hx) (fun h₁ hns hkeep => ?_) hco hgen hk)
  rw [henv]
  have fr : h.get? h.objs.size = none := get_size _
  have frI : I.get? h.objs.size = none := by
    cases q : I.get? h.objs.size with
    | none => rfl
    | some o => have := st _ _ q; rw [fr] at this; cases this
  have hc0 : ∀ n c, (envAt w f h.objs.size).cells.lookup n ≠ some c := fun n c q => by rw [hcl] at q; cases q
  refine wpAny_mono (k h.objs.size h₁ _ ?_ ?_).run (fun fl s' q => ?_) fun _ _ e => e.elim
  · exact
      { kind := hk, glob := hg, blt := hbl, wd := W, stays := stays_trans st hkeep, keep := Kp.of hkeep, ext := Ext.refl _ _, fsIn := hfs
        ns := ⟨_, hns, fun n v _ hv => hv⟩
        cells := fun n c hc => (hc0 n c hc).elim
        hidL := frI, hidC := fun n c hc => (hc0 n c hc).elim
        newL := fr, made := fun _ hp => nomatch hp }
  · exact ⟨fun n c hc => (hc0 n c hc).elim, by rw [hcl]; exact .nil, fun p hp => by rw [hcl] at hp; cases hp⟩
  · obtain ⟨v, rfl, q⟩ := q
    exact q

/-- what reduce asks of its function -/
def StepOk {α β : Type} (prog : Program) (w : World) (A : Around) (b : Shared) (fs : List Addr) (I : Heap) (f : Addr) (RA : Rep α) (RB : Rep β) (step : α → β → α) (Ok : α → β → Prop) : Prop :=
  ∀ (x : α) (y : β) (vx vy : Value) (I' h' : Heap) (tk' : Nat) (Q' : Value → Shared → Prop) (E' : Value → Shared → Prop), Ok x y → I.StaysIn I' → RA I' vx x → RB I' vy y → Wd w I' → I'.StaysIn h' → Stk A fs h' I' → FnAt f h' →
    (∀ v h'' tk'' I'', Done fs h' I' h'' I'' → RA I'' v (step x y) → Q' v (St b h'' tk'')) → WP (model prog w) A (call (.ref f) [vx, vy]) Q' E' (St b h' tk')

theorem FnAt.up {f : Addr} {I h : Heap} (st : I.StaysIn h) (x : FnAt f I) : FnAt f h := let ⟨a, b, c, d, e⟩ := x; ⟨a, b, c, d, st _ _ e⟩

/-- reduce(function, sequence, initial) -/
theorem reduce3_ok {α β : Type} {Q : Value → Shared → Prop} {f a : Addr} {vs : List Value} {vi : Value} {ys : List β} {x₀ : α} {RA : Rep α} {RB : Rep β} {step : α → β → α} {Ok : α → β → Prop} (ma : Mono RA) (mb : Mono RB)
    (W : Wd w I) (st : I.StaysIn h) (r : Rm A 1 20) (S : Stk A fs h I) (hf : FnAt f I) (hl : I.PlainList a vs.toArray) (hp : Paired (RB I) vs ys) (hi : RA I vi x₀) (hne : ∃ c oi, vi = .ref c ∧ I.get? c = some oi ∧ oi.cls ≠ .type "tuple" ∧ c ≠ 153)
    (hok : ∀ i y, ys[i]? = some y → Ok ((ys.take i).foldl step x₀) y)
    (hstep : ∀ L, StepOk prog w (A.deeper (envAt w 161 L)) b (L :: fs) I f RA RB step Ok)
    (K : ∀ v h' tk' I', Done fs h I h' I' → RA I' v (ys.foldl step x₀) → Q v (St b h' tk')) :
    WP (model prog w) A (call (.ref 161) [.ref f, .ref a, vi]) Q E (St b h tk) := by
  obtain ⟨c, oi, rfl, hc1, hc2, hc3⟩ := hne
  refine wEnterD 161 [("function", .ref f), ("sequence", .ref a), ("initial", .ref c)] fs W st r.room (fun f hf => let ⟨o, _, _, q, _⟩ := S.dic f hf; ⟨o, q⟩) (fun L h₁ tk₁ F C => ?_)
  have r' := Rm.deeper (d := 0) (u := 17) r (envAt w 161 L)
  refine sCons (sExpr (eStr fun _ _ => ⟨fun _ q => (nomatch q), ?_⟩))
  refine sCons (sAssign (eCallB "iter" F (aCons (eName F rfl (aNil (xIter F hl fun it h₂ o₂ F₂ hi₂ ne₂ => xSt F₂ C fun h₃ tk₃ F₃ => ?_))))))
  have h153 : ∃ o, I.get? 153 = some o := ⟨_, W.X 153 _ rfl⟩
  obtain ⟨o153, h153⟩ := h153
  refine sCons (sIf (tCmp (eName F₃ rfl (eGlob (.ref 153) F₃ ⟨wpAny_is_ref_other (s := St b h₃ tk₃) hc3 (F₃.stays _ _ hc1) (F₃.stays _ _ h153) hc2 (vBool ?_)⟩))))
  refine iteF (by decide) ?_
  refine sCons (sAssign (eName F₃ rfl (xSt F₃ C fun h₄ tk₄ F₄ => ?_)))
  refine sNil (sCons (sForIt F₄ C r'.handled ne₂ rfl hi₂ hl (Nat.zero_le _) (fun i I' m' ms' => ms' = [] ∧ m' "function" = some (.ref f) ∧ ∃ va, m' "value" = some va ∧ RA I' va ((ys.take i).foldl step x₀)) ⟨rfl, rfl, .ref c, rfl, by simpa using hi⟩ ?_ ?_))
  · rintro i v I' h' tk' m' ms' o' E' hv u' F' ne' ⟨rfl, hfn, va, hva, hRA⟩
    obtain ⟨y, hy, hRB⟩ := Paired.get hp hv
    have ht : ys.take (i + 1) = ys.take i ++ [y] := by rw [List.take_add_one, hy]; rfl
    have hFn := FnAt.up F'.stays (FnAt.up u' hf)
    refine sCons (sAssign (eCallV F' hfn hFn (aCons (eName F' hva (aCons (eName F' rfl (aNil ⟨hFn, hstep L _ _ _ _ _ _ _ _ _ (hok i y hy) u' hRA (mb _ _ _ _ u' hRB) F'.wd F'.stays (S.push F' rfl) hFn fun x h₅ tk₅ I₅ D hx => ?_⟩))))))) 
    have F₅ := F'.after D
    refine xSt F₅ C fun h₆ tk₆ F₆ => sAgain ⟨h₆, tk₆, I₅, _, _, rfl, F₆, ne', D.ext.1, rfl, hfn, x, rfl, ?_⟩
    rw [ht, List.foldl_append]
    exact hx
  · rintro h' tk' I' m' ms' F' u' ⟨rfl, hfn, va, hva, hRA⟩
    rw [hp.length, List.take_length] at hRA
    exact sCons (sRet (eName F' hva ⟨_, rfl, K _ _ _ _ F'.done hRA⟩))
end
end Mine

namespace Mine
section
variable {prog : Program} {w : World} {A : Around} {E : Value → Shared → Prop} {s b : Shared} {env : Env} {h₀ I₀ I h : Heap} {m : Str → Option Value} {ms : List (Addr × Obj)} {tk : Nat} {fs : List Addr}

/-- a try whose body does not raise -/
theorem sTryN {body : List Stmt} {h₁ : ExceptHandler} {hs : List ExceptHandler} {pos : Pos} {Q : Flow → Shared → Prop} (k : ∀ E', WP (model prog w) A (execs body env) Q E' s) : WP (model prog w) A (exec (.Try body (h₁ :: hs) [] [] pos) env) Q E s :=
  ⟨wpAny_Try_except (wpAny_mono (k _).run (fun f s₁ q => by cases f <;> first | exact wpAny_execs_nil q | exact q) fun _ _ e => e)⟩

/-- reduce(function, sequence) -/
theorem reduce2_ok {β : Type} {Q : Value → Shared → Prop} {f a : Addr} {vs : List Value} {y₀ : β} {ys : List β} {RB : Rep β} {step : β → β → β} {Ok : β → β → Prop} (mb : Mono RB)
    (W : Wd w I) (st : I.StaysIn h) (r : Rm A 1 20) (S : Stk A fs h I) (hf : FnAt f I) (hl : I.PlainList a vs.toArray) (hp : Paired (RB I) vs (y₀ :: ys))
    (hok : ∀ i y, ys[i]? = some y → Ok ((ys.take i).foldl step y₀) y)
    (hstep : ∀ L, StepOk prog w (A.deeper (envAt w 161 L)) b (L :: fs) I f RB RB step Ok)
    (K : ∀ v h' tk' I', Done fs h I h' I' → RB I' v (ys.foldl step y₀) → Q v (St b h' tk')) :
    WP (model prog w) A (call (.ref 161) [.ref f, .ref a]) Q E (St b h tk) := by
  refine wEnterD 161 [("function", .ref f), ("sequence", .ref a), ("initial", .ref 153)] fs W st r.room (fun f hf => let ⟨o, _, _, q, _⟩ := S.dic f hf; ⟨o, q⟩) (fun L h₁ tk₁ F C => ?_)
  have r' := Rm.deeper (d := 0) (u := 17) r (envAt w 161 L)
  refine sCons (sExpr (eStr fun _ _ => ⟨fun _ q => (nomatch q), ?_⟩))
  refine sCons (sAssign (eCallB "iter" F (aCons (eName F rfl (aNil (xIter F hl fun it h₂ o₂ F₂ hi₂ ne₂ => xSt F₂ C fun h₃ tk₃ F₃ => ?_))))))
  refine sCons (sIf (tCmp (eName F₃ rfl (eGlob (.ref 153) F₃ ⟨wpAny_is_ref_self (vBool ?_)⟩))))
  refine iteT rfl ?_
  obtain ⟨v₀, hv₀, hR₀⟩ := Paired.get' hp (i := 0) (b := y₀) rfl
  refine sCons (sTryN fun E' => sCons (sAssign (eCallB "next" F₃ (aCons (eName F₃ rfl (aNil (xNext F₃ (.head _) hi₂ hl hv₀ fun h₄ o₄ F₄ hi₄ => xSt F₄ C fun h₅ tk₅ F₅ => ?_)))))))
  have e5 : setM ((it, o₂) :: []) it o₄ = [(it, o₄)] := by simp [setM]
  rw [e5] at F₅
  have nv := hp.length
  refine sNil (sNil (sCons (sForIt F₅ C r'.handled ne₂ rfl hi₄ hl (by simp at nv; omega) (fun i I' m' ms' => ms' = [] ∧ m' "function" = some (.ref f) ∧ ∃ va, m' "value" = some va ∧ RB I' va ((ys.take (i - 1)).foldl step y₀) ∧ 1 ≤ i) ⟨rfl, rfl, v₀, rfl, by simpa using hR₀, by first | assumption | exact Nat.le_trans (by assumption) (by decide) | omega⟩ ?_ ?_)))
  · rintro i v I' h' tk' m' ms' o' E' hv u' F' ne' ⟨rfl, hfn, va, hva, hRA, hi1⟩
    obtain ⟨j, rfl⟩ : ∃ j, i = j + 1 := ⟨i - 1, by first | assumption | exact Nat.le_trans (by assumption) (by decide) | omega⟩
    obtain ⟨y, hy, hRB⟩ := Paired.get hp hv
    simp only [List.getElem?_cons_succ] at hy
    simp only [Nat.add_sub_cancel] at hRA
    have ht : ys.take (j + 1) = ys.take j ++ [y] := by rw [List.take_add_one, hy]; rfl
    have hFn := FnAt.up F'.stays (FnAt.up u' hf)
    refine sCons (sAssign (eCallV F' hfn hFn (aCons (eName F' hva (aCons (eName F' rfl (aNil ⟨hFn, hstep L _ _ _ _ _ _ _ _ _ (hok j y hy) u' hRA (mb _ _ _ _ u' hRB) F'.wd F'.stays (S.push F' rfl) hFn fun x h₅ tk₅ I₅ D hx => ?_⟩)))))))
    have F₅ := F'.after D
    refine xSt F₅ C fun h₆ tk₆ F₆ => sAgain ⟨h₆, tk₆, I₅, _, _, rfl, F₆, ne', D.ext.1, rfl, hfn, x, rfl, ?_, by first | assumption | exact Nat.le_trans (by assumption) (by decide) | omega⟩
    show RB I₅ x ((ys.take (j + 1)).foldl step y₀)
    rw [ht, List.foldl_append]
    exact hx
  · rintro h' tk' I' m' ms' F' u' ⟨rfl, hfn, va, hva, hRA, _⟩
    rw [hp.length, List.length_cons, Nat.add_sub_cancel, List.take_length] at hRA
    exact sCons (sRet (eName F' hva ⟨_, rfl, K _ _ _ _ F'.done hRA⟩))
end
end Mine

namespace Mine

/-- the module of the builtins, as the globals name it -/
def Bm (I : Heap) : Prop := ∃ mg bm ob, I.Ns mainGlobals mg ∧ mg "__builtins__" = some (.ref bm) ∧ bm ≠ builtinsNs ∧ I.get? bm = some ob ∧ ob.cls = .type "module" ∧ ob.dict = some builtinsNs ∧ ob.data = .plain
theorem Bm.up {I I' : Heap} (k : I.StaysIn I') (B : Bm I) : Bm I' := by
  obtain ⟨mg, bm, ob, h1, h2, h3, h4, h5⟩ := B
  exact ⟨mg, bm, ob, h1.keeps k, h2, h3, k _ _ h4, h5⟩

section
variable {prog : Program} {w : World} {A : Around} {E : Value → Shared → Prop} {s b : Shared} {env : Env} {h₀ I₀ I h : Heap} {m : Str → Option Value} {ms : List (Addr × Obj)} {tk : Nat} {fs : List Addr} {Q : Value → Shared → Prop}

theorem Fm.none_locals (F : Fm w fs h₀ I₀ I env h m ms) {a : Addr} (e : h.get? a = none) : a ≠ env.locals := fun q => by
  obtain ⟨o, _, _, e', _⟩ := F.localsAt
  rw [← q, e] at e'; cases e'
theorem Fm.none_cells (F : Fm w fs h₀ I₀ I env h m ms) {a : Addr} (e : h.get? a = none) : ∀ n c, env.cells.lookup n = some c → a ≠ c := fun n c hc q => by
  obtain ⟨o, e', _⟩ := F.cells n c hc
  rw [← q, e] at e'; cases e'

/-- a lambda, that closes over nothing -/
theorem eLam {params : Arguments} {body : Expr} {scope : Scope} {pos : Pos} {c P : Addr} {ps : Array Value} (F : Fm w fs h₀ I₀ I env h m ((P, tabObj ps) :: ms)) (hne : ∀ p ∈ ms, p.1 ≠ P) (B : Bm I) (C : CodeHd I c P) (ht : TriplesOk ps.toList)
    (k : ∀ f c' pm ctv ps' h' tk' I', Fm w fs h₀ I₀ I' env h' m ((P, tabObj ps') :: ms) → I.StaysIn I' → I'.get? f = some (kla_obj "<lambda>" (env.qual ++ "<lambda>") params body scope [] pm c' ctv) → I'.CodeRec (.ref c') (env.qual ++ "<lambda>") → Q (.ref f) (St b h' tk'))
    (hcode : env.code = .ref c := by kernel_rfl!) (hnf : codeAmong pos ps.toList = none := by rfl) (hdef : defaultsOf params env = ([], []) := by kernel_rfl!) (hfr : freeOk env scope.names = true := by kernel_rfl!) (hcl : clFrom env scope.names [] = [] := by kernel_rfl!) :
    WP (model prog w) A (eval (.Lambda params body scope pos) env) Q E (St b h tk) := by
  obtain ⟨mg, bm, ob, b0, b1, b2, b3, b4, b5, b6⟩ := B
  have mP := F.made _ (.head _)
  have hgP : mainGlobals ≠ P := fun q => by
    obtain ⟨o, es, ep, e, hd, _⟩ := b0
    rw [q, mP.2.1] at e; cases e
  have hbP : bm ≠ P := fun q => by rw [q, mP.2.1] at b3; cases b3
  have hbG : bm ≠ mainGlobals := fun q => by
    obtain ⟨o, es, ep, e, hd, _⟩ := b0
    rw [q, e] at b3; cases b3; rw [hd] at b6; cases b6
  have hcl' : closureFor scope env = pure [] := by rw [closureFor_eq hfr, hcl]
  refine ⟨kla_eval hdef (kla_makeFunction (s := St b h tk) (mg := mg) hcl' F.glob (b0.keeps F.stays) hcode (C.keeps F.stays) mP.1 ht hnf hgP ⟨bm, ob, b1, b2, hbG, hbP, F.stays _ _ b3, b4, b5, b6⟩ fun c' ctv h' tk' hx hge hlt hrec htb => ?_)⟩
  have hge : h.objs.size ≤ c' := hge
  have hx : Heap.ExtBut P h h' := hx
  obtain ⟨c₂, oc, vs, t, e2, hoc, hd, hv⟩ := hrec
  cases e2
  generalize hO : kla_obj "<lambda>" (env.qual ++ "<lambda>") params body scope [] ((mg "__name__").getD .none) c' ctv = O
  have hOf : O.isFreed = false := by rw [← hO]; rfl
  have F₁ : Fm w fs h₀ I₀ I env (h'.push O) m ((P, tabObj (ps ++ #[rawInt pos.line, rawInt pos.col, .ref c'])) :: ms) := F.turnE hne (fun b o hb e => Heap.get?_push_of_some _ (hx b o hb e)) (Heap.get?_push_of_some _ htb)
  have nc : h.get? c' = none := Heap.get?_none_of_le hge
  have hlt' : h.objs.size ≤ h'.objs.size := Nat.le_of_lt (Nat.lt_of_le_of_lt hge hlt)
  have nf : h.get? h'.objs.size = none := Heap.get?_none_of_le hlt'
  have gc : (h'.push O).get? c' = some oc := Heap.get?_push_of_some _ hoc
  have gf : (h'.push O).get? h'.objs.size = some O := Heap.get?_push_size _ hOf
  have hfc : h'.objs.size ≠ c' := Nat.ne_of_gt hlt
  have ap : ∀ {a : Addr}, h.get? a = none → ∀ p ∈ ((P, tabObj (ps ++ #[rawInt pos.line, rawInt pos.col, .ref c'])) :: ms), p.1 ≠ a := fun e p hp q => by
    have hP := mP.1
    rcases List.mem_cons.mp hp with rfl | hp
    · rw [q, e] at hP; cases hP
    · have := (F.made p (.tail _ hp)).1
      rw [q, e] at this; cases this
  have F₂ : Fm w fs h₀ I₀ I env (h'.push O) m ((c', oc) :: (h'.objs.size, O) :: (P, tabObj (ps ++ #[rawInt pos.line, rawInt pos.col, .ref c'])) :: ms) :=
    { F₁ with
      made := fun p hp => by
        rcases List.mem_cons.mp hp with rfl | hp
        · exact ⟨gc, none_inI F nc, none_in₀ F nc, F.none_locals nc, F.none_cells nc⟩
        rcases List.mem_cons.mp hp with rfl | hp
        · exact ⟨gf, none_inI F nf, none_in₀ F nf, F.none_locals nf, F.none_cells nf⟩
        exact F₁.made p hp }
  have F₃ := F₂.freeze (a := c') (o := oc) (ms' := (h'.objs.size, O) :: (P, tabObj (ps ++ #[rawInt pos.line, rawInt pos.col, .ref c'])) :: ms) (.head _) (fun p hp => ⟨.tail _ hp, by
    rcases List.mem_cons.mp hp with rfl | hp
    · exact hfc
    · exact ap nc p hp⟩)
  have F₄ := F₃.freeze (a := h'.objs.size) (o := O) (ms' := (P, tabObj (ps ++ #[rawInt pos.line, rawInt pos.col, .ref c'])) :: ms) (.head _) (fun p hp => ⟨.tail _ hp, ap nf p hp⟩)
  have u₃ := add_up (a := c') F₂.stays
  have u₄ := add_up (a := h'.objs.size) F₃.stays
  refine k _ c' _ ctv _ _ tk' _ F₄ (stays_trans u₃ u₄) (by rw [hO]; exact add_new.trans gf) ⟨c', oc, vs, t, rfl, u₄ _ _ (add_new.trans gc), hd, hv⟩

/-- the entry of a lambda -/
theorem wEnterE {vals : List Value} {f c' : Addr} {qual : Str} {params : Arguments} {body : Expr} {scope : Scope} {pm ctv : Value} (binds : List (Str × Value)) (fs : List Addr) (W : Wd w I) (st : I.StaysIn h) (hroom : A.depth < recursionLimit) (hfs : ∀ f ∈ fs, ∃ o, h.get? f = some o)
    (ho : I.get? f = some (kla_obj "<lambda>" qual params body scope [] pm c' ctv)) (hcr : I.CodeRec (.ref c') qual)
    (k : ∀ L h₁ tk', Fm w fs h I I (envX qual scope L f (.ref c') []) h₁ (fun x => binds.reverse.lookup x) [] → WP (model prog w) (A.deeper (envX qual scope L f (.ref c') [])) (eval body (envX qual scope L f (.ref c') [])) Q (fun _ _ => False) (St b h₁ tk'))
    (hbind : bindArgs (kla_fn "<lambda>" qual params body scope [] pm (.ref c') ctv) ⟨vals, []⟩ = pure binds := by kernel_rfl!)
    (hcell : (scope.names.all fun x => x.2 != .cell) = true := by kernel_rfl!) (hloc : (binds.all fun x => scope.names.lookup x.1 == some .local) = true := by kernel_rfl!)
    (hco : scope.isCoroutine = false := by kernel_rfl!) (hgen : scope.isGenerator = false := by kernel_rfl!) (hk : scope.kind = .function := by kernel_rfl!) :
    WP (model prog w) A (call (.ref f) vals) Q E (St b h tk) := by
  refine wCall (kla_callFunE (s := St b h tk) hroom (st _ _ ho) rfl hco hgen rfl ?_ ?_)
  · obtain ⟨c₂, oc, vs, t, e2, hoc, hd, hv⟩ := hcr
    exact ⟨c₂, oc, vs, t, e2, st _ _ hoc, hd, hv⟩
  rw [hbind]
  refine wpAny_pure (wpAny_newFunctionEnv (s := St b h tk) (fun x hx => by simpa using List.all_eq_true.mp hcell x hx) (fun x hx => by simpa using List.all_eq_true.mp hloc x hx) (fun h₁ hns hsb => ⟨(W.nolimit.keeps st).fresh _ hsb, ?_⟩) hk)
  show codeAny _ _ (.expr body (envX qual scope h.objs.size f (.ref c') [])) _ (St b h₁ (tk + binds.length))
  have hk₁ : ∀ b o, h.get? b = some o → h₁.get? b = some o := fun b o e => hsb.extBut b o (Nat.ne_of_lt (Heap.lt_size e)) (Heap.get?_push_of_some _ e)
  have fr : h.get? h.objs.size = none := get_size _
  have frI : I.get? h.objs.size = none := by
    cases q : I.get? h.objs.size with
    | none => rfl
    | some o => have := st _ _ q; rw [fr] at this; cases this
  refine kla_codeExpr (wpAny_mono (k h.objs.size h₁ (tk + binds.length) ?_).run (fun v s' q => q) fun _ _ e => e.elim)
  exact
    { kind := hk, glob := rfl, blt := rfl, wd := W, stays := stays_trans st hk₁, keep := Kp.of hk₁, ext := Ext.refl _ _, fsIn := hfs
      ns := ⟨_, hns, fun n v _ hv => hv⟩
      cells := fun n c hc => nomatch hc
      hidL := frI, hidC := fun n c hc => nomatch hc
      newL := fr, made := fun _ hp => nomatch hp }
end
end Mine

namespace Mine

/-! ## plain maths: uld counts -/
theorem sub_swap (x y : Nat) : x - y + y = y - x + x := by
  rcases Nat.le_total x y with h | h
  · rw [Nat.sub_eq_zero_of_le h, Nat.sub_add_cancel h, Nat.zero_add]
  · rw [Nat.sub_eq_zero_of_le h, Nat.sub_add_cancel h, Nat.zero_add]
theorem sub_eq_of {e f a c : Nat} (h : e + c = f + a) : e - f = a - c := by
  rw [← Nat.add_sub_add_right e c f, h, Nat.add_sub_add_left]
theorem hit_ar {r a i : Nat} (h : i ≤ a) : r - (a - i) = r + i - a ∧ a - i - r = a - (r + i) :=
  ⟨Nat.sub_sub_right r h, by rw [Nat.sub_sub, Nat.add_comm i r]⟩
theorem miss_ar {m r a i : Nat} (h : i = 0 ∨ a = 0) : m + i + (r - a) = m + (r + i - a) ∧ a - r = a - (r + i) := by
  rcases h with rfl | rfl
  · exact ⟨rfl, rfl⟩
  · exact ⟨by rw [Nat.sub_zero, Nat.sub_zero, Nat.add_assoc, Nat.add_comm i r], by rw [Nat.zero_sub, Nat.zero_sub]⟩
theorem uldGo_count (k : Nat) : ∀ (e a ms : List Nat), (uldGo e a ms).1.count k = ms.count k + (e.count k - a.count k) ∧ (uldGo e a ms).2.count k = a.count k - e.count k := by
  intro e
  induction e with
  | nil => intro a ms; exact ⟨by rw [uldGo, List.count_nil, Nat.zero_sub]; rfl, rfl⟩
  | cons x r ih =>
    intro a ms
    unfold uldGo
    by_cases hx : x ∈ a
    · rw [if_pos hx]
      obtain ⟨h1, h2⟩ := ih (a.erase x) ms
      have hle : (if x == k then 1 else 0) ≤ a.count k := by
        split
        · rename_i hk; exact List.count_pos_iff.mpr (eq_of_beq hk ▸ hx)
        · exact Nat.zero_le _
      rw [h1, h2, List.count_cons, List.count_erase, (hit_ar hle).1, (hit_ar hle).2]
      exact ⟨rfl, rfl⟩
    · rw [if_neg hx]
      obtain ⟨h1, h2⟩ := ih a (ms ++ [x])
      have hz : (if x == k then 1 else 0) = 0 ∨ a.count k = 0 := by
        split
        · rename_i hk; exact .inr (List.count_eq_zero.mpr (eq_of_beq hk ▸ hx))
        · exact .inl rfl
      have hs : [x].count k = if x == k then 1 else 0 := by rw [List.count_cons, List.count_nil, Nat.zero_add]
      obtain ⟨e1, e2⟩ := miss_ar (m := ms.count k) (r := r.count k) hz
      rw [h1, h2, List.count_cons, List.count_append, hs, e1, e2]
      exact ⟨rfl, rfl⟩
theorem uld_count1 (e a : List Nat) (k : Nat) : (uld e a).1.count k = e.count k - a.count k := by
  rw [uld, (uldGo_count k _ _ _).1]; simp [List.count_reverse]
theorem uld_count2 (e a : List Nat) (k : Nat) : (uld e a).2.count k = a.count k - e.count k := by
  rw [uld, (uldGo_count k _ _ _).2]; simp [List.count_reverse]

def Lt5 (l : List Nat) : Prop := ∀ x ∈ l, x < 5
theorem cnt_sum (n : Nat) (x : Nat) (l : List Nat) (h : x < n) : ((List.range n).map ((x :: l).count ·)).sum = ((List.range n).map (l.count ·)).sum + 1 := by
  induction n with
  | zero => exact absurd h (Nat.not_lt_zero x)
  | succ n ih =>
    rw [List.range_succ, List.map_append, List.map_append, List.sum_append, List.sum_append]
    by_cases q : x = n
    · subst q
      have e : (List.range x).map ((x :: l).count ·) = (List.range x).map (l.count ·) := List.map_congr_left fun y hy => by
        rw [List.count_cons, if_neg (by simpa using (Nat.ne_of_gt (List.mem_range.mp hy))), Nat.add_zero]
      rw [e]
      simp [Nat.add_assoc]
    · rw [ih (Nat.lt_of_le_of_ne (Nat.le_of_lt_succ h) q)]
      have e : (x :: l).count n = l.count n := by rw [List.count_cons, if_neg (by simpa using q), Nat.add_zero]
      simp only [List.map_cons, List.map_nil, e]
      exact Nat.add_right_comm _ _ _
theorem len_sum : ∀ {l : List Nat}, Lt5 l → l.length = ((List.range 5).map (l.count ·)).sum := by
  intro l
  induction l with
  | nil => intro _; rfl
  | cons x r ih =>
    intro h
    rw [cnt_sum 5 x r (h x (.head _)), ← ih fun y hy => h y (.tail _ hy)]
    rfl
theorem sum_mono (n : Nat) (f g : Nat → Nat) (h : ∀ k, f k ≤ g k) : ((List.range n).map f).sum ≤ ((List.range n).map g).sum := by
  induction n with
  | zero => exact Nat.le_refl _
  | succ n ih =>
    rw [List.range_succ, List.map_append, List.map_append, List.sum_append, List.sum_append]
    exact Nat.add_le_add ih (Nat.add_le_add_right (h n) 0)
theorem lt5_of_count {l l' : List Nat} (h : Lt5 l') (c : ∀ k, l.count k ≤ l'.count k) : Lt5 l := fun x hx =>
  h x (List.count_pos_iff.mp (Nat.lt_of_lt_of_le (List.count_pos_iff.mpr hx) (c x)))
theorem lt5_append {l l' : List Nat} (h : Lt5 l) (h' : Lt5 l') : Lt5 (l ++ l') := fun x hx => (List.mem_append.mp hx).elim (h x) (h' x)

/-- the patch p leads from a to b -/
structure Pat (p : List Nat × List Nat) (a b : List Nat) : Prop where
  gone : ∀ k, p.1.count k = a.count k - b.count k
  come : ∀ k, p.2.count k = b.count k - a.count k
theorem pat_uld (a b : List Nat) : Pat (uld a b) a b := ⟨uld_count1 a b, uld_count2 a b⟩
theorem Pat.swap {p : List Nat × List Nat} {a b : List Nat} (x : Pat p a b) : Pat (p.2, p.1) b a := ⟨x.come, x.gone⟩
theorem Pat.lt1 {p : List Nat × List Nat} {a b : List Nat} (x : Pat p a b) (ha : Lt5 a) : Lt5 p.1 := lt5_of_count ha fun k => by rw [x.gone]; exact Nat.sub_le _ _
theorem Pat.lt2 {p : List Nat × List Nat} {a b : List Nat} (x : Pat p a b) (hb : Lt5 b) : Lt5 p.2 := lt5_of_count hb fun k => by rw [x.come]; exact Nat.sub_le _ _
theorem len_le {l a : List Nat} (hl : Lt5 l) (ha : Lt5 a) (h : ∀ k, l.count k ≤ a.count k) : l.length ≤ a.length := by
  rw [len_sum hl, len_sum ha]
  exact sum_mono 5 _ _ h
theorem Pat.len1 {p : List Nat × List Nat} {a b : List Nat} (x : Pat p a b) (ha : Lt5 a) : p.1.length ≤ a.length :=
  len_le (x.lt1 ha) ha fun k => by rw [x.gone]; exact Nat.sub_le _ _
theorem Pat.len2 {p : List Nat × List Nat} {a b : List Nat} (x : Pat p a b) (hb : Lt5 b) : p.2.length ≤ b.length := x.swap.len1 hb
theorem Pat.congr {p : List Nat × List Nat} {a b a' b' : List Nat} (x : Pat p a b) (ha : ∀ k, a.count k = a'.count k) (hb : ∀ k, b.count k = b'.count k) : Pat p a' b' :=
  ⟨fun k => by rw [x.gone, ha, hb], fun k => by rw [x.come, ha, hb]⟩

theorem join_ar {a b c p1 p2 q1 q2 X Y : Nat} (h1 : p1 + b = p2 + a) (h2 : q1 + c = q2 + b) (h3 : X + p2 = Y + q1) : p1 + X + c = Y + q2 + a := by omega
theorem pat_join {p q : List Nat × List Nat} {a b c : List Nat} (x : Pat p a b) (y : Pat q b c) : Pat (joinP p q) a c := by
  have key : ∀ k, (p.1 ++ (uld p.2 q.1).2).count k + c.count k = ((uld p.2 q.1).1 ++ q.2).count k + a.count k := fun k => by
    rw [List.count_append, List.count_append, uld_count1, uld_count2]
    exact join_ar (by rw [x.gone, x.come]; exact sub_swap _ _) (by rw [y.gone, y.come]; exact sub_swap _ _) (sub_swap _ _)
  exact ⟨fun k => by rw [joinP, uld_count1]; exact sub_eq_of (key k), fun k => by rw [joinP, uld_count2]; exact sub_eq_of (key k).symm⟩
theorem nil_of_count {l : List Nat} (h : ∀ k, l.count k = 0) : l = [] := List.eq_nil_iff_forall_not_mem.mpr fun k hk => List.count_eq_zero.mp (h k) hk
theorem pat_nil {p : List Nat × List Nat} {a : List Nat} (x : Pat p a a) : p = ([], []) :=
  Prod.ext (nil_of_count fun k => by rw [x.gone, Nat.sub_self]) (nil_of_count fun k => by rw [x.come, Nat.sub_self])

/-- two bags alike -/
def Alike (a b : List Nat) : Prop := ∀ k, a.count k = b.count k
theorem Alike.len {a b : List Nat} (x : Alike a b) (hb : Lt5 b) : a.length = b.length := by
  have ha : Lt5 a := lt5_of_count hb fun k => Nat.le_of_eq (x k)
  exact Nat.le_antisymm (len_le ha hb fun k => Nat.le_of_eq (x k)) (len_le hb ha fun k => Nat.le_of_eq (x k).symm)
theorem Alike.cntL {a b : List Nat} (x : Alike a b) (hb : Lt5 b) : cntL a = cntL b := by
  rw [Mine.cntL, Mine.cntL, x.len hb]
  congr 1
  exact List.map_congr_left fun k _ => x k

theorem cntL_getD (a : List Nat) (k : Nat) (hk : k < 5) : (cntL a).getD k 0 = a.count k := by
  rw [cntL, List.getD_eq_getElem?_getD, List.getElem?_append_left (by simpa using hk), List.getElem?_map, List.getElem?_range hk]
  rfl
theorem bey_cntL {p a b : List Nat} (hp : ∀ k, p.count k = a.count k - b.count k) (ha : Lt5 a) : cntL p = bey (cntL a) (cntL b) := by
  have hl : Lt5 p := lt5_of_count ha fun k => by rw [hp]; exact Nat.sub_le _ _
  have e : (List.range 5).map (fun k => p.count k) = (List.range 5).map (fun k => (cntL a).getD k 0 - (cntL b).getD k 0) := List.map_congr_left fun k hk => by
    have hk5 : k < 5 := by simpa using hk
    rw [cntL_getD _ _ hk5, cntL_getD _ _ hk5, hp]
  rw [bey, ← e, cntL, len_sum hl]
theorem pat_fits {p : List Nat × List Nat} {a b : List Nat} (x : Pat p a b) (ha : Lt5 a) (hb : Lt5 b) : fitsB p (cntL a) (cntL b) = true := by
  rw [fitsB, bey_cntL x.gone ha, bey_cntL x.come hb]; simp

/-! ## a bag regained -/
theorem regain_ar (a b : Nat) : a - (a - b) + (b - a) = b := by
  rcases Nat.le_total a b with h | h
  · rw [Nat.sub_eq_zero_of_le h, Nat.sub_zero, Nat.add_sub_of_le h]
  · rw [Nat.sub_sub_self h, Nat.sub_eq_zero_of_le h, Nat.add_zero]
theorem regain {d : List Nat} {p : List Nat × List Nat} {a b : List Nat} (x : Pat p a b) (hd : Alike d a) : (uld d p.1).2 = [] ∧ Alike ((uld d p.1).1 ++ p.2) b :=
  ⟨nil_of_count fun k => by rw [uld_count2, x.gone, hd k, Nat.sub_eq_zero_of_le (Nat.sub_le _ _)], fun k => by rw [List.count_append, uld_count1, x.gone, x.come, hd k, regain_ar]⟩

/-- the patches lead along the bags -/
inductive Along : List (List Nat) → List (List Nat × List Nat) → Prop
  | one (a) : Along [a] []
  | more {a b bs p ps} : Pat p a b → Along (b :: bs) ps → Along (a :: b :: bs) (p :: ps)

def doneS (seen : List (List Nat)) (p : List Nat × List Nat) : List (List Nat) := seen ++ [(uld (seen.getLast?.getD []) p.1).1 ++ p.2]

/-- two lists of bags alike -/
inductive Alikes : List (List Nat) → List (List Nat) → Prop
  | nil : Alikes [] []
  | cons {a b as bs} : Alike a b → Alikes as bs → Alikes (a :: as) (b :: bs)
theorem Alikes.append {as bs cs ds : List (List Nat)} (x : Alikes as bs) (y : Alikes cs ds) : Alikes (as ++ cs) (bs ++ ds) := by
  induction x with
  | nil => exact y
  | cons h _ ih => exact .cons h ih
theorem Alikes.length {as bs : List (List Nat)} (x : Alikes as bs) : as.length = bs.length := by
  induction x with
  | nil => rfl
  | cons _ _ ih => simp [ih]
theorem Alikes.reverse {as bs : List (List Nat)} (x : Alikes as bs) : Alikes as.reverse bs.reverse := by
  induction x with
  | nil => exact .nil
  | cons h _ ih => rw [List.reverse_cons, List.reverse_cons]; exact ih.append (.cons h .nil)
theorem Alikes.get {as bs : List (List Nat)} (x : Alikes as bs) {i : Nat} {b : List Nat} (h : bs[i]? = some b) : ∃ a, as[i]? = some a ∧ Alike a b := by
  induction x generalizing i with
  | nil => simp at h
  | cons g _ ih =>
    cases i with
    | zero => simp at h; subst h; exact ⟨_, rfl, g⟩
    | succ i => simp at h; obtain ⟨a, h1, h2⟩ := ih h; exact ⟨a, by simpa using h1, h2⟩
theorem Alikes.counts {as bs : List (List Nat)} (x : Alikes as bs) (hb : ∀ b ∈ bs, Lt5 b) : as.map cntL = bs.map cntL := by
  induction x with
  | nil => rfl
  | cons h _ ih => rw [List.map_cons, List.map_cons, h.cntL (hb _ (.head _)), ih fun b q => hb b (.tail _ q)]

/-- from the last one seen on -/
theorem along_done {bs : List (List Nat)} {ps : List (List Nat × List Nat)} (x : Along bs ps) : ∀ {seen gone : List (List Nat)} {d : List Nat}, Alikes seen gone → Alike d (bs.headD []) →
    Alikes (ps.foldl doneS (seen ++ [d])) (gone ++ bs) ∧ ∀ i y, ps[i]? = some y → ∃ d', ((ps.take i).foldl doneS (seen ++ [d])).getLast? = some d' ∧ ((ps.take i).foldl doneS (seen ++ [d])).length = seen.length + 1 + i ∧ ∃ a b, Alike d' a ∧ Pat y a b ∧ a ∈ bs ∧ b ∈ bs := by
  induction x with
  | one a =>
    intro seen gone d hs hd
    exact ⟨hs.append (.cons hd .nil), fun i y h => by simp at h⟩
  | @more a b bs p ps hp _ ih =>
    intro seen gone d hs hd
    have hd' : Alike d a := hd
    obtain ⟨_, r2⟩ := regain hp hd'
    have e : doneS (seen ++ [d]) p = (seen ++ [d]) ++ [(uld d p.1).1 ++ p.2] := by simp [doneS]
    have := ih (seen := seen ++ [d]) (gone := gone ++ [a]) (d := (uld d p.1).1 ++ p.2) (hs.append (.cons hd' .nil)) r2
    obtain ⟨h1, h2⟩ := this
    refine ⟨?_, fun i y hy => ?_⟩
    · rw [List.foldl_cons, e]; simpa using h1
    · cases i with
      | zero =>
        simp at hy; subst hy
        exact ⟨d, by simp, by simp, a, b, hd', hp, .head _, .tail _ (.head _)⟩
      | succ i =>
        simp only [List.getElem?_cons_succ] at hy
        obtain ⟨d', g1, g2, a', b', g3, g4, g5, g6⟩ := h2 i y hy
        refine ⟨d', ?_, ?_, a', b', g3, g4, .tail _ g5, .tail _ g6⟩
        · rw [List.take_succ_cons, List.foldl_cons, e]; exact g1
        · rw [List.take_succ_cons, List.foldl_cons, e, g2]; simp; omega

theorem Along.snoc {bs : List (List Nat)} {ps : List (List Nat × List Nat)} (x : Along bs ps) : ∀ {b : List Nat} {p : List Nat × List Nat}, Pat p (bs.getLast?.getD []) b → Along (bs ++ [b]) (ps ++ [p]) := by
  induction x with
  | one a => intro b p hp; exact .more (by simpa using hp) (.one b)
  | more hp hr ih => intro b p h; exact .more hp (ih (by simpa using h))
theorem Along.turn {bs : List (List Nat)} {ps : List (List Nat × List Nat)} (x : Along bs ps) : Along bs.reverse (ps.reverse.map fun p => (p.2, p.1)) := by
  induction x with
  | one a => exact .one a
  | @more a b bs p ps hp hr ih =>
    have e1 : (a :: b :: bs).reverse = (b :: bs).reverse ++ [a] := List.reverse_cons
    have e2 : ((p :: ps).reverse.map fun p => (p.2, p.1)) = (ps.reverse.map fun p => (p.2, p.1)) ++ [(p.2, p.1)] := by rw [List.reverse_cons, List.map_append]; rfl
    rw [e1, e2]
    exact ih.snoc (by simpa using hp.swap)
theorem Along.append {bs cs : List (List Nat)} {ps qs : List (List Nat × List Nat)} (x : Along bs ps) : ∀ {c : List Nat}, Along (c :: cs) qs → bs.getLast? = some c → Along (bs ++ cs) (ps ++ qs) := by
  induction x with
  | one a => intro c y h; simp at h; subst h; exact y
  | more hp hr ih => intro c y h; exact .more hp (ih y (by simpa using h))
theorem along_make : ∀ (bs : List (List Nat)) (a : List Nat), Along (a :: bs) (((a :: bs).zip bs).map fun x => uld x.1 x.2)
  | [], a => .one a
  | b :: bs, a => .more (pat_uld a b) (along_make bs b)

/-! ## all patches joined -/
theorem along_join {bs : List (List Nat)} {ps : List (List Nat × List Nat)} (x : Along bs ps) : ∀ {z : List Nat} {q : List Nat × List Nat}, Pat q z (bs.headD []) → Pat (ps.foldl joinP q) z (bs.getLast?.getD []) ∧
    ∀ i y, ps[i]? = some y → ∃ a b, Pat ((ps.take i).foldl joinP q) z a ∧ Pat y a b ∧ a ∈ bs ∧ b ∈ bs := by
  induction x with
  | one a => intro z q hq; exact ⟨by simpa using hq, fun i y h => by simp at h⟩
  | @more a b bs p ps hp _ ih =>
    intro z q hq
    have hq' : Pat q z a := hq
    obtain ⟨h1, h2⟩ := ih (pat_join hq' hp)
    refine ⟨by simpa using h1, fun i y hy => ?_⟩
    cases i with
    | zero => simp at hy; subst hy; exact ⟨a, b, hq', hp, .head _, .tail _ (.head _)⟩
    | succ i =>
      simp only [List.getElem?_cons_succ] at hy
      obtain ⟨a', b', g1, g2, g3, g4⟩ := h2 i y hy
      exact ⟨a', b', by simpa using g1, g2, .tail _ g3, .tail _ g4⟩
/-- the patches turned: bs from the last on; each patch leads to what stands before it -/
inductive Back : List (List Nat) → List (List Nat × List Nat) → Prop
  | one (a) : Back [a] []
  | more {a b bs p ps} : Pat p b a → Back (b :: bs) ps → Back (a :: b :: bs) (p :: ps)
theorem Along.back {bs : List (List Nat)} {ps : List (List Nat × List Nat)} (x : Along bs ps) : Back bs.reverse ps.reverse := by
  have h : ∀ {bs : List (List Nat)} {ps : List (List Nat × List Nat)}, Along bs (ps.map fun p => (p.2, p.1)) → Back bs ps := by
    intro bs ps x
    generalize hq : ps.map (fun p => (p.2, p.1)) = qs at x
    induction x generalizing ps with
    | one a => simp at hq; subst hq; exact .one a
    | more hp _ ih =>
      cases ps with
      | nil => simp at hq
      | cons q ps =>
        simp at hq
        obtain ⟨h1, h2⟩ := hq
        subst h1
        exact .more hp.swap (ih h2)
  exact h x.turn
theorem back_join {bs : List (List Nat)} {ps : List (List Nat × List Nat)} (x : Back bs ps) : ∀ {z : List Nat} {q : List Nat × List Nat}, Pat q (bs.headD []) z → Pat (ps.foldl (fun l p => joinP p l) q) (bs.getLast?.getD []) z ∧
    ∀ i y, ps[i]? = some y → ∃ a b, Pat ((ps.take i).foldl (fun l p => joinP p l) q) a z ∧ Pat y b a ∧ a ∈ bs ∧ b ∈ bs := by
  induction x with
  | one a => intro z q hq; exact ⟨by simpa using hq, fun i y h => by simp at h⟩
  | @more a b bs p ps hp _ ih =>
    intro z q hq
    have hq' : Pat q a z := hq
    obtain ⟨h1, h2⟩ := ih (pat_join hp hq')
    refine ⟨by simpa using h1, fun i y hy => ?_⟩
    cases i with
    | zero => simp at hy; subst hy; exact ⟨a, b, hq', hp, .head _, .tail _ (.head _)⟩
    | succ i =>
      simp only [List.getElem?_cons_succ] at hy
      obtain ⟨a', b', g1, g2, g3, g4⟩ := h2 i y hy
      exact ⟨a', b', by simpa using g1, g2, .tail _ g3, .tail _ g4⟩

/-! ## the differences by counting -/
def mask (seen : List Nat) (k : Nat) : Option Nat := if k ∈ seen then none else some k
theorem rows_mem (one two : List Nat) : ∀ (seen : List Nat), (∀ r ∈ seen.foldl (rowsStep one two) [], r.2.2 ∈ seen) ∧ ∀ k ∈ seen, one.count k ≠ two.count k → (one.count k, two.count k, k) ∈ seen.foldl (rowsStep one two) [] := by
  intro seen
  have key : ∀ n, n ≤ seen.length → (∀ r ∈ (seen.take n).foldl (rowsStep one two) [], r.2.2 ∈ seen.take n) ∧ ∀ k ∈ seen.take n, one.count k ≠ two.count k → (one.count k, two.count k, k) ∈ (seen.take n).foldl (rowsStep one two) [] := by
    intro n
    induction n with
    | zero => intro _; simp
    | succ n ih =>
      intro hn
      obtain ⟨h1, h2⟩ := ih (by first | assumption | exact Nat.le_trans (by assumption) (by decide) | omega)
      obtain ⟨y, hy⟩ : ∃ y, seen[n]? = some y := ⟨seen[n], by simp⟩
      have ht : seen.take (n + 1) = seen.take n ++ [y] := by rw [List.take_add_one, hy]; rfl
      rw [ht, List.foldl_append]
      simp only [List.foldl_cons, List.foldl_nil]
      generalize (seen.take n).foldl (rowsStep one two) [] = acc at h1 h2 ⊢
      unfold rowsStep
      split
      · rename_i hc
        refine ⟨fun r hr => ?_, fun k hk hkc => ?_⟩
        · rcases List.mem_append.mp hr with q | q
          · exact List.mem_append_left _ (h1 r q)
          · simp at q; subst q; simp
        · rcases List.mem_append.mp hk with q | q
          · exact List.mem_append_left _ (h2 k q hkc)
          · simp at q; subst q; simp
      · rename_i hc
        refine ⟨fun r hr => List.mem_append_left _ (h1 r hr), fun k hk hkc => ?_⟩
        rcases List.mem_append.mp hk with q | q
        · exact h2 k q hkc
        · simp at q; subst q
          exact Classical.byContradiction fun z => hc ⟨hkc, z⟩
  have := key seen.length (Nat.le_refl _)
  rwa [List.take_length] at this
theorem rows_snoc (one two seen : List Nat) (k : Nat) : (seen ++ [k]).foldl (rowsStep one two) [] = if k ∈ seen then seen.foldl (rowsStep one two) [] else if one.count k ≠ two.count k then seen.foldl (rowsStep one two) [] ++ [(one.count k, two.count k, k)] else seen.foldl (rowsStep one two) [] := by
  obtain ⟨h1, h2⟩ := rows_mem one two seen
  rw [List.foldl_append]
  simp only [List.foldl_cons, List.foldl_nil]
  by_cases hk : k ∈ seen
  · rw [if_pos hk, rowsStep]
    by_cases hc : one.count k ≠ two.count k
    · rw [if_neg (fun q => q.2 (h2 k hk hc))]
    · rw [if_neg (fun q => hc q.1)]
  · rw [if_neg hk, rowsStep]
    have hn : (one.count k, two.count k, k) ∉ seen.foldl (rowsStep one two) [] := fun q => hk (h1 _ q)
    by_cases hc : one.count k ≠ two.count k
    · rw [if_pos ⟨hc, hn⟩, if_pos hc]
    · rw [if_neg (fun q => hc q.1), if_neg hc]

theorem count_mask (seen l : List Nat) (k : Nat) (hk : k ∉ seen) : (l.map (mask seen)).count (some k) = l.count k := by
  induction l with
  | nil => rfl
  | cons x r ih =>
    rw [List.map_cons, List.count_cons, List.count_cons, ih]
    congr 1
    unfold mask
    by_cases hx : x ∈ seen
    · rw [if_pos hx]
      have : x ≠ k := fun q => hk (q ▸ hx)
      simp [this]
    · rw [if_neg hx]; simp
theorem nul_mask (seen : List Nat) (k x : Nat) : nul k (mask seen x) = mask (seen ++ [k]) x := by
  unfold nul mask
  by_cases hx : x ∈ seen
  · simp [hx]
  · by_cases hk : x = k
    · simp [hk]
    · simp [hx, hk]
theorem mask_snoc_mem {seen : List Nat} {k : Nat} (h : k ∈ seen) : mask (seen ++ [k]) = mask seen := by
  funext x
  unfold mask
  have : x ∈ seen ++ [k] ↔ x ∈ seen := by
    rw [List.mem_append, List.mem_singleton]
    exact ⟨fun q => q.elim id fun q => q ▸ h, .inl⟩
  simp only [this]
theorem nulTo_all (i k : Nat) (seen l : List Nat) (hs : ∀ x ∈ l.take i, x ∈ seen) : nulTo i (l.length - i) k (l.map (mask seen)) = l.map (mask (seen ++ [k])) := by
  have e1 : ((l.map (mask seen)).drop i).take (l.length - i) = (l.map (mask seen)).drop i := List.take_of_length_le (by simp)
  have e2 : ((l.map (mask seen)).drop i).drop (l.length - i) = [] := List.drop_eq_nil_of_le (by simp)
  rw [nulTo, e1, e2, List.append_nil]
  have e3 : l.map (mask (seen ++ [k])) = (l.take i).map (mask (seen ++ [k])) ++ (l.drop i).map (mask (seen ++ [k])) := by
    rw [← List.map_append, List.take_append_drop]
  rw [e3, ← List.map_take, ← List.map_drop, List.map_map]
  congr 1
  · refine List.map_congr_left fun x hx => ?_
    have := hs x hx
    simp [mask, this]
  · exact List.map_congr_left fun x _ => nul_mask seen k x
theorem count_drop {l : List Nat} {k i : Nat} (h : k ∉ l.take i) : (l.drop i).count k = l.count k := by
  have e : l.count k = (l.take i).count k + (l.drop i).count k := by rw [← List.count_append, List.take_append_drop]
  rw [e, List.count_eq_zero.mpr h]; omega

theorem st1_eq (one two : List Nat) : ∀ i, i ≤ one.length → st1 one two i = (one.map (mask (one.take i)), two.map (mask (one.take i)), (one.take i).foldl (rowsStep one two) [])
  | 0, _ => by
    have : mask [] = some := by funext x; simp [mask]
    simp [st1, this]
  | i + 1, hi => by
    have ih := st1_eq one two i (by first | assumption | exact Nat.le_trans (by assumption) (by decide) | omega)
    obtain ⟨k, hk⟩ : ∃ k, one[i]? = some k := ⟨one[i], by simp⟩
    have ht : one.take (i + 1) = one.take i ++ [k] := by rw [List.take_add_one, hk]; rfl
    rw [st1_succ, ih, ht, rows_snoc]
    unfold step1
    have e1 : (one.map (mask (one.take i)))[i]? = some (mask (one.take i) k) := by rw [List.getElem?_map, hk]; rfl
    dsimp only
    rw [e1]
    by_cases hm : k ∈ one.take i
    · have e2 : mask (one.take i) k = none := by simp [mask, hm]
      rw [e2, if_pos hm]
      dsimp only
      rw [mask_snoc_mem hm]
    · have e2 : mask (one.take i) k = some k := by simp [mask, hm]
      rw [e2, if_neg hm]
      dsimp only
      have e3 : ((one.map (mask (one.take i))).drop i).count (some k) = one.count k := by
        rw [← List.map_drop, count_mask _ _ _ hm, count_drop hm]
      have e4 : (two.map (mask (one.take i))).count (some k) = two.count k := count_mask _ _ _ hm
      have e5 : nulTo i ((one.map (mask (one.take i))).length - i) k (one.map (mask (one.take i))) = one.map (mask (one.take i ++ [k])) := by
        rw [List.length_map]; exact nulTo_all i k _ one fun x hx => hx
      have e6 : nulTo 0 (two.map (mask (one.take i))).length k (two.map (mask (one.take i))) = two.map (mask (one.take i ++ [k])) := by
        rw [List.length_map]; exact nulTo_all 0 k _ two fun x hx => by simp at hx
      rw [e3, e4, e5, e6]
theorem st2_eq (one two : List Nat) : ∀ i, i ≤ two.length → st2 (two.map (mask one)) (one.foldl (rowsStep one two) []) i = (two.map (mask (one ++ two.take i)), (one ++ two.take i).foldl (rowsStep one two) [])
  | 0, _ => by simp [st2]
  | i + 1, hi => by
    have ih := st2_eq one two i (by first | assumption | exact Nat.le_trans (by assumption) (by decide) | omega)
    obtain ⟨k, hk⟩ : ∃ k, two[i]? = some k := ⟨two[i], by simp⟩
    have ht : one ++ two.take (i + 1) = (one ++ two.take i) ++ [k] := by rw [List.take_add_one, hk]; simp
    rw [st2_succ, ih, ht, rows_snoc]
    unfold step2
    have e1 : (two.map (mask (one ++ two.take i)))[i]? = some (mask (one ++ two.take i) k) := by rw [List.getElem?_map, hk]; rfl
    dsimp only
    rw [e1]
    by_cases hm : k ∈ one ++ two.take i
    · have e2 : mask (one ++ two.take i) k = none := by simp only [mask, if_pos hm]
      rw [e2, if_pos hm]
      dsimp only
      rw [mask_snoc_mem hm]
    · have e2 : mask (one ++ two.take i) k = some k := by simp only [mask, if_neg hm]
      rw [e2, if_neg hm]
      dsimp only
      have hm1 : k ∉ one := fun q => hm (List.mem_append_left _ q)
      have hm2 : k ∉ two.take i := fun q => hm (List.mem_append_right _ q)
      have e3 : ((two.map (mask (one ++ two.take i))).drop i).count (some k) = two.count k := by
        rw [← List.map_drop, count_mask _ _ _ hm, count_drop hm2]
      have e5 : nulTo i ((two.map (mask (one ++ two.take i))).length - i) k (two.map (mask (one ++ two.take i))) = two.map (mask (one ++ two.take i ++ [k])) := by
        rw [List.length_map]; exact nulTo_all i k _ two fun x hx => List.mem_append_right _ hx
      have e0 : one.count k = 0 := List.count_eq_zero.mpr hm1
      have e7 : 0 < two.count k := List.count_pos_iff.mpr (List.mem_of_getElem? hk)
      rw [e3, e5, e0, if_pos (by first | assumption | exact Nat.le_trans (by assumption) (by decide) | omega)]
theorem cdiff_rows (one two : List Nat) : cdiff one two = rowsF one two := by
  have h1 := st1_eq one two one.length (Nat.le_refl _)
  rw [List.take_length] at h1
  rw [cdiff, h1]
  dsimp only
  rw [st2_eq one two two.length (Nat.le_refl _), List.take_length]
  rfl
theorem rows_nil {one two : List Nat} (h : Alike one two) : rowsF one two = [] := by
  unfold rowsF
  generalize one ++ two = l
  induction l with
  | nil => rfl
  | cons x r ih =>
    rw [List.foldl_cons]
    have : rowsStep one two [] x = [] := by unfold rowsStep; rw [if_neg (fun q => q.1 (h x))]
    rw [this]; exact ih
theorem cdiff_nil {one two : List Nat} (h : Alike one two) : cdiff one two = [] := by rw [cdiff_rows, rows_nil h]
end Mine

namespace Mine

/-- a comprehension's scope that unpacks two names -/
def scopeOk2 (scope : Scope) (x y : Str) : Bool :=
  scope.kind == .function && scope.names.lookup x == some .local && scope.names.lookup y == some .local && scope.names.all fun p => p.2 != .cell && (p.2 != .free || (p.1 != x && p.1 != y)) && (p.2 != .local || p.1 == x || p.1 == y || p.1 == (".0" : Str)) && (p.2 != .local || scope.names.lookup p.1 == some .local)

section
variable {prog : Program} {w : World} {A : Around} {E : Value → Shared → Prop} {s b : Shared} {env : Env} {fs : List Addr} {h₀ I₀ I : Heap} {m : Str → Option Value} {ms : List (Addr × Obj)}

def TurnP {α β : Type} (prog : Program) (w : World) (A : Around) (fs : List Addr) (env : Env) (m : Str → Option Value) (scope : Scope) (x y : Str) (elt : Expr) (RI : Rep α) (RO : Rep β) (f : α → β) (b : Shared) (h₁ I₁ : Heap) (d : α) : Prop :=
  ∀ (t : Addr) (va vb : Value) (C : Addr) (I' h' : Heap) (tk : Nat) (E' : Value → Shared → Prop) (ms' : List (Addr × Obj)), RI I' (.ref t) d → I'.IsTuple t #[va, vb] → I₁.StaysIn I' → Fm w fs h₁ I₁ I' (cEnv scope env C) h' (upd (upd m x va) y vb) ms' →
    WP (model prog w) A (eval elt (cEnv scope env C)) (ElemR w b fs h₁ I₁ (cEnv scope env C) (upd (upd m x va) y vb) ms' I' RO (f d)) E' (St b h' tk)

theorem comp_loopP {α β : Type} {elt iter : Expr} {x y : Str} {px py tp pos : Pos} {kk : Nat} {scope : Scope} {h₁ I₁ : Heap} {tk₁ : Nat} {it D C : Addr} {St₂ : Nat → Heap → Prop} {RR : Value → Addr → Result → Shared → Prop}
    (xs : List α) (f : α → β) (RI : Rep α) (RO : Rep β) (mi : Mono RI) (mo : Mono RO) (hRI : ∀ I v d, RI I v d → ∃ t va vb, v = .ref t ∧ I.IsTuple t #[va, vb]) (fs' : List Addr) (hfs' : ∀ b ∈ fs', b ∈ env.locals :: fs) (hn : xs.length ≤ 1000) (hh : A.handled = none)
    (F₁ : Fm w fs h₀ I₀ I₁ env h₁ m ms) (hfs₁ : ∀ b ∈ fs', ∃ o, h₁.get? b = some o) (turn : ∀ d ∈ xs, TurnP prog w A fs' env m scope x y elt RI RO f b h₁ I₁ d)
    (ap : CApart h₁ it D C) (W : Iter prog w A I₁ it xs.length (fun i v => ∃ d, xs[i]? = some d ∧ RI I₁ v d) St₂) (hLI : ∀ i h, St₂ i h → ∃ l j, h.IsListIter it l j)
    (fin : ∀ D C h' tk I' mC, h₁.get? C = none → h'.Ns C mC → I'.get? C = none → Fm w fs h₀ I₀ I' env h' m ms → I₁.StaysIn I' → Done (env.locals :: fs) h₁ I₁ h' I' → LOf RO I' (.ref D) (xs.map f) → D ≠ C →
      RR (.ref D) C (.ok .next) (St b h' tk))
    (hsc : scopeOk2 scope x y = true) (hdot : m ".0" = none) (n : Nat) (s₃ : Shared) (inv : CInv (St b h₁ tk₁) fs' I₁ St₂ it D C xs.length RO (fun i => (xs.take i).map f) n s₃) :
    codeAny (model prog w) A (.compLoop (.ListComp elt [⟨.Tuple [.Name x px, .Name y py] kk tp, iter, [], 0⟩] scope pos) 0 (.ref it) (.ref D) (compEnvC scope (clFrom env scope.names []) C env)) (RR (.ref D) C) s₃ := by
  have hall : ∀ q ∈ scope.names, (q.2 != .cell && (q.2 != .free || (q.1 != x && q.1 != y)) && (q.2 != .local || q.1 == x || q.1 == y || q.1 == (".0" : Str)) && (q.2 != .local || scope.names.lookup q.1 == some .local)) = true := by
    have := hsc
    simp only [scopeOk2, Bool.and_eq_true] at this
    exact List.all_eq_true.mp (by simpa only [Bool.and_eq_true] using this.2)
  have hkind : scope.kind = .function := by have := hsc; simp only [scopeOk2, Bool.and_eq_true, beq_iff_eq] at this; exact this.1.1.1
  have hx : scope.names.lookup x = some .local := by have := hsc; simp only [scopeOk2, Bool.and_eq_true, beq_iff_eq] at this; exact this.1.1.2
  have hy : scope.names.lookup y = some .local := by have := hsc; simp only [scopeOk2, Bool.and_eq_true, beq_iff_eq] at this; exact this.1.2
  refine kcp_loop (CInv (St b h₁ tk₁) fs' I₁ St₂ it D C xs.length RO (fun i => (xs.take i).map f)) ?_ n inv
  rintro k s' ⟨h', tk, i, ys, I', mC, rfl, hi, rfl, hst, hns, nC, nit, nD, hD, done, hp⟩
  by_cases hlt : i < xs.length
  · refine W.item i _ _ _ hlt hst fun v h₄ tk₄ hv hst₄ hk₄ => ?_
    obtain ⟨d, hd, hR⟩ := hv
    have hdm : d ∈ xs := List.mem_of_getElem? hd
    obtain ⟨t, va, vb, rfl, htup⟩ := hRI _ _ _ hR
    obtain ⟨lx, jx, hli⟩ := hLI _ _ hst₄
    have hns₄ : h₄.Ns C mC := hns.at' fun o e => hk₄ _ o (Ne.symm ap.itC) e
    have done₄ := done.step ap.nit ap.nit nit nit fun b o h1 _ e => hk₄ b o h1 e
    have htup' : I'.IsTuple t #[va, vb] := IsTuple.up htup done.ext.1
    refine wpAny_letOwnedTupleGo_listiter hli ?_
    refine kcp_assign hh (IsTuple.up htup' done₄.stays) (lookup_relabel_local hx) (lookup_relabel_local hy) (by simp [compEnvC, relabel, hkind]) hns₄ fun h₅ tk₅ hns₅ hk₅ => ?_
    have hns₅ : h₅.Ns C (fun z => if z = y then some vb else if z = x then some va else mC z) := hns₅
    have hk₅ : ∀ c o, c ≠ C → h₄.get? c = some o → h₅.get? c = some o := hk₅
    have done₅ := done₄.step ap.nC ap.nC nC nC fun b o h1 _ e => hk₅ b o h1 e
    have hst₅ : St₂ (i + 1) h₅ := W.stable _ _ _ hst₄ (stays_trans done.ext.1 done₅.stays) fun o e => hk₅ _ o ap.itC e
    obtain ⟨oi₅, hoi₅⟩ := W.there _ _ hst₅
    obtain ⟨nD₅, hD₅⟩ := hD
    have FC := compFm (mm := upd (upd m x va) y vb) hkind ap F₁ hfs₁ done₅ nC nit nD hoi₅ (hk₅ _ _ ap.DC (hk₄ _ _ (Ne.symm ap.itD) hD₅)) hns₅ (fun n u hkn hu => by
      by_cases hny : n = y
      · simpa [upd, hny] using hu
      · by_cases hnx : n = x
        · subst hnx
          simpa [upd, hny] using hu
        · simp only [upd, if_neg hnx, if_neg hny] at hu ⊢
          have hmem := relabel_lookup_local (show _ = some NameKind.local from hkn)
          have := hall _ hmem
          simp [hnx, hny] at this
          have e0 : n = ".0" := this.1
          rw [e0, hdot] at hu; cases hu) (fun n c hc => by
      have hnxy : n ≠ x ∧ n ≠ y := by
        rcases clFrom_free _ _ _ (mem_of_lookup hc) with q' | q'
        · cases q'
        · have := hall _ q'
          simp at this
          exact this
      simp only [upd, if_neg hnxy.1, if_neg hnxy.2])
    refine wpAny_mono (turn d hdm t va vb C I' h₅ _ _ _ (mi _ _ _ _ done.ext.1 hR) htup' done.ext.1 FC).run (fun r s₄ h₄' => ?_) fun _ _ e => e
    obtain ⟨h₇, tk₇, I₇, rfl, F₇, up₇, hy7⟩ := h₄'
    refine comp_push (s₁ := St b h₁ tk₁) mo hn hlt ap W hst₅ hoi₅ rfl F₇ up₇ hp ?_ ?_ hy7 fun _ q => q
    · have htake : xs.take (i + 1) = xs.take i ++ [d] := by rw [List.take_add_one, hd]; rfl
      rw [htake]; exact List.map_append
    · rw [List.length_map, List.length_take]; omega
  · obtain rfl : i = xs.length := Nat.le_antisymm hi (Nat.not_lt.mp hlt)
    rw [List.take_length] at hp
    exact W.done _ _ _ hst fun h₄ tk₄ hk₄ => comp_end (s₁ := St b h₁ tk₁) mo hfs' ap F₁ hns nC nit hD done hp hk₄ fun I'' a b c d e f => fin D C h₄ tk₄ I'' mC ap.nC a b c d e f ap.DC

inductive CompP {α : Type} (w : World) (b : Shared) (fs fs' : List Addr) (h₀ I₀ : Heap) (env : Env) (m : Str → Option Value) (ms : List (Addr × Obj)) (RI : Rep α) (xs : List α) (T : Heap → Heap → α → Prop) (G : Heap → Prop) (xv : Value) (s : Shared) : Prop
  | mk (h₁ : Heap) (tk₁ : Nat) (I₁ : Heap) (e : s = St b h₁ tk₁) (F : Fm w fs h₀ I₀ I₁ env h₁ m ms) (hfs : ∀ b ∈ fs', ∃ o, h₁.get? b = some o) (l : LOf RI I₁ xv xs) (turn : ∀ d ∈ xs, T h₁ I₁ d) (fin : G I₁)
/-- z = [elt for x, y in iter] -/
theorem sCompP {α β : Type} {elt iter : Expr} {x y z : Str} {px py tp pz pos spos : Pos} {kk : Nat} {scope : Scope} {Q : Flow → Shared → Prop} (CN : CellsNew h₀ env)
    (xs : List α) (f : α → β) (RI : Rep α) (RO : Rep β) (mi : Mono RI) (mo : Mono RO) (hRI : ∀ I v d, RI I v d → ∃ t va vb, v = .ref t ∧ I.IsTuple t #[va, vb]) (fs' : List Addr) (hfs' : ∀ b ∈ fs', b ∈ env.locals :: fs) (hn : xs.length ≤ 1000) (hh : A.handled = none)
    (k : WP (model prog w) A (eval iter env) (CompP w b fs fs' h₀ I₀ env m ms RI xs (TurnP prog w A fs' env m scope x y elt RI RO f b)
      (fun I₁ => ∀ D h' tk I', Fm w fs h₀ I₀ I' env h' (upd m z (.ref D)) ms → I₁.StaysIn I' → LOf RO I' (.ref D) (xs.map f) → Q .next (St b h' tk))) E s)
    (hsw : swapsWith (.ListComp elt [⟨.Tuple [.Name x px, .Name y py] kk tp, iter, [], 0⟩] scope pos) (some (.Name z pz)) spos.line env = pure true := by kernel_rfl!) (hz : env.kindOf z = some .local := by kernel_rfl!)
    (hsc : scopeOk2 scope x y = true := by kernel_rfl!) (hfr : freeOk env scope.names = true := by kernel_rfl!) (hdot : m ".0" = none := by rfl)
    (hs : ∀ x, foldedSetIterable iter env x = pure x := by intro _; with_unfolding_all rfl) :
    WP (model prog w) A (exec (.Assign [.Name z pz] (.ListComp elt [⟨.Tuple [.Name x px, .Name y py] kk tp, iter, [], 0⟩] scope pos) spos) env) Q E s := by
  have hall : ∀ q ∈ scope.names, (q.2 != .cell && (q.2 != .free || (q.1 != x && q.1 != y)) && (q.2 != .local || q.1 == x || q.1 == y || q.1 == (".0" : Str)) && (q.2 != .local || scope.names.lookup q.1 == some .local)) = true := by
    have := hsc
    simp only [scopeOk2, Bool.and_eq_true] at this
    exact List.all_eq_true.mp (by simpa only [Bool.and_eq_true] using this.2)
  have hkind : scope.kind = .function := by have := hsc; simp only [scopeOk2, Bool.and_eq_true, beq_iff_eq] at this; exact this.1.1.1
  have hnames : ∀ y ∈ scope.names, y.2 = .local → scope.names.lookup y.1 = some .local := fun y hy e => by have := hall y hy; simp only [Bool.and_eq_true] at this; simpa [e] using this.2
  refine ⟨?_⟩
  rw [exec_Assign_Name_used _ _ _ _ hsw]
  refine wpAny_bind (wpAny_standAt (wpAny_bind ?_))
  show wpAny _ A (do let _ ← comprehension (.ListComp elt [⟨.Tuple [.Name x px, .Name y py] kk tp, iter, [], 0⟩] scope pos) scope env _ (newList []) false (eval iter env) (some (assign (.Name z pz) env))) _ _ s
  refine wpAny_bind (wpAny_mono (wpAny_comprehension_free (use := some (assign (.Name z pz) env)) (Q := fun _ s' => Q .next s') (cl := clFrom env scope.names []) rfl hs (closureFor_eq hfr) hkind hnames
    (wpAny_mono k.run (fun xv s₁ h₁ => ?_) fun _ _ e => e)) (fun _ s' hq => wpAny_pure (wpAny_pure hq)) fun _ _ e => e)
  obtain ⟨h₁, tk₁, I₁, rfl, F₁, hfs₁, ⟨a, vs, rfl, hl, hp⟩, turn, fin⟩ := h₁
  have hl' := hl.isList
  have hlh : h₁.IsList a vs.toArray := IsList.up hl' F₁.stays
  have hlt : a < h₁.objs.size := by obtain ⟨_, e, _⟩ := hlh; exact Heap.lt_size e
  refine wpAny_pyIter_list (s := St b h₁ tk₁) hlh ?_
  have W := Iter.list (prog := prog) (w := w) (A := A) hh hl' (Nat.ne_of_lt hlt)
  have hnn : vs.toArray.size = xs.length := by simpa using hp.length
  rw [hnn] at W
  have W' : Iter prog w A I₁ h₁.objs.size xs.length (fun i v => ∃ d, xs[i]? = some d ∧ RI I₁ v d) (fun i h => h.IsListIter h₁.objs.size a i ∧ h.IsList a vs.toArray) := { W with item := fun i s Q E hi st k => W.item i s Q E hi st fun v h' tk hv => k v h' tk (Paired.get hp (by simpa using hv)) }
  have hit : h₁.get? h₁.objs.size = none := get_size _
  refine comp_start (s₁ := St b h₁ tk₁) (RR := fun acc C => compPost (model prog w) A E (some (assign (.Name z pz) env)) (fun _ s' => Q .next s') acc C) (fun y hy => by have := hall y hy; simp only [Bool.and_eq_true, bne_iff_ne] at this; exact this.1.1.1) hkind hit (by show _ < (h₁.push _).objs.size; rw [Heap.size_push]; exact Nat.lt_succ_self _) (fun b o e => Heap.get?_push_of_some _ e) fun D C h₃ mC ap old hns hacc => ?_
  have oldS : ∀ b o, h₁.get? b = some o → h₃.get? b = some o := fun b o e => old b o (Heap.get?_push_of_some _ e)
  have hst₃ : h₃.IsListIter h₁.objs.size a 0 ∧ h₃.IsList a vs.toArray := ⟨⟨_, old _ _ (Heap.get?_push_size _ rfl), rfl, rfl⟩, IsList.up hlh oldS⟩
  have go := comp_loopP (iter := iter) (px := px) (py := py) (tp := tp) (kk := kk) (pos := pos) (b := b) (h₁ := h₁) (tk₁ := tk₁) (RR := fun acc C => compPost (model prog w) A E (some (assign (.Name z pz) env)) (fun _ s' => Q .next s') acc C) xs f RI RO mi mo hRI fs' hfs' hn hh F₁ hfs₁ turn ap W' (fun i h st => ⟨a, i, st.1⟩)
    (fun D C h' tk I' mC hC hns hIC F' up done hl hDC => by
      show wpAny _ A (assign (.Name z pz) env (.ref D)) _ _ _
      obtain ⟨m', hn', hm'⟩ := F'.ns
      have hLC : C ≠ env.locals := fun q => by obtain ⟨o, _, _, e, _⟩ := F₁.localsAt; rw [← q, hC] at e; cases e
      refine wpAny_assign_Name (wpAny_storeName_local (s := St b h' tk) hz hn' (fun h₃ hn₃ hs₃ => ?_) (by rw [F'.kind]; rfl))
      refine ⟨mC, hns.sameBut hs₃ hLC, fun h₅ hsb => fin D h₅ _ I' ?_ up hl⟩
      exact (F'.putL CN hz hm' hn₃ hs₃).butC hsb F₁ hC hIC) hsc hdot (xs.length + 1) { St b h₁ tk₁ with heap := h₃, toks := tk₁ + ([] : List (Str × Value)).length }
    ⟨h₃, _, 0, [], I₁, mC, rfl, Nat.zero_le _, rfl, hst₃, hns, none_inI F₁ ap.nC, none_inI F₁ ap.nit, none_inI F₁ ap.nD, hacc, ⟨Kp.of oldS, Ext.refl _ _, stays_trans F₁.stays oldS⟩, .nil⟩
  exact codeAny_compStart_list go (W'.self 0 _ _ _ hst₃ go)
end
end Mine

namespace Mine
section
variable {prog : Program} {w : World} {A : Around} {E : Value → Shared → Prop} {s b : Shared} {env : Env} {fs : List Addr} {h₀ I₀ I h : Heap} {m : Str → Option Value} {ms : List (Addr × Obj)} {tk : Nat} {Q : Value → Shared → Prop}

theorem xRangeR {n : Nat} {t : Tok} (F : Fm w fs h₀ I₀ I env h m ms)
    (k : ∀ r h' tk' u v, Fm w fs h₀ I₀ I env h' m ms → IsRange h' r 0 (n : Int) 1 u t v → Q (.ref r) (St b h' tk')) : WP (model prog w) A (call (.type "range") [.int (n : Int) t]) Q E (St b h tk) := by
  refine ⟨call_range_1 (s := St b h tk) ?_⟩
  have hk : ∀ b o, h.get? b = some o → (h.push { cls := .type "range", data := .fields #[.int 0 tk, .int (n : Int) t, .int 1 (tk + 1)] }).get? b = some o := fun b o e => Heap.get?_push_of_some _ e
  exact k h.objs.size _ _ _ _ (F.keeps hk) (IsRange.new h 0 n 1 tk t (tk + 1))

theorem Paired.of_get {α β : Type} {F : α → β → Prop} : ∀ {l : List α} {l' : List β}, l.length = l'.length → (∀ (i : Nat) a b, l[i]? = some a → l'[i]? = some b → F a b) → Paired F l l'
  | [], [], _, _ => .nil
  | [], _ :: _, h, _ => by simp at h
  | _ :: _, [], h, _ => by simp at h
  | a :: l, b :: l', h, k => .cons (k 0 a b rfl rfl) (Paired.of_get (by simpa using h) fun i x y hx hy => k (i + 1) x y (by simpa using hx) (by simpa using hy))

theorem xListR {n : Nat} {r : Addr} {t u v : Tok} (F : Fm w fs h₀ I₀ I env h m ms) (hh : A.handled = none) (hr : IsRange h r 0 (n : Int) 1 u t v) (hn : n ≤ 1000000)
    (k : ∀ D h' tk' I', Fm w fs h₀ I₀ I' env h' m ms → I.StaysIn I' → LOf NatR I' (.ref D) (List.range n) → Q (.ref D) (St b h' tk')) : WP (model prog w) A (call (.type "list") [.ref r]) Q E (St b h tk) := by
  refine ⟨call_list_range (s := St b h tk) (n := n) hh hr (small_one (by decide) (by decide) (by first | assumption | exact Nat.le_trans (by assumption) (by decide) | omega) (by first | assumption | exact Nat.le_trans (by assumption) (by decide) | omega)) (by rw [rangeSize_one]; split <;> omega) (by first | assumption | exact Nat.le_trans (by assumption) (by decide) | omega) fun h' tk' acc c' hk hD hacc => ?_⟩
  have u := add_up (a := h.objs.size) (stays_trans F.stays hk)
  refine k _ _ _ _ (F.frozen hk (get_size _)) u ⟨h.objs.size, acc.toList, rfl, ⟨c', add_new.trans hD⟩, Paired.of_get (by simp [hacc.1]) fun i a d ha hd => ?_⟩
  obtain ⟨t, e⟩ := hacc.2 i a (by simpa using ha)
  have hd' : i = d := by
    rw [List.getElem?_range (by have := (List.getElem?_eq_some_iff.mp hd).1; simpa using this)] at hd
    exact Option.some.inj hd
  subst hd'
  exact ⟨t, by rw [e]; simp⟩

theorem vListF {α : Type} {R : Rep α} {v : Value} {ds : List α} {Q : Bool → Shared → Prop} (st : I.StaysIn h) (x : LOf R I v ds) (hb : ds.length ≤ 1000000) (k : ∀ tk', Q (!ds.isEmpty) (St b h tk')) : WP (model prog w) A (truthy v) Q E (St b h tk) := by
  obtain ⟨a, vs, rfl, ⟨n, hl⟩, hp⟩ := x
  have n1 := hp.length
  refine vListM (n := n) (st _ _ hl) (by first | assumption | exact Nat.le_trans (by assumption) (by decide) | omega) fun tk' => ?_
  have e : vs.isEmpty = ds.isEmpty := by cases hp <;> rfl
  rw [e]; exact k tk'

/-- s[k - 1] -/
theorem xItPrev {α : Type} {R : Rep α} {value slice : Expr} {v : Value} {ds : List α} {j : Nat} {t : Tok} {d : α} {ops : List Value} (st : I.StaysIn h) (l : LOf R I v ds) (hd : ds[if j = 0 then ds.length - 1 else j - 1]? = some d) (hb : ds.length ≤ 1000000) (k : ∀ y, R I y d → Q y (St b h tk))
    (hs : subscripted slice false v (.int ((j : Int) - 1) t) = operate ops (getItem v (.int ((j : Int) - 1) t)) := by with_unfolding_all rfl) :
    WP (model prog w) A (subscriptTail value slice v (.int ((j : Int) - 1) t)) Q E (St b h tk) := by
  by_cases hj : j = 0
  · subst hj
    have e : ((0 : Nat) : Int) - 1 = -1 := rfl
    rw [e] at hs ⊢
    exact xLast st l (by rw [List.getLast?_eq_getElem?]; simpa using hd) hb k hs
  · have e : (j : Int) - 1 = ((j - 1 : Nat) : Int) := by omega
    rw [e] at hs ⊢
    exact xIt st l (by rwa [if_neg hj] at hd) hb k hs

/-- two pairs of lists compared -/
theorem cNePR {v v' : Value} {p p' : List Nat × List Nat} (st : I.StaysIn h) (hu : A.units + 10 < cLine) (x : PR I v p) (y : PR I v' p') (k : Q (.bool (!decide (p = p'))) (St b h tk)) : WP (model prog w) A (compareOp .NotEq v v') Q E (St b h tk) := by
  obtain ⟨t, x1, x2, rfl, ht, hx1, hx2⟩ := x
  obtain ⟨t', y1, y2, rfl, ht', hy1, hy2⟩ := y
  have up : ∀ {v ds}, LOf Th I v ds → LOf Th h v ds := fun z => LOf.mono Th.mono _ _ _ _ st z
  have e1 := LOf.eqRep Th.eqRep Th.uniq A.in1 (St b h tk) _ _ _ _ (by show A.units + 1 + 5 < _; omega) (up hx1) (up hy1)
  have e2 := LOf.eqRep Th.eqRep Th.uniq A.in1 (St b h tk) _ _ _ _ (by show A.units + 1 + 5 < _; omega) (up hx2) (up hy2)
  have := RcNeAt.tuples (A := A) (s := St b h tk) (IsTuple.up ht st) (IsTuple.up ht' st) (by first | assumption | exact Nat.le_trans (by assumption) (by decide) | omega) (e := fun j => if j = 0 then decide (p.1 = p'.1) else decide (p.2 = p'.2)) (fun j h1 h2 => by
    match j, h1 with
    | 0, _ => exact e1
    | 1, _ => exact e2)
  refine ⟨this prog w E Q ?_⟩
  have e : (!((List.range (min (#[x1, x2] : Array Value).size (#[y1, y2] : Array Value).size)).all (fun j => if j = 0 then decide (p.1 = p'.1) else decide (p.2 = p'.2)) && (#[x1, x2] : Array Value).size == (#[y1, y2] : Array Value).size)) = !decide (p = p') := by
    congr 1
    rw [Bool.eq_iff_iff]
    simp [List.range_succ, Prod.ext_iff]
  rw [e]; exact k
end

/-! ## the steps of reduce -/
def OkD (x : List (List Nat)) (y : List Nat × List Nat) : Prop := ∃ d, x.getLast? = some d ∧ x.length ≤ 1000 ∧ d.length ≤ 1000 ∧ y.1.length ≤ 1000 ∧ y.2.length ≤ 1000 ∧ (uld d y.1).2 = [] ∧ (uld d y.1).1.length ≤ 1000
def OkJ (p q : List Nat × List Nat) : Prop := p.1.length ≤ 300 ∧ p.2.length ≤ 300 ∧ q.1.length ≤ 300 ∧ q.2.length ≤ 300 ∧ (uld p.2 q.1).1.length ≤ 300 ∧ (uld p.2 q.1).2.length ≤ 300

theorem step_done {prog : Program} {w : World} {A : Around} {b : Shared} {fs : List Addr} {I : Heap} (r : Rm A 2 30) : StepOk prog w A b fs I 197 (LOf (LOf Th)) PR doneS OkD := by
  rintro x y vx vy I' h' tk' Q' E' ⟨d, h1, h2, h3, h4, h5, h6, h7⟩ u hx hy W st S _ K
  refine done_ok W st r S hx hy h1 h2 h3 h4 h5 h6 h7 fun v h'' tk'' I'' D hv => K _ _ _ _ D ?_
  rw [doneS, h1]
  exact hv
theorem step_join {prog : Program} {w : World} {A : Around} {b : Shared} {fs : List Addr} {I : Heap} (r : Rm A 2 30) : StepOk prog w A b fs I 204 PR PR joinP OkJ := by
  rintro x y vx vy I' h' tk' Q' E' ⟨h1, h2, h3, h4, h5, h6⟩ u hx hy W st S _ K
  exact joined_ok W st r S hx hy h1 h2 h3 h4 h5 h6 fun v h'' tk'' I'' D hv => K _ _ _ _ D hv

/-! ## what the history holds -/
structure Bags (bs : List (List Nat)) : Prop where
  two : 2 ≤ bs.length
  six : bs.length ≤ 6
  lt5 : ∀ d ∈ bs, Lt5 d
  ten : ∀ d ∈ bs, d.length ≤ 10
def psOf (bs : List (List Nat)) : List (List Nat × List Nat) := (List.range (bs.length - 1)).map fun i => uld (bs.getD i []) (bs.getD (i + 1) [])
def tsOf (bs : List (List Nat)) : List (List Nat × List Nat) := (psOf bs).reverse.map fun p => (p.2, p.1)
theorem psOf_length (bs : List (List Nat)) : (psOf bs).length = bs.length - 1 := by simp [psOf]
theorem tsOf_length (bs : List (List Nat)) : (tsOf bs).length = bs.length - 1 := by simp [tsOf, psOf]
theorem psOf_get {bs : List (List Nat)} {i : Nat} (h : i + 1 < bs.length) : (psOf bs)[i]? = some (uld (bs.getD i []) (bs.getD (i + 1) [])) := by
  rw [psOf, List.getElem?_map, List.getElem?_range (by first | assumption | exact Nat.le_trans (by assumption) (by decide) | omega)]; rfl
theorem get_getD {α : Type} {l : List α} {i : Nat} (h : i < l.length) (d : α) : l[i]? = some (l.getD i d) := by
  rw [List.getD_eq_getElem?_getD, List.getElem?_eq_getElem h]; rfl
theorem getD_mem {α : Type} {l : List α} {i : Nat} (h : i < l.length) (d : α) : l.getD i d ∈ l := List.mem_of_getElem? (get_getD h d)
theorem psOf_cons (a b : List Nat) (r : List (List Nat)) : psOf (a :: b :: r) = uld a b :: psOf (b :: r) := by
  simp only [psOf, List.length_cons, Nat.add_sub_cancel]
  rw [List.range_succ_eq_map, List.map_cons, List.map_map]
  congr 1
theorem along_psOf : ∀ (bs : List (List Nat)), bs ≠ [] → Along bs (psOf bs)
  | [], h => absurd rfl h
  | [a], _ => .one a
  | a :: b :: r, _ => by rw [psOf_cons]; exact .more (pat_uld a b) (along_psOf (b :: r) (by simp))
end Mine

namespace Mine
section
variable {prog : Program} {w : World} {A : Around} {E : Value → Shared → Prop} {s b : Shared} {env : Env} {fs : List Addr} {h₀ I₀ I h : Heap} {m : Str → Option Value} {ms : List (Addr × Obj)} {tk : Nat}

def Nm {α : Type} (I : Heap) (m : Str → Option Value) (x : Str) (R : Rep α) (ds : α) : Prop := ∃ v, m x = some v ∧ R I v ds
theorem Nm.up {α : Type} {I I' : Heap} {m : Str → Option Value} {x : Str} {R : Rep α} {ds : α} (mo : Mono R) (u : I.StaysIn I') (n : Nm I m x R ds) : Nm I' m x R ds := let ⟨v, e, r⟩ := n; ⟨v, e, mo _ _ _ _ u r⟩

structure HA (I : Heap) (m : Str → Option Value) (bs : List (List Nat)) : Prop where
  bags : Nm I m "bags" (LOf (LOf Th)) bs
  counts : Nm I m "counts" (LOf (LOf NatR)) (bs.map cntL)
  patches : Nm I m "patches" (LOf PR) (psOf bs)
  turned : Nm I m "turned" (LOf PR) (tsOf bs)

theorem cntL_le {ds : List Nat} (h : ds.length ≤ 10) : ∀ c ∈ cntL ds, c ≤ 1000 := fun c hc => by
  simp only [cntL, List.mem_append, List.mem_map, List.mem_singleton] at hc
  rcases hc with ⟨k, _, rfl⟩ | rfl
  · have := List.count_le_length (a := k) (l := ds); omega
  · omega

theorem hist_A {bs : List (List Nat)} {L : Addr} {v : Value} {Q : Flow → Shared → Prop} (B : Bags bs) (F : Fm w fs h₀ I₀ I (envAt w 221 L) h m ms) (C : CellsNew h₀ (envAt w 221 L)) (r' : Rm (A.deeper (envAt w 221 L)) 4 45) (S : Stk A fs h₀ I₀)
    (hm : m = fun x => [(("bags" : Str), v)].reverse.lookup x) (hv : LOf (LOf Th) I v bs)
    (k : ∀ h' tk' I' m', Fm w fs h₀ I₀ I' (envAt w 221 L) h' m' ms → I.StaysIn I' → HA I' m' bs → m' ".0" = none → WP (model prog w) (A.deeper (envAt w 221 L)) (execs ((bodyAt w 221).drop 5) (envAt w 221 L)) Q E (St b h' tk')) :
    WP (model prog w) (A.deeper (envAt w 221 L)) (execs (bodyAt w 221) (envAt w 221 L)) Q E (St b h tk) := by
  subst hm
  have hlen := B.six
  have hlen2 := B.two
  have hml : (bs.map cntL).length ≤ 6 := by rw [List.length_map]; exact hlen
  have hpl : (psOf bs).length ≤ 6 := by rw [psOf_length]; exact Nat.le_trans (Nat.sub_le _ _) hlen
  have hrl : (List.range (bs.length - 1)).length ≤ 6 := by rw [List.length_range]; exact Nat.le_trans (Nat.sub_le _ _) hlen
  -- counts
  refine sCons (sAssign (eComp0 bs cntL (LOf Th) (LOf NatR) (LOf.mono Th.mono) (LOf.mono NatR.mono) [] (fun _ q => nomatch q) (by first | assumption | exact Nat.le_trans (by assumption) (by decide) | omega) (eName F rfl
    ⟨h, tk, I, rfl, F, fun _ q => (nomatch q), SrcOf.list r'.handled F.stays hv, ?_, ?_⟩)))
  · intro d hd v C' I' h' tk' E' ms' hv' u' F'
    exact eCallG 178 F' (aCons (eName F' rfl (aNil ⟨F'.fn _, counts_ok F'.wd F'.stays r'.mono hv' (Nat.le_trans (B.ten d hd) (by decide)) fun v h₈ tk₈ I₈ D hv8 => ⟨h₈, tk₈, I₈, rfl, F'.aft D, D.ext.1, hv8⟩⟩)))
  intro cs h₃ tk₃ I₃ F₃ u₃ hcs
  refine xSt F₃ C fun h₄ tk₄ F₄ => ?_
  have hv₃ := LOf.mono (LOf.mono Th.mono) _ _ _ _ u₃ hv
  -- steps
  refine sCons (sAssign (eCallT "list" F₄ (aCons (eCallT "range" F₄ (aCons (eBin (eCallB "len" F₄ (aCons (eName F₄ rfl (aNil (xLen F₄.stays hv₃ (by first | assumption | exact Nat.le_trans (by assumption) (by decide) | omega) fun _ _ => eInt fun _ _ => oSub fun t₅ tk₅ => ?_)))))))))) )
  rw [show ((bs.length : Nat) : Int) - 1 = ((bs.length - 1 : Nat) : Int) by omega]
  refine aNil (xRangeR F₄ fun rr h₅ tk₅ _ _ F₅ hr => aNil (xListR F₅ r'.handled hr (by first | assumption | exact Nat.le_trans (by assumption) (by decide) | omega) fun sv h₆ tk₆ I₆ F₆ u₆ hsv => xSt F₆ C fun h₇ tk₇ F₇ => ?_))
  have hv₆ := LOf.mono (LOf.mono Th.mono) _ _ _ _ u₆ hv₃
  have hcs₆ := LOf.mono (LOf.mono NatR.mono) _ _ _ _ u₆ hcs
  -- patches
  have S₇ := S.push F₇ rfl
  refine sCons (sAssign (eComp0 (List.range (bs.length - 1)) (fun i => uld (bs.getD i []) (bs.getD (i + 1) [])) NatR PR NatR.mono PR.mono ((envAt w 221 L).locals :: fs) (fun _ q => q) (by first | exact Nat.le_trans (by assumption) (by decide) | (simp; omega)) (eName F₇ rfl
    ⟨h₇, tk₇, I₆, rfl, F₇, fun f hf => (let ⟨o, _, _, q, _⟩ := S₇.dic f hf; ⟨o, q⟩), SrcOf.list r'.handled F₇.stays hsv, ?_, ?_⟩)))
  · intro i hi v C' I' h' tk' E' ms' hv' u' F'
    obtain ⟨t', rfl⟩ := hv'
    have hi' : i < bs.length - 1 := List.mem_range.mp hi
    have hi2 : i + 1 < bs.length := Nat.add_lt_of_lt_sub hi'
    have hi1 : i < bs.length := Nat.lt_of_succ_lt hi2
    have hb := LOf.mono (LOf.mono Th.mono) _ _ _ _ u' hv₆
    refine eCallG 190 F' (aCons (eSub (eName F' rfl (eName F' rfl (xIt F'.stays hb (get_getD (by first | assumption | exact Nat.le_trans (by assumption) (by decide) | omega) []) (by first | assumption | exact Nat.le_trans (by assumption) (by decide) | omega) fun y1 hy1 => ?_)))))
    refine aCons (eSub (eName F' rfl (eBin (eName F' rfl (eInt fun _ _ => oAdd fun t₈ tk₈ => ?_)))))
    rw [show (i : Int) + 1 = ((i + 1 : Nat) : Int) from rfl]
    refine xIt F'.stays hb (get_getD (by first | assumption | exact Nat.le_trans (by assumption) (by decide) | omega) []) (by first | assumption | exact Nat.le_trans (by assumption) (by decide) | omega) fun y2 hy2 => aNil ⟨F'.fn _, ?_⟩
    have l1 := B.ten _ (getD_mem (l := bs) (i := i) (by first | assumption | exact Nat.le_trans (by assumption) (by decide) | omega) [])
    have l2 := B.ten _ (getD_mem (l := bs) (i := i + 1) (by first | assumption | exact Nat.le_trans (by assumption) (by decide) | omega) [])
    exact patch_ok F'.wd F'.stays r'.mono (S₇.done F'.done) hy1 hy2 (by first | assumption | exact Nat.le_trans (by assumption) (by decide) | omega) (by first | assumption | exact Nat.le_trans (by assumption) (by decide) | omega) fun x h₉ tk₉ I₉ D hx => ⟨h₉, tk₉, I₉, rfl, F'.after (D.mono fun _ q => .tail _ q), D.ext.1, hx⟩
  intro pv h₈ tk₈ I₈ F₈ u₈ hpv
  refine xSt F₈ C fun h₉ tk₉ F₉ => ?_
  have hpv : LOf PR I₈ (.ref pv) (psOf bs) := hpv
  have hv₈ := LOf.mono (LOf.mono Th.mono) _ _ _ _ u₈ hv₆
  have hcs₈ := LOf.mono (LOf.mono NatR.mono) _ _ _ _ u₈ hcs₆
  have hsv₈ := LOf.mono NatR.mono _ _ _ _ u₈ hsv
  -- the patches fit
  refine sCons (sIf (tPlain (eComp1 (List.range (bs.length - 1)) (fun _ => false) (fun i => i) NatR NatR NatR.mono NatR.mono [] (fun _ q => nomatch q) (by first | exact Nat.le_trans (by assumption) (by decide) | (simp; omega)) (eName F₉ rfl
    ⟨h₉, tk₉, I₈, rfl, F₉, fun _ q => (nomatch q), SrcOf.list r'.handled F₉.stays hsv₈, ?_, ?_⟩))))
  · intro i hi v C' I' h' tk' E' ms' hv' u' F'
    obtain ⟨t', rfl⟩ := hv'
    have hi' : i < bs.length - 1 := List.mem_range.mp hi
    have hi2 : i + 1 < bs.length := Nat.add_lt_of_lt_sub hi'
    have hi1 : i < bs.length := Nat.lt_of_succ_lt hi2
    have hp := LOf.mono PR.mono _ _ _ _ u' hpv
    have hc := LOf.mono (LOf.mono NatR.mono) _ _ _ _ u' hcs₈
    have m1 := getD_mem (l := bs) (i := i) (by first | assumption | exact Nat.le_trans (by assumption) (by decide) | omega) []
    have m2 := getD_mem (l := bs) (i := i + 1) (by first | assumption | exact Nat.le_trans (by assumption) (by decide) | omega) []
    have c1 : (bs.map cntL)[i]? = some (cntL (bs.getD i [])) := by rw [List.getElem?_map, get_getD hi1 []]; rfl
    have c2 : (bs.map cntL)[i + 1]? = some (cntL (bs.getD (i + 1) [])) := by rw [List.getElem?_map, get_getD hi2 []]; rfl
    have P := pat_uld (bs.getD i []) (bs.getD (i + 1) [])
    have l1 := P.len1 (B.lt5 _ m1)
    have l2 := P.len2 (B.lt5 _ m2)
    have l3 := B.ten _ m1
    have l4 := B.ten _ m2
    refine tNot (tPlain (eCallG 209 F' (aCons (eSub (eName F' rfl (eName F' rfl (xIt F'.stays hp (psOf_get (by first | assumption | exact Nat.le_trans (by assumption) (by decide) | omega)) (by first | exact Nat.le_trans (by assumption) (by decide) | (rw [psOf_length]; omega)) fun y1 hy1 => ?_)))))))
    refine aCons (eSub (eName F' rfl (eName F' rfl (xIt F'.stays hc c1 (by first | exact Nat.le_trans (by assumption) (by decide) | (simp; omega)) fun y2 hy2 => ?_))))
    refine aCons (eSub (eName F' rfl (eBin (eName F' rfl (eInt fun _ _ => oAdd fun t₁ tk₁ => ?_)))))
    rw [show (i : Int) + 1 = ((i + 1 : Nat) : Int) from rfl]
    refine xIt F'.stays hc c2 (by first | exact Nat.le_trans (by assumption) (by decide) | (simp; omega)) fun y3 hy3 => aNil ⟨F'.fn _, ?_⟩
    refine fits_ok F'.wd F'.stays r'.mono hy1 hy2 hy3 (by first | assumption | exact Nat.le_trans (by assumption) (by decide) | omega) (by first | assumption | exact Nat.le_trans (by assumption) (by decide) | omega) (cntL_length _) (cntL_length _) (cntL_le l3) (cntL_le l4) fun h₉ tk₉ I₉ D => vBool ?_
    rw [pat_fits P (B.lt5 _ m1) (B.lt5 _ m2)]
    exact ⟨rfl, h₉, tk₉, I₉, rfl, F'.aft D, D.ext.1, fun q => nomatch q⟩
  intro ev h₁₀ tk₁₀ I₁₀ F₁₀ u₁₀ hev
  have e0 : ((List.range (bs.length - 1)).filter fun _ => false) = [] := by simp
  rw [e0] at hev
  refine vListF F₁₀.stays hev (by simp) fun tk₁₁ => ?_
  refine iteF (by simp) ?_
  have hpv₁ := LOf.mono PR.mono _ _ _ _ u₁₀ hpv
  -- turned
  refine sNil (sCons (sCompP C (psOf bs).reverse (fun p => (p.2, p.1)) PR PR PR.mono PR.mono (fun I v d ⟨t, x, y, e, ht, _, _⟩ => ⟨t, x, y, e, ht⟩) [] (fun _ q => nomatch q) (by rw [List.length_reverse, psOf_length]; omega) r'.handled
    (eRev rfl PR.mono (eName F₁₀ rfl ⟨_, _, I₁₀, psOf bs, rfl, F₁₀, hpv₁, by first | exact Nat.le_trans (by assumption) (by decide) | (rw [psOf_length]; omega), fun v' h₁₁ tk₁₁ I₁₁ F₁₁ u₁₁ hv' => ⟨h₁₁, tk₁₁, I₁₁, rfl, F₁₁, fun _ q => (nomatch q), hv', ?_, ?_⟩⟩))))
  · intro d hd t va vb C' I' h' tk' E' ms' hR ht u' F'
    obtain ⟨t', x, y, e, ht', hx, hy⟩ := hR
    cases e
    have e2 := IsTuple.inj ht ht'
    simp at e2
    obtain ⟨rfl, rfl⟩ := e2
    exact eTuple (aCons (eName F' rfl (aCons (eName F' rfl (aNil (xTupleI F' fun t₃ h₃ I₃ _ F₃ u₃ ht₃ => ⟨h₃, _, I₃, rfl, F₃, u₃, t₃, vb, va, rfl, ht₃, LOf.mono Th.mono _ _ _ _ u₃ hy, LOf.mono Th.mono _ _ _ _ u₃ hx⟩))))))
  intro tv h₁₂ tk₁₂ I₁₂ F₁₂ u₁₂ htv
  have u := stays_trans u₁₁ u₁₂
  have u' := stays_trans u₁₀ u
  refine k h₁₂ tk₁₂ I₁₂ _ F₁₂ (stays_trans u₃ (stays_trans u₆ (stays_trans u₈ u'))) ⟨⟨v, rfl, LOf.mono (LOf.mono Th.mono) _ _ _ _ u' hv₈⟩, ⟨_, rfl, LOf.mono (LOf.mono NatR.mono) _ _ _ _ u' hcs₈⟩, ⟨_, rfl, LOf.mono PR.mono _ _ _ _ u hpv₁⟩, ⟨_, rfl, htv⟩⟩ rfl
end
end Mine

namespace Mine

/-! ## the bags regained -/
theorem Along.mems {bs : List (List Nat)} {ps : List (List Nat × List Nat)} (x : Along bs ps) : bs ≠ [] := by cases x <;> simp
theorem forth_ok {bs : List (List Nat)} (B : Bags bs) : Alikes ((psOf bs).foldl doneS [bs.getD 0 []]) bs ∧ ∀ i y, (psOf bs)[i]? = some y → OkD (((psOf bs).take i).foldl doneS [bs.getD 0 []]) y := by
  have h2 := B.two
  have h6 := B.six
  have hne : bs ≠ [] := fun q => by rw [q] at h2; simp at h2
  have ha : Alike (bs.getD 0 []) (bs.headD []) := by cases bs <;> exact fun _ => rfl
  obtain ⟨g1, g2⟩ := along_done (along_psOf bs hne) (seen := []) (gone := []) .nil ha
  refine ⟨g1, fun i y hy => ?_⟩
  obtain ⟨d', e1, e2, a, c, e3, e4, e5, e6⟩ := g2 i y hy
  have hi : i < (psOf bs).length := (List.getElem?_eq_some_iff.mp hy).1
  rw [psOf_length] at hi
  obtain ⟨r1, r2⟩ := regain e4 e3
  have l1 := e3.len (B.lt5 _ e5)
  have l2 := B.ten _ e5
  have l3 := e4.len1 (B.lt5 _ e5)
  have l4 := e4.len2 (B.lt5 _ e6)
  have l5 := B.ten _ e6
  have l6 := r2.len (B.lt5 _ e6)
  rw [List.length_append] at l6
  refine ⟨d', by simpa using e1, ?_, by first | assumption | exact Nat.le_trans (by assumption) (by decide) | omega, by first | assumption | exact Nat.le_trans (by assumption) (by decide) | omega, by first | assumption | exact Nat.le_trans (by assumption) (by decide) | omega, r1, by first | assumption | exact Nat.le_trans (by assumption) (by decide) | omega⟩
  have : ([] : List (List Nat)) ++ [bs.getD 0 []] = [bs.getD 0 []] := rfl
  rw [this] at e2
  rw [e2]; simp; omega
theorem Bags.rev {bs : List (List Nat)} (B : Bags bs) : Bags bs.reverse := ⟨by simpa using B.two, by simpa using B.six, fun d hd => B.lt5 d (by simpa using hd), fun d hd => B.ten d (by simpa using hd)⟩
theorem back_ok {bs : List (List Nat)} (B : Bags bs) : Alikes ((tsOf bs).foldl doneS [bs.getLast?.getD []]).reverse bs ∧ ∀ i y, (tsOf bs)[i]? = some y → OkD (((tsOf bs).take i).foldl doneS [bs.getLast?.getD []]) y := by
  have h2 := B.two
  have h6 := B.six
  have hne : bs ≠ [] := fun q => by rw [q] at h2; simp at h2
  have ha : Alike (bs.getLast?.getD []) (bs.reverse.headD []) := fun k => by rw [List.headD_eq_head?_getD, List.head?_reverse]
  obtain ⟨g1, g2⟩ := along_done (along_psOf bs hne).turn (seen := []) (gone := []) .nil ha
  refine ⟨by have := g1.reverse; simp only [List.nil_append, List.reverse_reverse] at this; exact this, fun i y hy => ?_⟩
  obtain ⟨d', e1, e2, a, c, e3, e4, e5, e6⟩ := g2 i y hy
  have hi : i < (tsOf bs).length := (List.getElem?_eq_some_iff.mp hy).1
  rw [tsOf_length] at hi
  have B' := B.rev
  obtain ⟨r1, r2⟩ := regain e4 e3
  have l1 := e3.len (B'.lt5 _ e5)
  have l2 := B'.ten _ e5
  have l3 := e4.len1 (B'.lt5 _ e5)
  have l4 := e4.len2 (B'.lt5 _ e6)
  have l5 := B'.ten _ e6
  have l6 := r2.len (B'.lt5 _ e6)
  rw [List.length_append] at l6
  refine ⟨d', e1, ?_, by first | assumption | exact Nat.le_trans (by assumption) (by decide) | omega, by first | assumption | exact Nat.le_trans (by assumption) (by decide) | omega, by first | assumption | exact Nat.le_trans (by assumption) (by decide) | omega, r1, by first | assumption | exact Nat.le_trans (by assumption) (by decide) | omega⟩
  have e2' : (((tsOf bs).take i).foldl doneS [bs.getLast?.getD []]).length = 0 + 1 + i := e2
  rw [e2']; omega

section
variable {prog : Program} {w : World} {A : Around} {E : Value → Shared → Prop} {s b : Shared} {env : Env} {fs : List Addr} {h₀ I₀ I h : Heap} {m : Str → Option Value} {ms : List (Addr × Obj)} {tk : Nat}

structure HB (I : Heap) (m : Str → Option Value) (bs : List (List Nat)) : Prop extends HA I m bs where
  forth : ∃ fs, Nm I m "forth" (LOf (LOf Th)) fs ∧ Alikes fs bs
  back : ∃ fs, Nm I m "back" (LOf (LOf Th)) fs ∧ Alikes fs bs

theorem fnI (W : Wd w I) (f : Addr) {oc : Value} {od : Option Addr} {osl : Array (Option Value)} (ho : (KK w).lookup f = some ⟨oc, od, .func (fdAt w f), osl⟩ := by rfl) : FnAt f I := ⟨_, _, _, _, W.X f _ ho⟩

theorem hist_B {bs : List (List Nat)} {L : Addr} {Q : Flow → Shared → Prop} (B : Bags bs) (F : Fm w fs h₀ I₀ I (envAt w 221 L) h m ms) (C : CellsNew h₀ (envAt w 221 L)) (r' : Rm (A.deeper (envAt w 221 L)) 4 45) (S : Stk A fs h₀ I₀) (hm : HA I m bs) (hdot : m ".0" = none)
    (k : ∀ h' tk' I' m', Fm w fs h₀ I₀ I' (envAt w 221 L) h' m' ms → I.StaysIn I' → m' ".0" = none → HB I' m' bs → WP (model prog w) (A.deeper (envAt w 221 L)) (execs ((bodyAt w 221).drop 8) (envAt w 221 L)) Q E (St b h' tk')) :
    WP (model prog w) (A.deeper (envAt w 221 L)) (execs ((bodyAt w 221).drop 5) (envAt w 221 L)) Q E (St b h tk) := by
  have hlen := B.six
  have hlen2 := B.two
  obtain ⟨⟨vb, mb, hvb⟩, ⟨vc, mc, hvc⟩, ⟨vp, mp, hvp⟩, ⟨vt, mt, hvt⟩⟩ := hm
  obtain ⟨fo1, fo2⟩ := forth_ok B
  obtain ⟨ba1, ba2⟩ := back_ok B
  have S₁ := S.push F rfl
  -- forth
  obtain ⟨ap, xp, rfl, lp, pp⟩ := hvp
  obtain ⟨at', xt, rfl, lt, pt⟩ := hvt
  refine sCons (sAssign (eCallG 161 F (aCons (eGlob (.ref 197) F (aCons (eName F mp (aCons (eList (aCons (eSub (eName F mb (eInt fun _ _ => xIt (j := 0) F.stays hvb (get_getD (by first | assumption | exact Nat.le_trans (by assumption) (by decide) | omega) []) (by first | assumption | exact Nat.le_trans (by assumption) (by decide) | omega) fun y0 hy0 => aNil (xListI F fun z h₂ I₂ _ hz F₂ u₂ l₂ => aNil ⟨F₂.fn _, ?_⟩)))))))))))))
  obtain ⟨nz, hzo⟩ := l₂
  refine reduce3_ok (RA := LOf (LOf Th)) (RB := PR) (step := doneS) (Ok := OkD) (x₀ := [bs.getD 0 []]) (LOf.mono (LOf.mono Th.mono)) PR.mono F₂.wd F₂.stays r'.mono (S.push F₂ rfl) (fnI F₂.wd 197) (PlainList.up lp u₂) (PR.mono.paired u₂ pp)
    ⟨z, [y0], rfl, ⟨nz, hzo⟩, .cons (LOf.mono Th.mono _ _ _ _ u₂ hy0) .nil⟩ ⟨z, _, rfl, hzo, by simp, ?_⟩ fo2 (fun _ => step_done (Rm.deeper (r'.mono (d' := 3) (u' := 33)) _)) fun v h₃ tk₃ I₃ D₃ hf => ?_
  · intro q
    have o153 := F.wd.X 153 _ rfl
    have e := u₂ _ _ o153
    rw [← q] at e
    rw [e] at hzo
    have := congrArg (fun x : Option Obj => x.map Obj.cls) hzo
    simp at this
  have F₃ := F₂.after D₃
  have u₃ := stays_trans u₂ D₃.ext.1
  refine xSt F₃ C fun h₄ tk₄ F₄ => ?_
  have hvb₃ := LOf.mono (LOf.mono Th.mono) _ _ _ _ u₃ hvb
  -- back
  refine sCons (sAssign (eRev (b := b) (m := upd m "forth" v) (ms := ms) (h₀ := h₀) (I₀ := I₀) (fs := fs) rfl (LOf.mono Th.mono) (eCallG 161 F₄ (aCons (eGlob (.ref 197) F₄ (aCons (eName F₄ mt (aCons (eList (aCons (eSub (eName F₄ mb (eNeg fun _ _ => xLast F₄.stays hvb₃ (d := bs.getLast?.getD []) ?_ (by first | assumption | exact Nat.le_trans (by assumption) (by decide) | omega) fun y0 hy0 => aNil (xListI F₄ fun z h₅ I₅ _ hz F₅ u₅ l₅ => aNil ⟨F₅.fn _, ?_⟩))))))))))))))
  · rw [List.getLast?_eq_getElem?, get_getD (show bs.length - 1 < bs.length by omega) []]; rfl
  obtain ⟨nz₅, hzo₅⟩ := l₅
  have u₅' := stays_trans u₃ u₅
  refine reduce3_ok (RA := LOf (LOf Th)) (RB := PR) (step := doneS) (Ok := OkD) (x₀ := [bs.getLast?.getD []]) (LOf.mono (LOf.mono Th.mono)) PR.mono F₅.wd F₅.stays r'.mono (S.push F₅ rfl) (fnI F₅.wd 197) (PlainList.up lt u₅') (PR.mono.paired u₅' pt)
    ⟨z, [y0], rfl, ⟨nz₅, hzo₅⟩, .cons (LOf.mono Th.mono _ _ _ _ u₅ hy0) .nil⟩ ⟨z, _, rfl, hzo₅, by simp, ?_⟩ ba2 (fun _ => step_done (Rm.deeper (r'.mono (d' := 3) (u' := 33)) _)) fun v₆ h₆ tk₆ I₆ D₆ hf₆ => ?_
  · intro q
    have o153 := F.wd.X 153 _ rfl
    have e := u₅' _ _ o153
    rw [← q] at e
    rw [e] at hzo₅
    have := congrArg (fun x : Option Obj => x.map Obj.cls) hzo₅
    simp at this
  have F₆ := F₅.after D₆
  have u₆ := stays_trans u₅ D₆.ext.1
  have lb : ((tsOf bs).foldl doneS [bs.getLast?.getD []]).length = bs.length := by
    have := ba1.length
    simpa using this
  refine ⟨h₆, tk₆, I₆, _, rfl, F₆, hf₆, by first | assumption | exact Nat.le_trans (by assumption) (by decide) | omega, fun v' h₇ tk₇ I₇ F₇ u₇ hv' => xSt F₇ C fun h₈ tk₈ F₈ => ?_⟩
  have u₇' := stays_trans u₆ u₇
  have uu := stays_trans u₃ u₇'
  have hf₇ := LOf.mono (LOf.mono Th.mono) _ _ _ _ u₇' hf
  have hvc₇ := LOf.mono (LOf.mono NatR.mono) _ _ _ _ uu hvc
  have c1 := fo1.counts B.lt5
  have c2 := ba1.counts B.lt5
  have lf := fo1.length
  -- the counts
  have cmp : ∀ {α : List (List Nat)}, α = α := rfl
  have turn : ∀ (xs : List (List Nat)), Alikes xs bs → ∀ d ∈ xs, d.length ≤ 10 := fun xs hx d hd => by
    obtain ⟨i, hi, e⟩ := List.getElem_of_mem hd
    have hi' : i < bs.length := by have := hx.length; omega
    obtain ⟨a, e1, e2⟩ := hx.get (get_getD hi' [])
    have : a = d := by rw [List.getElem?_eq_getElem hi, e] at e1; exact (Option.some.inj e1).symm
    subst this
    have := e2.len (B.lt5 _ (getD_mem hi' []))
    have := B.ten _ (getD_mem hi' [])
    omega
  refine sCons (sIf (tOr (tCmp (eComp0 ((psOf bs).foldl doneS [bs.getD 0 []]) cntL (LOf Th) (LOf NatR) (LOf.mono Th.mono) (LOf.mono NatR.mono) [] (fun _ q => nomatch q) (by first | assumption | exact Nat.le_trans (by assumption) (by decide) | omega) (hdot := hdot) (eName F₈ rfl
    ⟨h₈, tk₈, I₇, rfl, F₈, fun _ q => (nomatch q), SrcOf.list r'.handled F₈.stays hf₇, ?_, ?_⟩)))))
  · intro d hd v C' I' h' tk' E' ms' hv' u' F'
    exact eCallG 178 F' (aCons (eName F' rfl (aNil ⟨F'.fn _, counts_ok F'.wd F'.stays r'.mono hv' (Nat.le_trans (turn _ fo1 d hd) (by decide)) fun v h₈ tk₈ I₈ D hv8 => ⟨h₈, tk₈, I₈, rfl, F'.aft D, D.ext.1, hv8⟩⟩)))
  intro cs h₉ tk₉ I₉ F₉ u₉ hcs
  rw [c1] at hcs
  refine eName F₉ mc (cNe (LOf.eqRep NatR.eqRep NatR.uniq) (LOf.mono NatR.mono) F₉.stays r'.ule hcs (LOf.mono (LOf.mono NatR.mono) _ _ _ _ u₉ hvc₇) (vBool ?_))
  refine iteF (by simp) ?_
  have hv'₉ := LOf.mono (LOf.mono Th.mono) _ _ _ _ u₉ hv'
  refine tOr (tCmp (eComp0 ((tsOf bs).foldl doneS [bs.getLast?.getD []]).reverse cntL (LOf Th) (LOf NatR) (LOf.mono Th.mono) (LOf.mono NatR.mono) [] (fun _ q => nomatch q) (by rw [List.length_reverse]; omega) (hdot := hdot) (eName F₉ rfl
    ⟨h₉, tk₉, I₉, rfl, F₉, fun _ q => (nomatch q), SrcOf.list r'.handled F₉.stays hv'₉, ?_, ?_⟩)))
  · intro d hd v C' I' h' tk' E' ms' hv' u' F'
    exact eCallG 178 F' (aCons (eName F' rfl (aNil ⟨F'.fn _, counts_ok F'.wd F'.stays r'.mono hv' (Nat.le_trans (turn _ ba1 d hd) (by decide)) fun v h₈ tk₈ I₈ D hv8 => ⟨h₈, tk₈, I₈, rfl, F'.aft D, D.ext.1, hv8⟩⟩)))
  intro cs₂ h₁₀ tk₁₀ I₁₀ F₁₀ u₁₀ hcs₂
  rw [c2] at hcs₂
  have u₁₀' := stays_trans u₉ u₁₀
  refine eName F₁₀ mc (cNe (LOf.eqRep NatR.eqRep NatR.uniq) (LOf.mono NatR.mono) F₁₀.stays r'.ule hcs₂ (LOf.mono (LOf.mono NatR.mono) _ _ _ _ u₁₀' hvc₇) (vBool ?_))
  refine iteF (by simp) ?_
  refine tOrNil ?_
  refine iteF (by decide) ?_
  have ua := stays_trans uu u₁₀'
  refine sNil (k _ _ I₁₀ _ F₁₀ ua hdot ⟨⟨⟨vb, mb, LOf.mono (LOf.mono Th.mono) _ _ _ _ ua hvb⟩, ⟨vc, mc, LOf.mono (LOf.mono NatR.mono) _ _ _ _ ua hvc⟩, ⟨_, mp, ap, xp, rfl, PlainList.up lp ua, PR.mono.paired ua pp⟩, ⟨_, mt, at', xt, rfl, PlainList.up lt ua, PR.mono.paired ua pt⟩⟩,
    ⟨_, ⟨v, rfl, LOf.mono (LOf.mono Th.mono) _ _ _ _ u₁₀' hf₇⟩, fo1⟩, ⟨_, ⟨v', rfl, LOf.mono (LOf.mono Th.mono) _ _ _ _ u₁₀' hv'⟩, ba1⟩⟩)
end
end Mine

namespace Mine

/-! ## the patches joined -/
theorem okJ_of {x y : List Nat × List Nat} {z a c : List Nat} (hx : Pat x z a) (hy : Pat y a c) (z5 : Lt5 z) (a5 : Lt5 a) (c5 : Lt5 c) (zl : z.length ≤ 10) (al : a.length ≤ 10) (cl : c.length ≤ 10) : OkJ x y := by
  have l1 := hx.len1 z5
  have l2 := hx.len2 a5
  have l3 := hy.len1 a5
  have l4 := hy.len2 c5
  have P := pat_uld x.2 y.1
  have l5 := P.len1 (hx.lt2 a5)
  have l6 := P.len2 (hy.lt1 a5)
  exact ⟨by first | assumption | exact Nat.le_trans (by assumption) (by decide) | omega, by first | assumption | exact Nat.le_trans (by assumption) (by decide) | omega, by first | assumption | exact Nat.le_trans (by assumption) (by decide) | omega, by first | assumption | exact Nat.le_trans (by assumption) (by decide) | omega, by first | assumption | exact Nat.le_trans (by assumption) (by decide) | omega, by first | assumption | exact Nat.le_trans (by assumption) (by decide) | omega⟩
theorem joins_ok {bs : List (List Nat)} {ps : List (List Nat × List Nat)} (x : Along bs ps) (hps : ps ≠ []) (h5 : ∀ d ∈ bs, Lt5 d) (h10 : ∀ d ∈ bs, d.length ≤ 10) :
    ∃ p ps', ps = p :: ps' ∧ Pat (ps'.foldl joinP p) (bs.headD []) (bs.getLast?.getD []) ∧ ∀ i y, ps'[i]? = some y → OkJ ((ps'.take i).foldl joinP p) y := by
  cases x with
  | one a => exact absurd rfl hps
  | @more a b bs p ps hp hr =>
    refine ⟨p, ps, rfl, ?_⟩
    obtain ⟨h1, h2⟩ := along_join hr (z := a) (q := p) hp
    refine ⟨by simpa using h1, fun i y hy => ?_⟩
    obtain ⟨a', b', g1, g2, g3, g4⟩ := h2 i y hy
    exact okJ_of g1 g2 (h5 _ (.head _)) (h5 _ (.tail _ g3)) (h5 _ (.tail _ g4)) (h10 _ (.head _)) (h10 _ (.tail _ g3)) (h10 _ (.tail _ g4))
theorem backs_ok {bs : List (List Nat)} {ps : List (List Nat × List Nat)} (x : Back bs ps) (hps : ps ≠ []) (h5 : ∀ d ∈ bs, Lt5 d) (h10 : ∀ d ∈ bs, d.length ≤ 10) :
    ∃ p ps', ps = p :: ps' ∧ Pat (ps'.foldl (fun l p => joinP p l) p) (bs.getLast?.getD []) (bs.headD []) ∧ ∀ i y, ps'[i]? = some y → OkJ y ((ps'.take i).foldl (fun l p => joinP p l) p) := by
  cases x with
  | one a => exact absurd rfl hps
  | @more a b bs p ps hp hr =>
    refine ⟨p, ps, rfl, ?_⟩
    obtain ⟨h1, h2⟩ := back_join hr (z := a) (q := p) hp
    refine ⟨by simpa using h1, fun i y hy => ?_⟩
    obtain ⟨a', b', g1, g2, g3, g4⟩ := h2 i y hy
    exact okJ_of g2 g1 (h5 _ (.tail _ g4)) (h5 _ (.tail _ g3)) (h5 _ (.head _)) (h10 _ (.tail _ g4)) (h10 _ (.tail _ g3)) (h10 _ (.head _))

theorem Bags.ne {bs : List (List Nat)} (B : Bags bs) : bs ≠ [] := fun q => by have := B.two; rw [q] at this; simp at this
theorem Bags.pne {bs : List (List Nat)} (B : Bags bs) : psOf bs ≠ [] := fun q => by have := psOf_length bs; rw [q] at this; have := B.two; simp at *; omega
theorem Bags.first {bs : List (List Nat)} (_B : Bags bs) : bs.headD [] = bs.getD 0 [] := by cases bs <;> rfl
theorem Bags.last {bs : List (List Nat)} (_B : Bags bs) : bs.getLast?.getD [] = bs.getD (bs.length - 1) [] := by rw [List.getLast?_eq_getElem?, List.getD_eq_getElem?_getD]
theorem Bags.mem0 {bs : List (List Nat)} (B : Bags bs) : bs.headD [] ∈ bs := by rw [B.first]; exact getD_mem (by have := B.two; omega) _
theorem Bags.memL {bs : List (List Nat)} (B : Bags bs) : bs.getLast?.getD [] ∈ bs := by rw [B.last]; exact getD_mem (by have := B.two; omega) _

theorem end1 {bs : List (List Nat)} (B : Bags bs) : ∃ p ps', psOf bs = p :: ps' ∧ Pat (ps'.foldl joinP p) (bs.headD []) (bs.getLast?.getD []) ∧ ∀ i y, ps'[i]? = some y → OkJ ((ps'.take i).foldl joinP p) y :=
  joins_ok (along_psOf bs B.ne) B.pne B.lt5 B.ten
theorem end2 {bs : List (List Nat)} (B : Bags bs) : ∃ p ps', (psOf bs).reverse = p :: ps' ∧ Pat (ps'.foldl (fun l p => joinP p l) p) (bs.headD []) (bs.getLast?.getD []) ∧ ∀ i y, ps'[i]? = some y → OkJ y ((ps'.take i).foldl (fun l p => joinP p l) p) := by
  obtain ⟨p, ps', h1, h2, h3⟩ := backs_ok (along_psOf bs B.ne).back (by simpa using B.pne) B.rev.lt5 B.rev.ten
  refine ⟨p, ps', h1, ?_, h3⟩
  have e1 : bs.reverse.getLast?.getD [] = bs.headD [] := by rw [List.getLast?_reverse, List.headD_eq_head?_getD]
  have e2 : bs.reverse.headD [] = bs.getLast?.getD [] := by rw [List.headD_eq_head?_getD, List.head?_reverse]
  rwa [e1, e2] at h2
theorem end3 {bs : List (List Nat)} (B : Bags bs) : ∃ p ps', psOf bs ++ tsOf bs = p :: ps' ∧ ps'.foldl joinP p = ([], []) ∧ ∀ i y, ps'[i]? = some y → OkJ ((ps'.take i).foldl joinP p) y := by
  have x := along_psOf bs B.ne
  have y := x.turn
  have hl : bs.getLast? = some (bs.getLast?.getD []) := by
    rw [B.last, List.getLast?_eq_getElem?]; exact get_getD (by have := B.two; omega) _
  obtain ⟨c, cs, hc⟩ : ∃ c cs, bs.reverse = c :: cs := by
    cases h : bs.reverse with
    | nil => exact absurd (List.reverse_eq_nil_iff.mp h) B.ne
    | cons c cs => exact ⟨c, cs, rfl⟩
  have hcl : bs.getLast? = some c := by rw [← List.head?_reverse, hc]; rfl
  rw [hc] at y
  have z := x.append y hcl
  have mem : ∀ d ∈ bs ++ cs, d ∈ bs := fun d hd => by
    rcases List.mem_append.mp hd with q | q
    · exact q
    · have : d ∈ bs.reverse := by rw [hc]; exact .tail _ q
      simpa using this
  obtain ⟨p, ps', h1, h2, h3⟩ := joins_ok z (by simp [B.pne]) (fun d hd => B.lt5 d (mem d hd)) (fun d hd => B.ten d (mem d hd))
  refine ⟨p, ps', h1, ?_, h3⟩
  have e1 : (bs ++ cs).headD [] = bs.headD [] := by
    cases hb : bs with
    | nil => exact absurd hb B.ne
    | cons => rfl
  have e2 : (bs ++ cs).getLast?.getD [] = bs.headD [] := by
    have h2 := B.two
    have : cs ≠ [] := fun q => by
      have := congrArg List.length hc
      rw [q] at this; simp at this; omega
    have e3 : (bs ++ cs).getLast? = cs.getLast? := by
      rw [List.getLast?_append]
      cases h : cs.getLast? with
      | none => exact absurd (List.getLast?_eq_none_iff.mp h) this
      | some => rfl
    have e4 : (c :: cs).getLast? = cs.getLast? := by
      cases cs with
      | nil => exact absurd rfl this
      | cons => rfl
    rw [e3, ← e4, ← hc, List.getLast?_reverse, List.headD_eq_head?_getD]
  rw [e1, e2] at h2
  exact pat_nil h2

section
variable {prog : Program} {w : World} {A : Around} {E : Value → Shared → Prop} {s b : Shared} {env : Env} {fs : List Addr} {h₀ I₀ I h : Heap} {m : Str → Option Value} {ms : List (Addr × Obj)} {tk : Nat}

theorem CodeRec.up {h h' : Heap} {v : Value} {q : Str} (u : h.StaysIn h') (x : h.CodeRec v q) : h'.CodeRec v q := let ⟨c, oc, vs, t, e, hoc, hd⟩ := x; ⟨c, oc, vs, t, e, u _ _ hoc, hd⟩

theorem hist_C {bs : List (List Nat)} {L : Addr} {Q : Flow → Shared → Prop} (B : Bags bs) (F : Fm w fs h₀ I₀ I (envAt w 221 L) h m [(218, tabObj #[])]) (C : CellsNew h₀ (envAt w 221 L)) (r' : Rm (A.deeper (envAt w 221 L)) 4 45) (S : Stk A fs h₀ I₀) (hm : HB I m bs) (hdot : m ".0" = none) (BM : Bm I) (CH : CodeHd I 220 218)
    (k : ∀ h' tk' I' m' ps', Fm w fs h₀ I₀ I' (envAt w 221 L) h' m' [(218, tabObj ps')] → I.StaysIn I' → HB I' m' bs → WP (model prog w) (A.deeper (envAt w 221 L)) (execs ((bodyAt w 221).drop 11) (envAt w 221 L)) Q E (St b h' tk')) :
    WP (model prog w) (A.deeper (envAt w 221 L)) (execs ((bodyAt w 221).drop 8) (envAt w 221 L)) Q E (St b h tk) := by
  have hlen := B.six
  have hlen2 := B.two
  have np := psOf_length bs
  have nt := tsOf_length bs
  obtain ⟨⟨⟨vb, mb, hvb⟩, ⟨vc, mc, hvc⟩, ⟨vp, mp, hvp⟩, ⟨vt, mt, hvt⟩⟩, ⟨fo, ⟨vf, mf, hvf⟩, afo⟩, ⟨ba, ⟨vk, mk, hvk⟩, aba⟩⟩ := hm
  obtain ⟨ap, xp, rfl, lp, pp⟩ := id hvp
  obtain ⟨p1, q1, e1, P1, K1⟩ := end1 B
  obtain ⟨p2, q2, e2, P2, K2⟩ := end2 B
  obtain ⟨p3, q3, e3, P3, K3⟩ := end3 B
  -- ends
  refine sCons (sAssign (eList (aCons (eCallG 161 F (aCons (eGlob (.ref 204) F (aCons (eName F mp (aNil ⟨F.fn _, ?_⟩)))))))))
  refine reduce2_ok (RB := PR) (step := joinP) (Ok := OkJ) (y₀ := p1) (ys := q1) PR.mono F.wd F.stays r'.mono (S.push F rfl) (fnI F.wd 204) lp (e1 ▸ pp) K1 (fun _ => step_join (Rm.deeper (r'.mono (d' := 3) (u' := 33)) _)) fun v₁ h₁ tk₁ I₁ D₁ hv₁ => ?_
  have F₁ := F.after D₁
  have u₁ := D₁.ext.1
  refine aCons (eCallG 161 F₁ (aCons (eLam (ps := #[]) F₁ (fun _ q => nomatch q) (Bm.up u₁ BM) (CodeHd.keeps CH u₁) ?_ fun f c' pm ctv ps' h₂ tk₂ I₂ F₂ u₂ hf hcr => ?_)))
  · trivial
  have u₂' := stays_trans u₁ u₂
  have hfn : FnAt f I₂ := ⟨_, _, _, _, hf⟩
  refine aCons (eRev (b := b) (m := m) (ms := [(218, tabObj ps')]) (h₀ := h₀) (I₀ := I₀) (fs := fs) rfl PR.mono (eName F₂ mp ⟨h₂, tk₂, I₂, psOf bs, rfl, F₂, LOf.mono PR.mono _ _ _ _ u₂' hvp, by first | assumption | exact Nat.le_trans (by assumption) (by decide) | omega, fun vr h₃ tk₃ I₃ F₃ u₃ hvr => aNil ⟨F₃.fn _, ?_⟩⟩))
  obtain ⟨ar, xr, rfl, lr, pr⟩ := hvr
  have u₃' := stays_trans u₂' u₃
  refine reduce2_ok (RB := PR) (step := fun l p => joinP p l) (Ok := fun l p => OkJ p l) (y₀ := p2) (ys := q2) PR.mono F₃.wd F₃.stays r'.mono (S.push F₃ rfl) (FnAt.up u₃ hfn) lr (e2 ▸ pr) K2 (fun L' => ?_) fun v₄ h₄ tk₄ I₄ D₄ hv₄ => ?_
  · have r₂ := Rm.deeper (d := 3) (u := 40) (r'.mono (d' := 4) (u' := 43)) (envAt w 161 L')
    rintro x y vx vy I' h' tk' Q' E' ⟨g1, g2, g3, g4, g5, g6⟩ u hx hy W st S' _ K
    refine wEnterE [("later", vx), ("patch", vy)] (L' :: (envAt w 221 L).locals :: fs) W st r₂.room (fun f hf => let ⟨o, _, _, q, _⟩ := S'.dic f hf; ⟨o, q⟩) (u _ _ (u₃ _ _ hf)) (CodeRec.up u (CodeRec.up u₃ hcr)) fun L₂ h₅ tk₅ F₅ => ?_
    refine eCallG 204 F₅ (aCons (eName F₅ rfl (aCons (eName F₅ rfl (aNil ⟨F₅.fn _, ?_⟩)))))
    refine joined_ok F₅.wd F₅.stays (Rm.deeper (d := 2) (u := 30) r₂.mono _) (S'.push F₅ rfl) hy hx g1 g2 g3 g4 g5 g6 fun v h'' tk'' I'' D hv => K _ _ _ _ (F₅.after D).done hv
  have F₄ := F₃.after D₄
  have u₄ := D₄.ext.1
  refine aNil (xListI F₄ fun ze h₆ I₆ _ _ F₆ u₆ l₆ => xSt F₆ C fun h₇ tk₇ F₇ => ?_)
  have u34 := stays_trans u₃ u₄
  have u46 := stays_trans u₄ u₆
  have u16 := stays_trans u₂ (stays_trans u₃ u46)
  have u6 := stays_trans u₁ u16
  have hends : LOf PR I₆ (.ref ze) [q1.foldl joinP p1, q2.foldl (fun l p => joinP p l) p2] := ⟨ze, _, rfl, l₆, .cons (PR.mono _ _ _ _ u16 hv₁) (.cons (PR.mono _ _ _ _ u₆ hv₄) .nil)⟩
  have hvc₆ := LOf.mono (LOf.mono NatR.mono) _ _ _ _ u6 hvc
  have c1 : (bs.map cntL)[0]? = some (cntL (bs.headD [])) := by rw [List.getElem?_map, B.first, get_getD (show 0 < bs.length by omega) []]; rfl
  have c2 : (bs.map cntL).getLast? = some (cntL (bs.getLast?.getD [])) := by
    rw [List.getLast?_map, B.last, List.getLast?_eq_getElem?, get_getD (show bs.length - 1 < bs.length by omega) []]; rfl
  have z1 := B.lt5 _ B.mem0
  have z2 := B.lt5 _ B.memL
  have z3 := B.ten _ B.mem0
  have z4 := B.ten _ B.memL
  -- both ends fit
  refine sCons (sIf (tPlain (eComp1 [q1.foldl joinP p1, q2.foldl (fun l p => joinP p l) p2] (fun _ => false) (fun i => i) PR PR PR.mono PR.mono [] (fun _ q => nomatch q) (by simp) (hdot := hdot) (eName F₇ rfl
    ⟨h₇, tk₇, I₆, rfl, F₇, fun _ q => (nomatch q), SrcOf.list r'.handled F₇.stays hends, ?_, ?_⟩))))
  · intro d hd v C' I' h' tk' E' ms' hv' u' F'
    have P : Pat d (bs.headD []) (bs.getLast?.getD []) := by
      simp at hd
      rcases hd with rfl | rfl
      · exact P1
      · exact P2
    have l1 := P.len1 z1
    have l2 := P.len2 z2
    have hc := LOf.mono (LOf.mono NatR.mono) _ _ _ _ u' hvc₆
    refine tNot (tPlain (eCallG 209 F' (aCons (eName F' rfl (aCons (eSub (eName F' mc (eInt fun _ _ => xIt (j := 0) F'.stays hc c1 (by first | exact Nat.le_trans (by assumption) (by decide) | (simp; omega)) fun y2 hy2 => ?_))))))))
    refine aCons (eSub (eName F' mc (eNeg fun _ _ => xLast F'.stays hc c2 (by first | exact Nat.le_trans (by assumption) (by decide) | (simp; omega)) fun y3 hy3 => aNil ⟨F'.fn _, ?_⟩)))
    refine fits_ok F'.wd F'.stays r'.mono hv' hy2 hy3 (by first | assumption | exact Nat.le_trans (by assumption) (by decide) | omega) (by first | assumption | exact Nat.le_trans (by assumption) (by decide) | omega) (cntL_length _) (cntL_length _) (cntL_le z3) (cntL_le z4) fun h₉ tk₉ I₉ D => vBool ?_
    rw [pat_fits P z1 z2]
    exact ⟨rfl, h₉, tk₉, I₉, rfl, F'.aft D, D.ext.1, fun q => nomatch q⟩
  intro ev h₈ tk₈ I₈ F₈ u₈ hev
  have e0 : ([q1.foldl joinP p1, q2.foldl (fun l p => joinP p l) p2].filter fun _ => false) = [] := by simp
  rw [e0] at hev
  refine vListF F₈.stays hev (by simp) fun tk₉ => ?_
  refine iteF (by simp) ?_
  have u8 := stays_trans u6 u₈
  -- there and back is no patch at all
  refine sNil (sCons (sIf (tCmp (eCallG 161 F₈ (aCons (eGlob (.ref 204) F₈ (aCons (eBin (eName F₈ mp (eName F₈ mt (oCat PR.mono F₈ (LOf.mono PR.mono _ _ _ _ u8 hvp) (LOf.mono PR.mono _ _ _ _ u8 hvt) (by first | assumption | exact Nat.le_trans (by assumption) (by decide) | omega) fun zz h₁₀ I₁₀ F₁₀ u₁₀ hzz => aNil ⟨F₁₀.fn _, ?_⟩)))))))))))
  obtain ⟨az, xz, e, lz, pz⟩ := hzz
  cases e
  refine reduce2_ok (RB := PR) (step := joinP) (Ok := OkJ) (y₀ := p3) (ys := q3) PR.mono F₁₀.wd F₁₀.stays r'.mono (S.push F₁₀ rfl) (fnI F₁₀.wd 204) lz (e3 ▸ pz) K3 (fun _ => step_join (Rm.deeper (r'.mono (d' := 3) (u' := 33)) _)) fun v₁₁ h₁₁ tk₁₁ I₁₁ D₁₁ hv₁₁ => ?_
  have F₁₁ := F₁₀.after D₁₁
  have u₁₁ := stays_trans u₁₀ D₁₁.ext.1
  rw [P3] at hv₁₁
  refine eTuple (aCons (eList (aNil (xListI F₁₁ fun y1 h₁₂ I₁₂ _ _ F₁₂ u₁₂ hy1 => aCons (eList (aNil (xListI F₁₂ fun y2 h₁₃ I₁₃ _ _ F₁₃ u₁₃ hy2 => aNil (xTupleI F₁₃ fun yt h₁₄ I₁₄ _ F₁₄ u₁₄ hyt => ?_))))))))
  have u134 := stays_trans u₁₂ (stays_trans u₁₃ u₁₄)
  refine cNePR (p := ([], [])) (p' := ([], [])) F₁₄.stays r'.ule (PR.mono _ _ _ _ u134 hv₁₁) ⟨yt, _, _, rfl, hyt, ⟨y1, [], rfl, PlainList.up (PlainList.up hy1 u₁₃) u₁₄, .nil⟩, ⟨y2, [], rfl, PlainList.up hy2 u₁₄, .nil⟩⟩ (vBool ?_)
  refine iteF (by simp) ?_
  have ua := stays_trans u8 (stays_trans u₁₁ u134)
  exact sNil (k _ _ I₁₄ _ ps' F₁₄ ua ⟨⟨⟨vb, mb, LOf.mono (LOf.mono Th.mono) _ _ _ _ ua hvb⟩, ⟨vc, mc, LOf.mono (LOf.mono NatR.mono) _ _ _ _ ua hvc⟩, ⟨_, mp, LOf.mono PR.mono _ _ _ _ ua hvp⟩, ⟨_, mt, LOf.mono PR.mono _ _ _ _ ua hvt⟩⟩,
    ⟨fo, ⟨vf, mf, LOf.mono (LOf.mono Th.mono) _ _ _ _ ua hvf⟩, afo⟩, ⟨ba, ⟨vk, mk, LOf.mono (LOf.mono Th.mono) _ _ _ _ ua hvk⟩, aba⟩⟩)
end
end Mine

namespace Mine

section
variable {prog : Program} {w : World} {A : Around} {E : Value → Shared → Prop} {s b : Shared} {env : Env} {fs : List Addr} {h₀ I₀ I h : Heap} {m : Str → Option Value} {ms : List (Addr × Obj)} {tk : Nat}

/-- what the last loop reads -/
structure HD (I : Heap) (m : Str → Option Value) (bs fo ba : List (List Nat)) : Prop where
  bags : Nm I m "bags" (LOf (LOf Th)) bs
  forth : Nm I m "forth" (LOf (LOf Th)) fo
  back : Nm I m "back" (LOf (LOf Th)) ba
theorem HD.up {I I' : Heap} {m : Str → Option Value} {bs fo ba : List (List Nat)} (u : I.StaysIn I') (x : HD I m bs fo ba) : HD I' m bs fo ba :=
  ⟨x.bags.up (LOf.mono (LOf.mono Th.mono)) u, x.forth.up (LOf.mono (LOf.mono Th.mono)) u, x.back.up (LOf.mono (LOf.mono Th.mono)) u⟩
theorem alike_ten {bs fo : List (List Nat)} (B : Bags bs) (x : Alikes fo bs) {i : Nat} (hi : i < bs.length) : Alike (fo.getD i []) (bs.getD i []) ∧ (fo.getD i []).length ≤ 10 := by
  obtain ⟨a, e1, e2⟩ := x.get (get_getD hi [])
  have e : fo.getD i [] = a := by rw [List.getD_eq_getElem?_getD, e1]; rfl
  rw [e]
  have := e2.len (B.lt5 _ (getD_mem hi []))
  have := B.ten _ (getD_mem hi [])
  exact ⟨e2, by first | assumption | exact Nat.le_trans (by assumption) (by decide) | omega⟩
theorem Alike.symm {a c : List Nat} (x : Alike a c) : Alike c a := fun k => (x k).symm

theorem hist_D {bs : List (List Nat)} {L : Addr} {Q : Flow → Shared → Prop} {ps' : Array Value} (B : Bags bs) (F : Fm w fs h₀ I₀ I (envAt w 221 L) h m [(218, tabObj ps')]) (C : CellsNew h₀ (envAt w 221 L)) (r' : Rm (A.deeper (envAt w 221 L)) 4 45) (hm : HB I m bs)
    (k : ∀ h' tk' I' m', Fm w fs h₀ I₀ I' (envAt w 221 L) h' m' [(218, tabObj ps')] → Q (.ret (.bool true)) (St b h' tk')) :
    WP (model prog w) (A.deeper (envAt w 221 L)) (execs ((bodyAt w 221).drop 11) (envAt w 221 L)) Q E (St b h tk) := by
  have hlen := B.six
  have hlen2 := B.two
  obtain ⟨⟨mb, _, _, _⟩, ⟨fo, mf, afo⟩, ⟨ba, mk, aba⟩⟩ := hm
  have lfo := afo.length
  have lba := aba.length
  obtain ⟨vb, eb, hvb⟩ := id mb
  refine sCons (sFor F C (List.range bs.length) NatR NatR.mono (fun i I' m' ms' => ms' = [(218, tabObj ps')] ∧ HD I' m' bs fo ba)
    (eCallT "range" F (aCons (eCallB "len" F (aCons (eName F eb (aNil (xLen F.stays hvb (by first | assumption | exact Nat.le_trans (by assumption) (by decide) | omega) fun t₁ tk₁ => aNil (xRange (n := bs.length) F (by first | assumption | exact Nat.le_trans (by assumption) (by decide) | omega) r'.handled fun rr h₂ tk₂ F₂ src =>
      ⟨h₂, tk₂, I, _, _, rfl, F₂, src _, ⟨rfl, mb, mf, mk⟩, ?_, ?_⟩)))))))))
  · rintro i d v I' h' tk' m' ms' it o E' hd ⟨t, rfl⟩ u' F' ne' ⟨rfl, ⟨vb', mb', hvb'⟩, ⟨vf, mf', hvf⟩, ⟨vk, mk', hvk⟩⟩
    have hi : i < bs.length := by have := (List.getElem?_eq_some_iff.mp hd).1; simpa using this
    have hdi : i = d := by rw [List.getElem?_range hi] at hd; exact Option.some.inj hd
    subst hdi
    have hj : (if i = 0 then bs.length - 1 else i - 1) < bs.length := by split <;> omega
    generalize hjj : (if i = 0 then bs.length - 1 else i - 1) = j at hj
    have l1 := B.ten _ (getD_mem hj [])
    have l2 := B.ten _ (getD_mem hi [])
    obtain ⟨a1, l3⟩ := alike_ten B afo hi
    obtain ⟨a2, l4⟩ := alike_ten B aba hi
    have g1 := get_getD (show i < fo.length by omega) []
    have g2 := get_getD (show i < ba.length by omega) []
    -- one, two
    refine sCons (sTup2S F' C r'.handled (eTuple (aCons (eSub (eName F' mb' (eBin (eName F' rfl (eInt fun _ _ => oSub fun t₃ tk₃ => xItPrev F'.stays hvb' (by rw [hjj]; exact get_getD hj []) (by first | assumption | exact Nat.le_trans (by assumption) (by decide) | omega) fun y1 hy1 => ?_))))))))
    refine aCons (eSub (eName F' mb' (eName F' rfl (xIt F'.stays hvb' (get_getD hi []) (by first | assumption | exact Nat.le_trans (by assumption) (by decide) | omega) fun y2 hy2 => aNil (xTupleI F' fun tt h₄ I₄ _ F₄ u₄ ht₄ => ⟨h₄, _, I₄, _, tt, _, _, rfl, rfl, F₄, ht₄, fun h₅ tk₅ F₅ => ?_⟩)))))
    have hy1 := LOf.mono Th.mono _ _ _ _ u₄ hy1
    have hy2 := LOf.mono Th.mono _ _ _ _ u₄ hy2
    -- the rows
    refine sCons (sIf (tCmp (eCallG 152 F₅ (aCons (eName F₅ rfl (aCons (eName F₅ rfl (aNil ⟨F₅.fn _, cdiff_ok F₅.wd F₅.stays r'.mono hy1 hy2 (by first | assumption | exact Nat.le_trans (by assumption) (by decide) | omega) (by first | assumption | exact Nat.le_trans (by assumption) (by decide) | omega) fun x h₆ tk₆ I₆ D₆ hx => ?_⟩))))))))
    have F₆ := F₅.aft D₆
    refine eCallG 216 F₆ (aCons (eName F₆ rfl (aCons (eName F₆ rfl (aNil ⟨F₆.fn _, rows_ok F₆.wd F₆.stays r'.mono (LOf.mono Th.mono _ _ _ _ D₆.ext.1 hy1) (LOf.mono Th.mono _ _ _ _ D₆.ext.1 hy2) (by first | assumption | exact Nat.le_trans (by assumption) (by decide) | omega) (by first | assumption | exact Nat.le_trans (by assumption) (by decide) | omega) fun z h₇ tk₇ I₇ D₇ hz => ?_⟩)))))
    have F₇ := F₆.aft D₇
    rw [cdiff_rows] at hx
    refine cNe2 F₇.wd F₇.stays r'.ule (LOf.mono MisR.mono _ _ _ _ D₇.ext.1 hx) hz (vBool ?_)
    refine iteF (by simp) ?_
    have u₇ := stays_trans D₆.ext.1 D₇.ext.1
    have u47 := stays_trans u₄ u₇
    -- forth
    refine sNil (sCons (sIf (tOr (tCmp (eCallG 152 F₇ (aCons (eSub (eName F₇ mf' (eName F₇ rfl (xIt F₇.stays (LOf.mono (LOf.mono Th.mono) _ _ _ _ u47 hvf) g1 (by first | assumption | exact Nat.le_trans (by assumption) (by decide) | omega) fun y3 hy3 => aCons (eName F₇ rfl (aNil ⟨F₇.fn _, cdiff_ok F₇.wd F₇.stays r'.mono hy3 (LOf.mono Th.mono _ _ _ _ u₇ hy2) (by first | assumption | exact Nat.le_trans (by assumption) (by decide) | omega) (by first | assumption | exact Nat.le_trans (by assumption) (by decide) | omega) fun x₈ h₈ tk₈ I₈ D₈ hx₈ => ?_⟩))))))))))))
    have F₈ := F₇.aft D₈
    rw [cdiff_nil a1] at hx₈
    refine eList (aNil (xListI F₈ fun z₉ h₉ I₉ _ _ F₉ u₉ hz₉ => cNe2 F₉.wd F₉.stays r'.ule (LOf.mono MisR.mono _ _ _ _ u₉ hx₈) ⟨z₉, [], rfl, hz₉, .nil⟩ (vBool ?_)))
    refine iteF (by simp) ?_
    have u79 := stays_trans D₈.ext.1 u₉
    have u49 := stays_trans u47 u79
    -- back
    refine tOr (tCmp (eCallG 152 F₉ (aCons (eName F₉ rfl (aCons (eSub (eName F₉ mk' (eName F₉ rfl (xIt F₉.stays (LOf.mono (LOf.mono Th.mono) _ _ _ _ u49 hvk) g2 (by first | assumption | exact Nat.le_trans (by assumption) (by decide) | omega) fun y4 hy4 => aNil ⟨F₉.fn _, cdiff_ok F₉.wd F₉.stays r'.mono (LOf.mono Th.mono _ _ _ _ (stays_trans u₇ u79) hy2) hy4 (by first | assumption | exact Nat.le_trans (by assumption) (by decide) | omega) (by first | assumption | exact Nat.le_trans (by assumption) (by decide) | omega) fun x₁₀ h₁₀ tk₁₀ I₁₀ D₁₀ hx₁₀ => ?_⟩)))))))))
    have F₁₀ := F₉.aft D₁₀
    rw [cdiff_nil a2.symm] at hx₁₀
    refine eList (aNil (xListI F₁₀ fun z₁₁ h₁₁ I₁₁ _ _ F₁₁ u₁₁ hz₁₁ => cNe2 F₁₁.wd F₁₁.stays r'.ule (LOf.mono MisR.mono _ _ _ _ u₁₁ hx₁₀) ⟨z₁₁, [], rfl, hz₁₁, .nil⟩ (vBool ?_)))
    refine iteF (by simp) ?_
    refine tOrNil ?_
    refine iteF (by decide) ?_
    have ua := stays_trans u49 (stays_trans D₁₀.ext.1 u₁₁)
    exact sNil (sAgain ⟨h₁₁, _, I₁₁, _, _, rfl, F₁₁, ne', ua, rfl, ⟨vb', mb', LOf.mono (LOf.mono Th.mono) _ _ _ _ ua hvb'⟩, ⟨vf, mf', LOf.mono (LOf.mono Th.mono) _ _ _ _ ua hvf⟩, ⟨vk, mk', LOf.mono (LOf.mono Th.mono) _ _ _ _ ua hvk⟩⟩)
  · rintro h' tk' I' m' ms' F' u' ⟨rfl, _⟩
    exact sCons (sRet (eBool (k _ _ _ _ F')))

/-- _law_history -/
theorem history_ok {v : Value} {bs : List (List Nat)} {Q : Value → Shared → Prop} (B : Bags bs) (W : Wd w I) (st : I.StaysIn h) (BM : Bm I) (CH : CodeHd I 220 218) (r : Rm A 5 50) (S : Stk A fs h I) (hP : h.get? 218 = some (tabObj #[])) (hPI : I.get? 218 = none) (hPf : 218 ∉ fs) (hv : LOf (LOf Th) I v bs)
    (K : ∀ h' tk' I' ps, Done fs (hideAll h [218]) I h' I' → h'.get? 218 = some (tabObj ps) → I'.get? 218 = none → Q (.bool true) (St b h' tk')) :
    WP (model prog w) A (call (.ref 221) [v]) Q E (St b h tk) := by
  refine wEnter 221 [("bags", v)] fs W st r.room (fun f hf => let ⟨o, _, _, q, _⟩ := S.dic f hf; ⟨o, q⟩) (fun L h₁ tk₁ F C => ?_)
  have r' : Rm (A.deeper (envAt w 221 L)) 4 45 := Rm.deeper (d := 4) (u := 45) (r.mono (d' := 5) (u' := 48)) (envAt w 221 L)
  obtain ⟨F, C⟩ := F.lend (ls := [(218, tabObj #[])]) C (fun p hp => by
    simp at hp
    subst hp
    exact ⟨hP, hPf, hPI⟩)
  have S₀ : Stk A fs (hideAll h [218]) I := ⟨S.ex, fun f hf => let ⟨o, es, n, q, hd⟩ := S.dic f hf; ⟨o, es, n, hideAll_get _ q (by simp; exact fun z => hPf (z ▸ hf)), hd⟩, S.hid⟩
  refine hist_A B F C r' S₀ rfl hv fun h₂ tk₂ I₂ m₂ F₂ u₂ H₂ hd₂ => ?_
  refine hist_B B F₂ C r' S₀ H₂ hd₂ fun h₃ tk₃ I₃ m₃ F₃ u₃ hd₃ H₃ => ?_
  have u := stays_trans u₂ u₃
  refine hist_C B F₃ C r' S₀ H₃ hd₃ (Bm.up u BM) (CodeHd.keeps CH u) fun h₄ tk₄ I₄ m₄ ps' F₄ u₄ H₄ => ?_
  refine hist_D B F₄ C r' H₄ fun h₅ tk₅ I₅ m₅ F₅ => ⟨_, rfl, ?_⟩
  have mP := F₅.made _ (.head _)
  exact K _ _ _ ps' F₅.done mP.1 mP.2.1
end
end Mine

namespace Mine

theorem ordr_lt (n : Nat) : ∀ k ∈ ordr n, k < 5 := by
  intro k hk
  simp only [ordr, List.mem_map] at hk
  obtain ⟨j, _, rfl⟩ := hk
  exact Nat.mod_lt _ (by decide)
theorem bag0_lt (n : Nat) : Lt5 (bag0 n) := fun k hk => by
  rw [bag0, List.mem_append, List.mem_filter, List.mem_filter] at hk
  rcases hk with ⟨h, _⟩ | ⟨h, _⟩ <;> exact ordr_lt n k h
theorem bag0_len (n : Nat) : (bag0 n).length ≤ 10 := by
  have fl : ∀ p : Nat → Bool, ((ordr n).filter p).length ≤ 5 := fun p => Nat.le_trans (List.length_filter_le _ _) (by simp [ordr])
  have a := fl (fun k => decide (0 < cnt n k))
  have b := fl (fun k => cnt n k == 2)
  rw [bag0, List.length_append]; omega
theorem bagOf_lt (n : Nat) : Lt5 (bagOf n) := fun k hk => by
  unfold bagOf at hk
  split at hk
  · exact bag0_lt n k (by simpa using hk)
  · exact bag0_lt n k hk
theorem bagOf_len (n : Nat) : (bagOf n).length ≤ 10 := by
  unfold bagOf
  split
  · rw [List.length_reverse]; exact bag0_len n
  · exact bag0_len n

def script0 (xs : List Int) : List Int := if xs.isEmpty then [200, 517, 0, 1246] else xs
def numsOf (xs : List Int) : List Nat := ((script0 xs).take 4).map (fun n => (n.fmod 2430).toNat) ++ [1640, 88]
theorem numsOf_lt (xs : List Int) : ∀ n ∈ numsOf xs, n < 2430 := fun n hn => by
  simp only [numsOf, List.mem_append, List.mem_map, List.mem_cons, List.not_mem_nil, or_false] at hn
  rcases hn with ⟨k, _, rfl⟩ | rfl | rfl
  · have h1 := Int.fmod_nonneg_of_pos k (b := 2430) (by decide)
    have h2 := Int.fmod_lt_of_pos k (b := 2430) (by decide)
    omega
  · decide
  · decide
theorem numsOf_len (xs : List Int) : 2 ≤ (numsOf xs).length ∧ (numsOf xs).length ≤ 6 := by
  rw [numsOf, List.length_append, List.length_map, List.length_take]
  simp only [List.length_cons, List.length_nil]
  omega
theorem bags_ok (xs : List Int) : Bags ((numsOf xs).map bagOf) := by
  obtain ⟨h1, h2⟩ := numsOf_len xs
  refine ⟨by simpa using h1, by simpa using h2, fun d hd => ?_, fun d hd => ?_⟩
  · obtain ⟨n, _, rfl⟩ := List.mem_map.mp hd; exact bagOf_lt n
  · obtain ⟨n, _, rfl⟩ := List.mem_map.mp hd; exact bagOf_len n

theorem ints_paired {I : Heap} : ∀ {vs : List Value} {ns : List Int}, IntsAre vs ns → Paired (IntR I) vs ns
  | _, _, .nil => .nil
  | _, _, .cons n t r => .cons ⟨t, rfl⟩ (ints_paired r)
theorem ints_len : ∀ {vs : List Value} {ns : List Int}, IntsAre vs ns → vs.length = ns.length
  | _, _, .nil => rfl
  | _, _, .cons n t r => by simp [ints_len r]

section
variable {prog : Program} {w : World} {A : Around} {E : Value → Shared → Prop} {s b : Shared} {env : Env} {fs : List Addr} {h₀ I₀ I h : Heap} {m : Str → Option Value} {ms : List (Addr × Obj)} {tk : Nat}

/-- value[:4], the value a list of ints -/
theorem eTake4 {value up : Expr} {pos sp : Pos} {n : Nat} {Q : Value → Shared → Prop} (hup : up = .Constant (.int 4) n sp) {pp : Pos}
    (k : WP (model prog w) A (eval value env) (fun v s₁ => ∃ h₁ tk₁ I₁ a vs ns, v = .ref a ∧ s₁ = St b h₁ tk₁ ∧ Fm w fs h₀ I₀ I₁ env h₁ m ms ∧ I₁.IsList a vs.toArray ∧ IntsAre vs ns ∧ ns.length ≤ 1000000 ∧
      ∀ D h' tk' I', Fm w fs h₀ I₀ I' env h' m ms → I₁.StaysIn I' → LOf IntR I' (.ref D) (ns.take 4) → Q (.ref D) (St b h' tk')) E s) :
    WP (model prog w) A (eval (.Subscript value (.Slice none (some up) none pp) pos) env) Q E s := by
  subst hup
  refine eSub (WP.mono k fun v s₁ q => ?_)
  obtain ⟨h₁, tk₁, I₁, a, vs, ns, rfl, rfl, F₁, hl, hi, hb, k⟩ := q
  refine eSlice ⟨?_⟩
  refine evalPart_none_step ⟨evalPart_some_step (cInt (b := b) fun t tk₂ => ⟨evalPart_none_step ?_⟩)⟩
  have hk : ∀ b o, h₁.get? b = some o → (h₁.push { cls := .type "slice", data := .fields #[.none, .int 4 t, .none] }).get? b = some o := fun b o e => Heap.get?_push_of_some _ e
  have F₂ := F₁.keeps hk
  have hlen := ints_len hi
  refine (xPickI (b := b) (h := h₁.push { cls := .type "slice", data := .fields #[.none, .int 4 t, .none] }) F₂ (lo := none) (hi := some 4) (st := none) (IsList.up hl F₂.stays) (Heap.IsSliceOf.new h₁ _ _ _) .none (.int 4 t) .none (by decide) (by simpa using by omega) (fun D h' I' _ F' u' hD => ?_) (by with_unfolding_all rfl))
  refine k _ _ _ _ F' u' ⟨D, (slicePick vs.toArray none (some 4) none).toList, rfl, by simpa using hD, ints_paired (slice_ints_uptoW hi (by decide))⟩

/-- (script or [200, 517, 0, 1246])[:4] -/
theorem eScript {p1 p2 p3 p4 p5 p6 p7 p8 p9 p10 : Pos} {n1 n2 n3 n4 n5 : Nat} {a : Addr} {vs : List Value} {xs : List Int} {Q : Value → Shared → Prop} (F : Fm w fs h₀ I₀ I env h m ms) (hms : m "script" = some (.ref a)) (hl : I.IsList a vs.toArray) (hi : IntsAre vs xs) (hb : xs.length ≤ 1000)
    (k : ∀ D h' tk' I', Fm w fs h₀ I₀ I' env h' m ms → I.StaysIn I' → LOf IntR I' (.ref D) ((script0 xs).take 4) → Q (.ref D) (St b h' tk'))
    (hk : nameOk env "script" = true := by kernel_rfl!) :
    WP (model prog w) A (eval (.Subscript (.BoolOp .Or [.Name "script" p1, .List [.Constant (.int 200) n1 p2, .Constant (.int 517) n2 p3, .Constant (.int 0) n3 p4, .Constant (.int 1246) n4 p5] p6] p7) (.Slice none (some (.Constant (.int 4) n5 p8)) none p9) p10) env) Q E (St b h tk) := by
  have hlen := ints_len hi
  refine eTake4 (b := b) (m := m) (ms := ms) (h₀ := h₀) (I₀ := I₀) (fs := fs) rfl (eOr (eName F hms ⟨wpAny_truthy_list (s := St b h tk) (IsList.up hl F.stays) (by first | exact Nat.le_trans (by assumption) (by decide) | (simp; omega)) ?_⟩ hk))
  by_cases hx : xs = []
  · subst hx
    cases hi
    refine iteF (by simp) ?_
    refine eOne (eList (aCons (eInt (b := b) (h := h) fun t1 _ => aCons (eInt (b := b) (h := h) fun t2 _ => aCons (eInt (b := b) (h := h) fun t3 _ => aCons (eInt (b := b) (h := h) fun t4 _ => aNil (xListI F fun a' h' I' _ _ F' u' hl' => ?_)))))))
    exact ⟨h', _, I', a', _, [200, 517, 0, 1246], rfl, rfl, F', hl'.isList, .cons _ _ (.cons _ _ (.cons _ _ (.cons _ _ .nil))), by simp, fun D h₂ tk₂ I₂ F₂ u₂ hD => k D h₂ tk₂ I₂ F₂ (stays_trans u' u₂) hD⟩
  · have hv : vs ≠ [] := fun q => hx (by rw [q] at hlen; exact List.length_eq_zero_iff.mp (by simpa using hlen.symm))
    refine iteT (by simpa using hv) ?_
    refine ⟨h, _, I, a, vs, xs, rfl, rfl, F, hl, hi, by first | assumption | exact Nat.le_trans (by assumption) (by decide) | omega, fun D h₂ tk₂ I₂ F₂ u₂ hD => k D h₂ tk₂ I₂ F₂ u₂ ?_⟩
    have e : script0 xs = xs := by rw [script0, if_neg (by simpa using hx)]
    rw [e]; exact hD

noncomputable abbrev lawEnv (w : World) (L fa : Addr) (cd : Value) : Env := envOf (Str.ofString "law") (fdAt w 226).scope L fa cd

theorem law_ok {L fa a : Addr} {cd : Value} {vs : List Value} {xs : List Int} {Q : Flow → Shared → Prop} (F : Fm w [] h₀ I₀ I (lawEnv w L fa cd) h m [(218, tabObj #[])]) (C : CellsNew h₀ (lawEnv w L fa cd)) (r : Rm (A.deeper (lawEnv w L fa cd)) 6 60) (S : Stk A [] h₀ I₀) (hms : m "script" = some (.ref a)) (hdot : m ".0" = none)
    (hl : I.IsList a vs.toArray) (hi : IntsAre vs xs) (hb : xs.length ≤ 1000) (BM : Bm I) (CH : CodeHd I 220 218)
    (k : ∀ h' tk' I' m' ps, Fm w [] h₀ I₀ I' (lawEnv w L fa cd) h' m' [(218, tabObj ps)] → Q (.ret (.bool true)) (St b h' tk')) :
    WP (model prog w) (A.deeper (lawEnv w L fa cd)) (execs (bodyAt w 226) (lawEnv w L fa cd)) Q E (St b h tk) := by
  obtain ⟨z1, z2⟩ := numsOf_len xs
  have hlen := ints_len hi
  -- numbers
  refine sCons (sAssign (eBin (eComp0 ((script0 xs).take 4) (fun n => (n.fmod 2430).toNat) IntR NatR IntR.mono NatR.mono [] (fun _ q => nomatch q) (by rw [List.length_take]; omega) (hdot := hdot) (eScript F hms hl hi hb fun D h₁ tk₁ I₁ F₁ u₁ hD =>
    ⟨h₁, tk₁, I₁, rfl, F₁, fun _ q => (nomatch q), SrcOf.list r.handled F₁.stays hD, ?_, ?_⟩))))
  · intro n hn v C' I' h' tk' E' ms' hv' u' F'
    obtain ⟨t', rfl⟩ := hv'
    refine eBin (eName F' rfl (eInt fun _ _ => oMod (by decide) fun t₃ tk₃ => ⟨h', tk₃, I', rfl, F', stays_refl _, t₃, ?_⟩))
    have h1 := Int.fmod_nonneg_of_pos n (b := 2430) (by decide)
    rw [Int.toNat_of_nonneg h1]
  intro D₂ h₂ tk₂ I₂ F₂ u₂ hD₂
  refine eList (aCons (eInt fun t₃ _ => aCons (eInt fun t₄ _ => aNil (xListI F₂ fun z h₃ I₃ _ _ F₃ u₃ l₃ => ?_))))
  refine oCat NatR.mono F₃ (LOf.mono NatR.mono _ _ _ _ u₃ hD₂) (ds' := [1640, 88]) ⟨z, _, rfl, l₃, .cons ⟨t₃, rfl⟩ (.cons ⟨t₄, rfl⟩ .nil)⟩ (by rw [List.length_map, List.length_take]; simp; omega) fun D₄ h₄ I₄ F₄ u₄ hD₄ => ?_
  have hD₄ : LOf NatR I₄ (.ref D₄) (numsOf xs) := hD₄
  refine xSt F₄ C fun h₅ tk₅ F₅ => ?_
  -- bags
  refine sCons (sComp0 C (numsOf xs) bagOf NatR (LOf Th) NatR.mono (LOf.mono Th.mono) [] (fun _ q => nomatch q) (by first | assumption | exact Nat.le_trans (by assumption) (by decide) | omega) (hdot := hdot) (eName F₅ rfl
    ⟨h₅, tk₅, I₄, rfl, F₅, fun _ q => (nomatch q), SrcOf.list r.handled F₅.stays hD₄, ?_, ?_⟩))
  · intro n hn v C' I' h' tk' E' ms' hv' u' F'
    obtain ⟨t', rfl⟩ := hv'
    exact eCallG 173 F' (aCons (eName F' rfl (aNil ⟨F'.fn _, bag_ok F'.wd F'.stays r.mono (numsOf_lt xs n hn) fun v h₈ tk₈ I₈ D hv8 => ⟨h₈, tk₈, I₈, rfl, F'.aft D, D.ext.1, hv8⟩⟩)))
  intro bv h₆ tk₆ I₆ F₆ u₆ hbv
  have hD₆ := LOf.mono NatR.mono _ _ _ _ u₆ hD₄
  have ua := stays_trans u₁ (stays_trans u₂ (stays_trans u₃ (stays_trans u₄ u₆)))
  -- the history
  have S₆ := S.push F₆ rfl
  have mP := F₆.made _ (.head _)
  refine sCons (sTryN fun E' => sCons (sRet (eAnd (eCallG 221 F₆ (aCons (eName F₆ rfl (aNil ⟨F₆.fn _, ?_⟩)))))))
  refine history_ok (bags_ok xs) F₆.wd F₆.stays (Bm.up ua BM) (CodeHd.keeps CH ua) r.mono S₆ mP.1 mP.2.1 (by simpa using mP.2.2.2.1) hbv fun h₇ tk₇ I₇ ps D₇ g1 g2 => vBool ?_
  have F₇ : Fm w [] h₀ I₀ I₇ (lawEnv w L fa cd) h₇ _ [(218, tabObj ps)] := F₆.back (as := [218]) (fun x hx => by
    simp at hx
    subst hx
    exact ⟨_, .head _⟩) D₇ fun p hp => by
    simp at hp
    subst hp
    exact .inr ⟨by simp, g1, g2⟩
  refine iteT rfl ?_
  have u₇ := D₇.ext.1
  have hD₇ := LOf.mono NatR.mono _ _ _ _ u₇ hD₆
  have hbv₇ := LOf.mono (LOf.mono Th.mono) _ _ _ _ u₇ hbv
  -- the bags are as they were
  refine eOne (eCmp (eName F₇ rfl (eComp0 (numsOf xs) bagOf NatR (LOf Th) NatR.mono (LOf.mono Th.mono) [] (fun _ q => nomatch q) (by first | assumption | exact Nat.le_trans (by assumption) (by decide) | omega) (hdot := hdot) (eName F₇ rfl
    ⟨h₇, tk₇, I₇, rfl, F₇, fun _ q => (nomatch q), SrcOf.list r.handled F₇.stays hD₇, ?_, ?_⟩))))
  · intro n hn v C' I' h' tk' E' ms' hv' u' F'
    obtain ⟨t', rfl⟩ := hv'
    exact eCallG 173 F' (aCons (eName F' rfl (aNil ⟨F'.fn _, bag_ok F'.wd F'.stays r.mono (numsOf_lt xs n hn) fun v h₈ tk₈ I₈ D hv8 => ⟨h₈, tk₈, I₈, rfl, F'.aft D, D.ext.1, hv8⟩⟩)))
  intro cv h₈ tk₈ I₈ F₈ u₈ hcv
  refine cEq (LOf.eqRep Th.eqRep Th.uniq) (LOf.mono Th.mono) F₈.stays r.ule (LOf.mono (LOf.mono Th.mono) _ _ _ _ u₈ hbv₇) hcv ?_
  rw [decide_eq_true rfl]
  exact k _ _ _ _ ps F₈
end
end Mine

namespace Mine
open PySem.Challenge

theorem law_frame {w : World} {g h₁ : Heap} {L fa a : Addr} {cd : Value} {mg mb : Str → Option Value} {p : Program} {loose : List Str} {mean : ExcName → Option Value} (X' : (KK w).In g) (T' : Top p loose mean mg mb g) (F' : Fr g L h₁ (fun x => List.lookup x [(("script" : Str), Value.ref a)].reverse)) (N' : News g L h₁ [(218, tabObj #[])]) :
    Fm w [] g g g (lawEnv w L fa cd) h₁ (fun x => List.lookup x [(("script" : Str), Value.ref a)].reverse) [(218, tabObj #[])] ∧ CellsNew g (lawEnv w L fa cd) := by
  have hL : g.get? L = none := Heap.get?_none_of_le F'.above
  refine ⟨?_, ⟨fun n c hc => (nomatch hc), .nil, fun p hp => (nomatch hp)⟩⟩
  exact
    { kind := by kernel_rfl!, glob := rfl, blt := rfl, wd := ⟨X', mb, T'.b, T'.builtins⟩, stays := F'.keep, keep := Kp.of F'.keep, ext := Ext.refl _ _, fsIn := fun _ q => nomatch q
      ns := ⟨_, F'.ns, fun n v _ hv => hv⟩
      cells := (fun n c hc => nomatch hc)
      hidL := hL, hidC := (fun n c hc => nomatch hc), newL := hL
      made := fun q hq => by
        obtain ⟨n1, n2, n3⟩ := N' q hq
        exact ⟨n1, n3, n3, n2, fun n c hc => nomatch hc⟩ }

theorem law_end {w : World} {g h₁ : Heap} {L fa a : Addr} {cd : Value} {mg mb : Str → Option Value} {p : Program} {loose : List Str} {mean : ExcName → Option Value} {s₁ : Shared} {tk : Nat} {vs : List Value} {xs : List Int} {cl : Str → Option Addr} {mean' : ExcName → Option Value} {prog : Program} {E : Value → Shared → Prop}
    (X' : (KK w).In g) (T' : Top p loose mean mg mb g) (F' : Fr g L h₁ (fun x => List.lookup x [(("script" : Str), Value.ref a)].reverse)) (N' : News g L h₁ [(218, tabObj #[])]) (hl : g.IsList a vs.toArray) (hi : IntsAre vs xs) (hb : xs.length ≤ 63) (CH : CodeHd g 220 218) (hg : s₁.gens = #[]) :
    wpAny (model prog w) (callerA.deeper (lawEnv w L fa cd)) (execs (bodyAt w 226) (lawEnv w L fa cd)) (fun f s' => GoodW rw_ox0185_01.row.claim cl mean' [ofPy (PyData.list (xs.map PyData.int))]
      { heap := g, gens := s₁.gens, drawn := s₁.drawn, toks := s₁.toks, os := s₁.os } (.ok (.ret (match f with | .ret v => v | _ => .none))) s' ∧ GrownAll [(220, 218)] s'.heap) E (St s₁ h₁ tk) := by
  obtain ⟨F, C⟩ := law_frame (fa := fa) (cd := cd) X' T' F' N'
  refine (law_ok (b := s₁) (tk := tk) F C ⟨rfl, by show 1 + claimMargin + 1 + 6 < recursionLimit; decide, by show 4 + 3 + 60 < cLine; decide⟩ ⟨⟨[], rfl, fun _ q => nomatch q⟩, fun _ q => (nomatch q), fun _ q => (nomatch q)⟩ rfl rfl hl hi (by first | assumption | exact Nat.le_trans (by assumption) (by decide) | omega) ?_ CH fun h' tk' I' m' ps F₂ => ?_).run
  · obtain ⟨bm, ob, h1, h2, h3, h4⟩ := T'.bmain
    exact ⟨mg, bm, ob, T'.g, h1, h2, h3, h4⟩
  · refine ⟨⟨.inl ⟨.bool true, .bool true, [], rfl, fun _ => rfl, .bool true, by kernel_rfl!, fun _ => ⟨.nil, fun _ q => nomatch q⟩⟩, F₂.keep.exact, rfl, hg⟩, ⟨ps, (F₂.made _ (.head _)).1⟩, trivial⟩
end Mine
set_option maxHeartbeats 8000000 in
theorem PySem.Challenge.cw_ox0185_01_holds : PySem.Challenge.rw_ox0185_01.Holds := by
  refine Mine.hd ?_
  k_go0
  rename_i X' T' K' F' N' l0
  refine Mine.law_end X' T' F' N' ‹_› ‹IntsAre _ _› ?_ ‹CodeHd _ _ _› ‹_›
  omega
