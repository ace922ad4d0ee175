import PyProof.Rows.All
import Wide.All
import OpenK.AllK
import Wide.FinOn
import PySem.Challenge.RW_kt0061_02
set_option Elab.async false
set_option linter.all false
set_option compiler.extract_closed false
set_option genInjectivity false
set_option genSizeOfSpec false
local macro_rules | `(tactic| walk_at "zo") => `(tactic| first | assumption | exact Nat.le_refl _ | exact Nat.le_add_right _ _ | exact Nat.le_add_left _ _ | exact Nat.succ_le_of_lt (by assumption) | exact Nat.le_of_lt (by assumption) | exact Nat.le_of_eq (by assumption) | exact (Int.zero_add _).trans (Int.mul_one _) | exact Nat.add_le_add_left (Nat.le_of_ble_eq_true rfl) _ | (apply Nat.le_trans; assumption; exact Nat.le_of_ble_eq_true rfl) | (apply Nat.le_trans; exact Nat.le_of_lt (by assumption); exact Nat.le_of_ble_eq_true rfl) | (apply Nat.le_trans; exact Nat.le_of_eq (by assumption); exact Nat.le_of_ble_eq_true rfl) | (apply Nat.le_trans; exact Nat.le_of_eq (by assumption); apply Nat.le_trans; assumption; exact Nat.le_of_ble_eq_true rfl) | (apply Nat.lt_of_le_of_lt; assumption; exact Nat.le_of_ble_eq_true rfl) | (apply Nat.lt_of_le_of_lt; exact Nat.le_of_eq (by assumption); exact Nat.le_of_ble_eq_true rfl) | lia | omega)
section
open PySem PySem.W PyProof.Rows
set_option Elab.async false
set_option maxRecDepth 100000
namespace Mine.Tactic
noncomputable abbrev pgm : Program := PySem.Challenge.pw_kt0061_02
noncomputable abbrev rowL : OpenRow := PySem.Challenge.rw_kt0061_02.row
noncomputable def topSt (i : Nat) : Stmt := pgm.main.body.getD i (.Pass default)
noncomputable def inCls (i j : Nat) : Stmt := match topSt i with
  | .ClassDef _ _ _ body .. => body.getD j (.Pass default)
  | _ => .Pass default
noncomputable def fnO (st : Stmt) (q : Str) (dv kv pm cd : Value) : Obj := match st with
  | .FunctionDef name args body _ _ _ scope .. => { cls := .type "function", data := .func { name, qualname := q, params := args, body := .stmts body, scope, globals := 3, closure := [], defaults := dv, kwdefaults := kv, pyModule := pm, code := cd } }
  | _ => default
noncomputable def Kp (P : Params) : Frag := [
  (3, { cls := Value.type "dict", data := Data.dict #[{ hash := PyData.keyHash P (Str.ofString "__name__"), key := Value.str (Str.ofString "__name__") 165, val := Value.str (Str.ofString "law_kt0061_02") 791 }, { hash := PyData.keyHash P (Str.ofString "__doc__"), key := Value.str (Str.ofString "__doc__") 166, val := Value.none }, { hash := PyData.keyHash P (Str.ofString "__package__"), key := Value.str (Str.ofString "__package__") 167, val := Value.none }, { hash := PyData.keyHash P (Str.ofString "__loader__"), key := Value.str (Str.ofString "__loader__") 168, val := Value.builtin "__main__.__loader__#opaque" }, { hash := PyData.keyHash P (Str.ofString "__spec__"), key := Value.str (Str.ofString "__spec__") 169, val := Value.none }, { hash := PyData.keyHash P (Str.ofString "__annotations__"), key := Value.str (Str.ofString "__annotations__") 170, val := Value.ref 6 }, { hash := PyData.keyHash P (Str.ofString "__builtins__"), key := Value.str (Str.ofString "__builtins__") 171, val := Value.ref 4 }, { hash := PyData.keyHash P (Str.ofString "__file__"), key := Value.str (Str.ofString "__file__") 173, val := Value.str (Str.ofString "/claim/cut.py") 172 }, { hash := PyData.keyHash P (Str.ofString "__cached__"), key := Value.str (Str.ofString "__cached__") 174, val := Value.none }, { hash := PyData.keyHash P (Str.ofString "_sre"), key := Value.str (Str.ofString "_sre") 275, val := Value.ref 12 }, { hash := PyData.keyHash P (Str.ofString "_wall"), key := Value.str (Str.ofString "_wall") 288, val := Value.ref 38 }, { hash := PyData.keyHash P (Str.ofString "_name_disallowed_re"), key := Value.str (Str.ofString "_name_disallowed_re") 316, val := Value.ref 43 }, { hash := PyData.keyHash P (Str.ofString "_value_disallowed_re"), key := Value.str (Str.ofString "_value_disallowed_re") 350, val := Value.ref 48 }, { hash := PyData.keyHash P (Str.ofString "Headers"), key := Value.str (Str.ofString "Headers") 507, val := Value.ref 171 }, { hash := PyData.keyHash P (Str.ofString "_twin_re_1"), key := Value.str (Str.ofString "_twin_re_1") 547, val := Value.ref 180 }, { hash := PyData.keyHash P (Str.ofString "translate"), key := Value.str (Str.ofString "translate") 556, val := Value.ref 187 }, { hash := PyData.keyHash P (Str.ofString "_special_chars_map"), key := Value.str (Str.ofString "_special_chars_map") 704, val := Value.ref 189 }, { hash := PyData.keyHash P (Str.ofString "escape"), key := Value.str (Str.ofString "escape") 711, val := Value.ref 199 }, { hash := PyData.keyHash P (Str.ofString "_translate"), key := Value.str (Str.ofString "_translate") 732, val := Value.ref 206 }, { hash := PyData.keyHash P (Str.ofString "_join_translated_parts"), key := Value.str (Str.ofString "_join_translated_parts") 745, val := Value.ref 213 }, { hash := PyData.keyHash P (Str.ofString "heappop"), key := Value.str (Str.ofString "heappop") 756, val := Value.ref 220 }, { hash := PyData.keyHash P (Str.ofString "heapify"), key := Value.str (Str.ofString "heapify") 765, val := Value.ref 227 }, { hash := PyData.keyHash P (Str.ofString "_siftdown"), key := Value.str (Str.ofString "_siftdown") 777, val := Value.ref 234 }, { hash := PyData.keyHash P (Str.ofString "_siftup"), key := Value.str (Str.ofString "_siftup") 790, val := Value.ref 241 }, { hash := PyData.keyHash P (Str.ofString "_law_signs"), key := Value.str (Str.ofString "_law_signs") 802, val := Value.ref 248 }, { hash := PyData.keyHash P (Str.ofString "_law_takes"), key := Value.str (Str.ofString "_law_takes") 808, val := Value.ref 253 }, { hash := PyData.keyHash P (Str.ofString "_law_shares"), key := Value.str (Str.ofString "_law_shares") 814, val := Value.ref 258 }, { hash := PyData.keyHash P (Str.ofString "_law_linked"), key := Value.str (Str.ofString "_law_linked") 820, val := Value.ref 263 }, { hash := PyData.keyHash P (Str.ofString "_law_best"), key := Value.str (Str.ofString "_law_best") 826, val := Value.ref 268 }, { hash := PyData.keyHash P (Str.ofString "_law_stand"), key := Value.str (Str.ofString "_law_stand") 832, val := Value.ref 273 }, { hash := PyData.keyHash P (Str.ofString "law"), key := Value.str (Str.ofString "law") 838, val := Value.ref 278 }] 31 }),
  (32, { cls := Value.type "tuple", data := Data.seq #[] }),
  (34, { cls := Value.type "tuple", data := Data.seq #[Value.str (Str.ofString "k") 285] }),
  (35, { cls := Value.type "tuple", data := Data.seq #[] }),
  (37, { cls := Value.type "code", data := Data.fields #[Value.str (Str.ofString "_wall") 282, Value.str (Str.ofString "_wall") 283, Value.str (Str.ofString "/claim/cut.py") 284, Value.int 2 0, Value.int 1 0, Value.int 0 0, Value.int 0 0, Value.int 3 0, Value.ref 32, Value.bool true, Value.int 276 0, Value.ref 33, Value.none, Value.ref 34, Value.ref 35, Value.ref 36, Value.int 286 0, Value.int 2 0, Value.str (Str.ofString "/claim/cut.py") 287] }),
  (38, fnO (topSt 1) (Str.ofString "_wall") (Value.none) (Value.none) (Value.str (Str.ofString "__main__") 164) (Value.ref 37)),
  (42, { cls := Value.type "tuple", data := Data.seq #[Value.int 14 0, Value.int 10 0, Value.int 4 0, Value.int 1 0, Value.int 1 0, Value.int 22 0, Value.int 0 0, Value.int 31 0, Value.int 16 0, Value.int 127 0, Value.int 0 0, Value.int 13 0, Value.int 7 0, Value.int 22 0, Value.int 0 0, Value.int 31 0, Value.int 16 0, Value.int 127 0, Value.int 0 0, Value.int 1 0] }),
  (43, { cls := Value.type "re.Pattern", data := Data.fields #[Value.str (Str.ofString "[\\x00-\\x1F\\x7F]") 292, Value.int 32 315, Value.int 0 0, Value.none, Value.none, Value.ref 42, Value.int 0 0] }),
  (47, { cls := Value.type "tuple", data := Data.seq #[Value.int 14 0, Value.int 14 0, Value.int 4 0, Value.int 1 0, Value.int 1 0, Value.int 9 0, Value.int 4294966783 0, Value.int 0 0, Value.int 0 0, Value.int 2147483648 0, Value.int 0 0, Value.int 0 0, Value.int 0 0, Value.int 0 0, Value.int 0 0, Value.int 13 0, Value.int 11 0, Value.int 9 0, Value.int 4294966783 0, Value.int 0 0, Value.int 0 0, Value.int 2147483648 0, Value.int 0 0, Value.int 0 0, Value.int 0 0, Value.int 0 0, Value.int 0 0, Value.int 1 0] }),
  (48, { cls := Value.type "re.Pattern", data := Data.fields #[Value.str (Str.ofString "[\\x00-\\x08\\x0A-\\x1F\\x7F]") 318, Value.int 32 349, Value.int 0 0, Value.none, Value.none, Value.ref 47, Value.int 0 0] }),
  (56, { cls := Value.type "tuple", data := Data.seq #[Value.none] }),
  (57, { cls := Value.type "tuple", data := Data.seq #[] }),
  (59, { cls := Value.type "tuple", data := Data.seq #[Value.str (Str.ofString "self") 366, Value.str (Str.ofString "headers") 367, Value.str (Str.ofString "k") 368, Value.str (Str.ofString "v") 369] }),
  (60, { cls := Value.type "tuple", data := Data.seq #[] }),
  (62, { cls := Value.type "code", data := Data.fields #[Value.str (Str.ofString "__init__") 363, Value.str (Str.ofString "Headers.__init__") 364, Value.str (Str.ofString "/claim/cut.py") 365, Value.int 10 0, Value.int 2 0, Value.int 0 0, Value.int 0 0, Value.int 3 0, Value.ref 57, Value.bool true, Value.int 276 0, Value.ref 58, Value.none, Value.ref 59, Value.ref 60, Value.ref 61, Value.int 370 0, Value.int 10 0, Value.str (Str.ofString "/claim/cut.py") 371] }),
  (63, fnO (inCls 5 0) (Str.ofString "Headers.__init__") (Value.ref 56) (Value.none) (Value.str (Str.ofString "cpy313.wsgiref.headers") 289) (Value.ref 62)),
  (64, { cls := Value.type "tuple", data := Data.seq #[] }),
  (66, { cls := Value.type "tuple", data := Data.seq #[Value.str (Str.ofString "self") 376, Value.str (Str.ofString "value") 377, Value.str (Str.ofString "name") 378, Value.str (Str.ofString "regex") 379] }),
  (67, { cls := Value.type "tuple", data := Data.seq #[] }),
  (69, { cls := Value.type "code", data := Data.fields #[Value.str (Str.ofString "_convert_string_type") 373, Value.str (Str.ofString "Headers._convert_string_type") 374, Value.str (Str.ofString "/claim/cut.py") 375, Value.int 20 0, Value.int 2 0, Value.int 0 0, Value.int 1 0, Value.int 3 0, Value.ref 64, Value.bool true, Value.int 276 0, Value.ref 65, Value.none, Value.ref 66, Value.ref 67, Value.ref 68, Value.int 380 0, Value.int 20 0, Value.str (Str.ofString "/claim/cut.py") 381] }),
  (70, fnO (inCls 5 1) (Str.ofString "Headers._convert_string_type") (Value.none) (Value.none) (Value.str (Str.ofString "cpy313.wsgiref.headers") 289) (Value.ref 69)),
  (71, { cls := Value.type "tuple", data := Data.seq #[] }),
  (73, { cls := Value.type "tuple", data := Data.seq #[Value.str (Str.ofString "self") 386] }),
  (74, { cls := Value.type "tuple", data := Data.seq #[] }),
  (76, { cls := Value.type "code", data := Data.fields #[Value.str (Str.ofString "__len__") 383, Value.str (Str.ofString "Headers.__len__") 384, Value.str (Str.ofString "/claim/cut.py") 385, Value.int 28 0, Value.int 1 0, Value.int 0 0, Value.int 0 0, Value.int 3 0, Value.ref 71, Value.bool true, Value.int 276 0, Value.ref 72, Value.none, Value.ref 73, Value.ref 74, Value.ref 75, Value.int 387 0, Value.int 28 0, Value.str (Str.ofString "/claim/cut.py") 388] }),
  (77, fnO (inCls 5 2) (Str.ofString "Headers.__len__") (Value.none) (Value.none) (Value.str (Str.ofString "cpy313.wsgiref.headers") 289) (Value.ref 76)),
  (78, { cls := Value.type "tuple", data := Data.seq #[] }),
  (80, { cls := Value.type "tuple", data := Data.seq #[Value.str (Str.ofString "self") 393, Value.str (Str.ofString "name") 394, Value.str (Str.ofString "val") 395] }),
  (81, { cls := Value.type "tuple", data := Data.seq #[] }),
  (83, { cls := Value.type "code", data := Data.fields #[Value.str (Str.ofString "__setitem__") 390, Value.str (Str.ofString "Headers.__setitem__") 391, Value.str (Str.ofString "/claim/cut.py") 392, Value.int 31 0, Value.int 3 0, Value.int 0 0, Value.int 0 0, Value.int 3 0, Value.ref 78, Value.bool true, Value.int 276 0, Value.ref 79, Value.none, Value.ref 80, Value.ref 81, Value.ref 82, Value.int 396 0, Value.int 31 0, Value.str (Str.ofString "/claim/cut.py") 397] }),
  (84, fnO (inCls 5 3) (Str.ofString "Headers.__setitem__") (Value.none) (Value.none) (Value.str (Str.ofString "cpy313.wsgiref.headers") 289) (Value.ref 83)),
  (85, { cls := Value.type "tuple", data := Data.seq #[] }),
  (88, { cls := Value.type "code", data := Data.fields #[Value.str (Str.ofString "__delitem__") 399, Value.str (Str.ofString "Headers.__delitem__") 400, Value.str (Str.ofString "/claim/cut.py") 401, Value.int 35 0, Value.int 2 0, Value.int 0 0, Value.int 0 0, Value.int 3 0, Value.ref 85, Value.bool true, Value.int 276 0, Value.ref 86, Value.none, Value.none, Value.none, Value.ref 87, Value.int 402 0, Value.int 35 0, Value.str (Str.ofString "/claim/cut.py") 403] }),
  (89, fnO (inCls 5 4) (Str.ofString "Headers.__delitem__") (Value.none) (Value.none) (Value.str (Str.ofString "cpy313.wsgiref.headers") 289) (Value.ref 88)),
  (90, { cls := Value.type "tuple", data := Data.seq #[] }),
  (92, { cls := Value.type "tuple", data := Data.seq #[Value.str (Str.ofString "self") 408, Value.str (Str.ofString "name") 409] }),
  (93, { cls := Value.type "tuple", data := Data.seq #[] }),
  (95, { cls := Value.type "code", data := Data.fields #[Value.str (Str.ofString "__getitem__") 405, Value.str (Str.ofString "Headers.__getitem__") 406, Value.str (Str.ofString "/claim/cut.py") 407, Value.int 39 0, Value.int 2 0, Value.int 0 0, Value.int 0 0, Value.int 3 0, Value.ref 90, Value.bool true, Value.int 276 0, Value.ref 91, Value.none, Value.ref 92, Value.ref 93, Value.ref 94, Value.int 410 0, Value.int 39 0, Value.str (Str.ofString "/claim/cut.py") 411] }),
  (96, fnO (inCls 5 5) (Str.ofString "Headers.__getitem__") (Value.none) (Value.none) (Value.str (Str.ofString "cpy313.wsgiref.headers") 289) (Value.ref 95)),
  (97, { cls := Value.type "tuple", data := Data.seq #[] }),
  (99, { cls := Value.type "tuple", data := Data.seq #[Value.str (Str.ofString "self") 416, Value.str (Str.ofString "name") 417] }),
  (100, { cls := Value.type "tuple", data := Data.seq #[] }),
  (102, { cls := Value.type "code", data := Data.fields #[Value.str (Str.ofString "__contains__") 413, Value.str (Str.ofString "Headers.__contains__") 414, Value.str (Str.ofString "/claim/cut.py") 415, Value.int 42 0, Value.int 2 0, Value.int 0 0, Value.int 0 0, Value.int 3 0, Value.ref 97, Value.bool true, Value.int 276 0, Value.ref 98, Value.none, Value.ref 99, Value.ref 100, Value.ref 101, Value.int 418 0, Value.int 42 0, Value.str (Str.ofString "/claim/cut.py") 419] }),
  (103, fnO (inCls 5 6) (Str.ofString "Headers.__contains__") (Value.none) (Value.none) (Value.str (Str.ofString "cpy313.wsgiref.headers") 289) (Value.ref 102)),
  (104, { cls := Value.type "tuple", data := Data.seq #[] }),
  (106, { cls := Value.type "tuple", data := Data.seq #[Value.str (Str.ofString "self") 424, Value.str (Str.ofString "name") 425] }),
  (107, { cls := Value.type "tuple", data := Data.seq #[] }),
  (109, { cls := Value.type "code", data := Data.fields #[Value.str (Str.ofString "get_all") 421, Value.str (Str.ofString "Headers.get_all") 422, Value.str (Str.ofString "/claim/cut.py") 423, Value.int 45 0, Value.int 2 0, Value.int 0 0, Value.int 0 0, Value.int 3 0, Value.ref 104, Value.bool true, Value.int 276 0, Value.ref 105, Value.none, Value.ref 106, Value.ref 107, Value.ref 108, Value.int 426 0, Value.int 45 0, Value.str (Str.ofString "/claim/cut.py") 427] }),
  (110, fnO (inCls 5 7) (Str.ofString "Headers.get_all") (Value.none) (Value.none) (Value.str (Str.ofString "cpy313.wsgiref.headers") 289) (Value.ref 109)),
  (111, { cls := Value.type "tuple", data := Data.seq #[Value.none] }),
  (112, { cls := Value.type "tuple", data := Data.seq #[] }),
  (114, { cls := Value.type "tuple", data := Data.seq #[Value.str (Str.ofString "self") 432, Value.str (Str.ofString "name") 433, Value.str (Str.ofString "default") 434, Value.str (Str.ofString "k") 435, Value.str (Str.ofString "v") 436] }),
  (115, { cls := Value.type "tuple", data := Data.seq #[] }),
  (117, { cls := Value.type "code", data := Data.fields #[Value.str (Str.ofString "get") 429, Value.str (Str.ofString "Headers.get") 430, Value.str (Str.ofString "/claim/cut.py") 431, Value.int 48 0, Value.int 3 0, Value.int 0 0, Value.int 0 0, Value.int 3 0, Value.ref 112, Value.bool true, Value.int 276 0, Value.ref 113, Value.none, Value.ref 114, Value.ref 115, Value.ref 116, Value.int 437 0, Value.int 48 0, Value.str (Str.ofString "/claim/cut.py") 438] }),
  (118, fnO (inCls 5 8) (Str.ofString "Headers.get") (Value.ref 111) (Value.none) (Value.str (Str.ofString "cpy313.wsgiref.headers") 289) (Value.ref 117)),
  (119, { cls := Value.type "tuple", data := Data.seq #[] }),
  (122, { cls := Value.type "code", data := Data.fields #[Value.str (Str.ofString "keys") 440, Value.str (Str.ofString "Headers.keys") 441, Value.str (Str.ofString "/claim/cut.py") 442, Value.int 55 0, Value.int 1 0, Value.int 0 0, Value.int 0 0, Value.int 3 0, Value.ref 119, Value.bool true, Value.int 276 0, Value.ref 120, Value.none, Value.none, Value.none, Value.ref 121, Value.int 443 0, Value.int 55 0, Value.str (Str.ofString "/claim/cut.py") 444] }),
  (123, fnO (inCls 5 9) (Str.ofString "Headers.keys") (Value.none) (Value.none) (Value.str (Str.ofString "cpy313.wsgiref.headers") 289) (Value.ref 122)),
  (124, { cls := Value.type "tuple", data := Data.seq #[] }),
  (127, { cls := Value.type "code", data := Data.fields #[Value.str (Str.ofString "values") 446, Value.str (Str.ofString "Headers.values") 447, Value.str (Str.ofString "/claim/cut.py") 448, Value.int 58 0, Value.int 1 0, Value.int 0 0, Value.int 0 0, Value.int 3 0, Value.ref 124, Value.bool true, Value.int 276 0, Value.ref 125, Value.none, Value.none, Value.none, Value.ref 126, Value.int 449 0, Value.int 58 0, Value.str (Str.ofString "/claim/cut.py") 450] }),
  (128, fnO (inCls 5 10) (Str.ofString "Headers.values") (Value.none) (Value.none) (Value.str (Str.ofString "cpy313.wsgiref.headers") 289) (Value.ref 127)),
  (129, { cls := Value.type "tuple", data := Data.seq #[] }),
  (131, { cls := Value.type "tuple", data := Data.seq #[Value.str (Str.ofString "self") 455] }),
  (132, { cls := Value.type "tuple", data := Data.seq #[] }),
  (134, { cls := Value.type "code", data := Data.fields #[Value.str (Str.ofString "items") 452, Value.str (Str.ofString "Headers.items") 453, Value.str (Str.ofString "/claim/cut.py") 454, Value.int 61 0, Value.int 1 0, Value.int 0 0, Value.int 0 0, Value.int 3 0, Value.ref 129, Value.bool true, Value.int 276 0, Value.ref 130, Value.none, Value.ref 131, Value.ref 132, Value.ref 133, Value.int 456 0, Value.int 61 0, Value.str (Str.ofString "/claim/cut.py") 457] }),
  (135, fnO (inCls 5 11) (Str.ofString "Headers.items") (Value.none) (Value.none) (Value.str (Str.ofString "cpy313.wsgiref.headers") 289) (Value.ref 134)),
  (136, { cls := Value.type "tuple", data := Data.seq #[] }),
  (138, { cls := Value.type "tuple", data := Data.seq #[Value.str (Str.ofString "self") 462] }),
  (139, { cls := Value.type "tuple", data := Data.seq #[] }),
  (141, { cls := Value.type "code", data := Data.fields #[Value.str (Str.ofString "__repr__") 459, Value.str (Str.ofString "Headers.__repr__") 460, Value.str (Str.ofString "/claim/cut.py") 461, Value.int 64 0, Value.int 1 0, Value.int 0 0, Value.int 0 0, Value.int 3 0, Value.ref 136, Value.bool true, Value.int 276 0, Value.ref 137, Value.none, Value.ref 138, Value.ref 139, Value.ref 140, Value.int 463 0, Value.int 64 0, Value.str (Str.ofString "/claim/cut.py") 464] }),
  (142, fnO (inCls 5 12) (Str.ofString "Headers.__repr__") (Value.none) (Value.none) (Value.str (Str.ofString "cpy313.wsgiref.headers") 289) (Value.ref 141)),
  (143, { cls := Value.type "tuple", data := Data.seq #[] }),
  (146, { cls := Value.type "code", data := Data.fields #[Value.str (Str.ofString "__str__") 466, Value.str (Str.ofString "Headers.__str__") 467, Value.str (Str.ofString "/claim/cut.py") 468, Value.int 67 0, Value.int 1 0, Value.int 0 0, Value.int 0 0, Value.int 3 0, Value.ref 143, Value.bool true, Value.int 276 0, Value.ref 144, Value.none, Value.none, Value.none, Value.ref 145, Value.int 469 0, Value.int 67 0, Value.str (Str.ofString "/claim/cut.py") 470] }),
  (147, fnO (inCls 5 13) (Str.ofString "Headers.__str__") (Value.none) (Value.none) (Value.str (Str.ofString "cpy313.wsgiref.headers") 289) (Value.ref 146)),
  (148, { cls := Value.type "tuple", data := Data.seq #[] }),
  (150, { cls := Value.type "tuple", data := Data.seq #[Value.str (Str.ofString "self") 475] }),
  (151, { cls := Value.type "tuple", data := Data.seq #[] }),
  (153, { cls := Value.type "code", data := Data.fields #[Value.str (Str.ofString "__bytes__") 472, Value.str (Str.ofString "Headers.__bytes__") 473, Value.str (Str.ofString "/claim/cut.py") 474, Value.int 70 0, Value.int 1 0, Value.int 0 0, Value.int 0 0, Value.int 3 0, Value.ref 148, Value.bool true, Value.int 276 0, Value.ref 149, Value.none, Value.ref 150, Value.ref 151, Value.ref 152, Value.int 476 0, Value.int 70 0, Value.str (Str.ofString "/claim/cut.py") 477] }),
  (154, fnO (inCls 5 14) (Str.ofString "Headers.__bytes__") (Value.none) (Value.none) (Value.str (Str.ofString "cpy313.wsgiref.headers") 289) (Value.ref 153)),
  (155, { cls := Value.type "tuple", data := Data.seq #[] }),
  (157, { cls := Value.type "tuple", data := Data.seq #[Value.str (Str.ofString "self") 482, Value.str (Str.ofString "name") 483, Value.str (Str.ofString "value") 484, Value.str (Str.ofString "result") 485] }),
  (158, { cls := Value.type "tuple", data := Data.seq #[] }),
  (160, { cls := Value.type "code", data := Data.fields #[Value.str (Str.ofString "setdefault") 479, Value.str (Str.ofString "Headers.setdefault") 480, Value.str (Str.ofString "/claim/cut.py") 481, Value.int 73 0, Value.int 3 0, Value.int 0 0, Value.int 0 0, Value.int 3 0, Value.ref 155, Value.bool true, Value.int 276 0, Value.ref 156, Value.none, Value.ref 157, Value.ref 158, Value.ref 159, Value.int 486 0, Value.int 73 0, Value.str (Str.ofString "/claim/cut.py") 487] }),
  (161, fnO (inCls 5 15) (Str.ofString "Headers.setdefault") (Value.none) (Value.none) (Value.str (Str.ofString "cpy313.wsgiref.headers") 289) (Value.ref 160)),
  (162, { cls := Value.type "tuple", data := Data.seq #[] }),
  (164, { cls := Value.type "tuple", data := Data.seq #[Value.str (Str.ofString "self") 492, Value.str (Str.ofString "_name") 493, Value.str (Str.ofString "_value") 494, Value.str (Str.ofString "_params") 495] }),
  (165, { cls := Value.type "tuple", data := Data.seq #[] }),
  (167, { cls := Value.type "code", data := Data.fields #[Value.str (Str.ofString "add_header") 489, Value.str (Str.ofString "Headers.add_header") 490, Value.str (Str.ofString "/claim/cut.py") 491, Value.int 81 0, Value.int 3 0, Value.int 0 0, Value.int 0 0, Value.int 11 0, Value.ref 162, Value.bool true, Value.int 276 0, Value.ref 163, Value.none, Value.ref 164, Value.ref 165, Value.ref 166, Value.int 496 0, Value.int 81 0, Value.str (Str.ofString "/claim/cut.py") 497] }),
  (168, fnO (inCls 5 16) (Str.ofString "Headers.add_header") (Value.none) (Value.none) (Value.str (Str.ofString "cpy313.wsgiref.headers") 289) (Value.ref 167)),
  (169, { cls := Value.type "tuple", data := Data.seq #[Value.str (Str.ofString "_headers") 499] }),
  (170, { cls := Value.type "dict", data := Data.dict #[{ hash := PyData.keyHash P (Str.ofString "__module__"), key := Value.str (Str.ofString "__module__") 358, val := Value.str (Str.ofString "cpy313.wsgiref.headers") 289 }, { hash := PyData.keyHash P (Str.ofString "__firstlineno__"), key := Value.str (Str.ofString "__firstlineno__") 362, val := Value.int 8 361 }, { hash := PyData.keyHash P (Str.ofString "__init__"), key := Value.str (Str.ofString "__init__") 372, val := Value.ref 63 }, { hash := PyData.keyHash P (Str.ofString "_convert_string_type"), key := Value.str (Str.ofString "_convert_string_type") 382, val := Value.ref 70 }, { hash := PyData.keyHash P (Str.ofString "__len__"), key := Value.str (Str.ofString "__len__") 389, val := Value.ref 77 }, { hash := PyData.keyHash P (Str.ofString "__setitem__"), key := Value.str (Str.ofString "__setitem__") 398, val := Value.ref 84 }, { hash := PyData.keyHash P (Str.ofString "__delitem__"), key := Value.str (Str.ofString "__delitem__") 404, val := Value.ref 89 }, { hash := PyData.keyHash P (Str.ofString "__getitem__"), key := Value.str (Str.ofString "__getitem__") 412, val := Value.ref 96 }, { hash := PyData.keyHash P (Str.ofString "__contains__"), key := Value.str (Str.ofString "__contains__") 420, val := Value.ref 103 }, { hash := PyData.keyHash P (Str.ofString "get_all"), key := Value.str (Str.ofString "get_all") 428, val := Value.ref 110 }, { hash := PyData.keyHash P (Str.ofString "get"), key := Value.str (Str.ofString "get") 439, val := Value.ref 118 }, { hash := PyData.keyHash P (Str.ofString "keys"), key := Value.str (Str.ofString "keys") 445, val := Value.ref 123 }, { hash := PyData.keyHash P (Str.ofString "values"), key := Value.str (Str.ofString "values") 451, val := Value.ref 128 }, { hash := PyData.keyHash P (Str.ofString "items"), key := Value.str (Str.ofString "items") 458, val := Value.ref 135 }, { hash := PyData.keyHash P (Str.ofString "__repr__"), key := Value.str (Str.ofString "__repr__") 465, val := Value.ref 142 }, { hash := PyData.keyHash P (Str.ofString "__str__"), key := Value.str (Str.ofString "__str__") 471, val := Value.ref 147 }, { hash := PyData.keyHash P (Str.ofString "__bytes__"), key := Value.str (Str.ofString "__bytes__") 478, val := Value.ref 154 }, { hash := PyData.keyHash P (Str.ofString "setdefault"), key := Value.str (Str.ofString "setdefault") 488, val := Value.ref 161 }, { hash := PyData.keyHash P (Str.ofString "add_header"), key := Value.str (Str.ofString "add_header") 498, val := Value.ref 168 }, { hash := PyData.keyHash P (Str.ofString "__static_attributes__"), key := Value.str (Str.ofString "__static_attributes__") 500, val := Value.ref 169 }, { hash := PyData.keyHash P (Str.ofString "__dict__"), key := Value.str (Str.ofString "__dict__") 502, val := Value.ref 172 }, { hash := PyData.keyHash P (Str.ofString "__weakref__"), key := Value.str (Str.ofString "__weakref__") 504, val := Value.ref 173 }, { hash := PyData.keyHash P (Str.ofString "__doc__"), key := Value.str (Str.ofString "__doc__") 505, val := Value.none }] 4 }),
  (171, { cls := Value.type "type", data := Data.cls { name := Str.ofString "Headers", bases := [Value.type "object"], mro := [Value.ref 171, Value.type "object"], ns := 170, qualname := Str.ofString "Headers" }, slots := #[none, none, some (Value.str (Str.ofString "Headers") 351), some (Value.str (Str.ofString "Headers") 359), some (Value.builtin "object.__new__"), some (Value.bool true)] }),
  (172, { cls := Value.type "getset_descriptor", data := Data.fields #[Value.str (Str.ofString "__dict__") 501, Value.ref 171, Value.builtin "function.__dict__", Value.builtin "function.__dict__#set"] }),
  (173, { cls := Value.type "getset_descriptor", data := Data.fields #[Value.str (Str.ofString "__weakref__") 503, Value.ref 171, Value.builtin "ExceptionGroup.__weakref__", Value.none] }),
  (179, { cls := Value.type "tuple", data := Data.seq #[Value.int 14 0, Value.int 14 0, Value.int 4 0, Value.int 1 0, Value.int 1 0, Value.int 9 0, Value.int 0 0, Value.int 64 0, Value.int 0 0, Value.int 1342177280 0, Value.int 0 0, Value.int 0 0, Value.int 0 0, Value.int 0 0, Value.int 0 0, Value.int 17 0, Value.int 0 0, Value.int 13 0, Value.int 11 0, Value.int 9 0, Value.int 0 0, Value.int 64 0, Value.int 0 0, Value.int 1342177280 0, Value.int 0 0, Value.int 0 0, Value.int 0 0, Value.int 0 0, Value.int 0 0, Value.int 17 0, Value.int 1 0, Value.int 1 0] }),
  (180, { cls := Value.type "re.Pattern", data := Data.fields #[Value.str (Str.ofString "([&~|])") 511, Value.int 32 546, Value.int 1 0, Value.none, Value.none, Value.ref 179, Value.int 0 0] }),
  (181, { cls := Value.type "tuple", data := Data.seq #[] }),
  (183, { cls := Value.type "tuple", data := Data.seq #[Value.str (Str.ofString "pat") 551, Value.str (Str.ofString "STAR") 552, Value.str (Str.ofString "parts") 553] }),
  (184, { cls := Value.type "tuple", data := Data.seq #[] }),
  (186, { cls := Value.type "code", data := Data.fields #[Value.str (Str.ofString "translate") 548, Value.str (Str.ofString "translate") 549, Value.str (Str.ofString "/claim/cut.py") 550, Value.int 85 0, Value.int 1 0, Value.int 0 0, Value.int 0 0, Value.int 3 0, Value.ref 181, Value.bool true, Value.int 276 0, Value.ref 182, Value.none, Value.ref 183, Value.ref 184, Value.ref 185, Value.int 554 0, Value.int 85 0, Value.str (Str.ofString "/claim/cut.py") 555] }),
  (187, fnO (topSt 8) (Str.ofString "translate") (Value.none) (Value.none) (Value.str (Str.ofString "cpy313.fnmatch") 508) (Value.ref 186)),
  (189, { cls := Value.type "dict", data := Data.dict #[{ hash := 40, key := Value.int 40 560, val := Value.str (Str.ofString "\\(") 564 }, { hash := 41, key := Value.int 41 566, val := Value.str (Str.ofString "\\)") 570 }, { hash := 91, key := Value.int 91 572, val := Value.str (Str.ofString "\\[") 576 }, { hash := 93, key := Value.int 93 578, val := Value.str (Str.ofString "\\]") 582 }, { hash := 123, key := Value.int 123 584, val := Value.str (Str.ofString "\\{") 588 }, { hash := 125, key := Value.int 125 590, val := Value.str (Str.ofString "\\}") 594 }, { hash := 63, key := Value.int 63 596, val := Value.str (Str.ofString "\\?") 600 }, { hash := 42, key := Value.int 42 602, val := Value.str (Str.ofString "\\*") 606 }, { hash := 43, key := Value.int 43 608, val := Value.str (Str.ofString "\\+") 612 }, { hash := 45, key := Value.int 45 614, val := Value.str (Str.ofString "\\-") 618 }, { hash := 124, key := Value.int 124 620, val := Value.str (Str.ofString "\\|") 624 }, { hash := 94, key := Value.int 94 626, val := Value.str (Str.ofString "\\^") 630 }, { hash := 36, key := Value.int 36 632, val := Value.str (Str.ofString "\\$") 636 }, { hash := 92, key := Value.int 92 638, val := Value.str (Str.ofString "\\\\") 642 }, { hash := 46, key := Value.int 46 644, val := Value.str (Str.ofString "\\.") 648 }, { hash := 38, key := Value.int 38 650, val := Value.str (Str.ofString "\\&") 654 }, { hash := 126, key := Value.int 126 656, val := Value.str (Str.ofString "\\~") 660 }, { hash := 35, key := Value.int 35 662, val := Value.str (Str.ofString "\\#") 666 }, { hash := 32, key := Value.int 32 668, val := Value.str (Str.ofString "\\ ") 672 }, { hash := 9, key := Value.int 9 674, val := Value.str (Str.ofString "\\\t") 678 }, { hash := 10, key := Value.int 10 680, val := Value.str (Str.ofString "\\\n") 684 }, { hash := 13, key := Value.int 13 686, val := Value.str (Str.ofString "\\\x0d") 690 }, { hash := 11, key := Value.int 11 692, val := Value.str (Str.ofString "\\\x0b") 696 }, { hash := 12, key := Value.int 12 698, val := Value.str (Str.ofString "\\\x0c") 702 }] 24 }),
  (193, { cls := Value.type "tuple", data := Data.seq #[] }),
  (195, { cls := Value.type "tuple", data := Data.seq #[Value.str (Str.ofString "pattern") 708] }),
  (196, { cls := Value.type "tuple", data := Data.seq #[] }),
  (198, { cls := Value.type "code", data := Data.fields #[Value.str (Str.ofString "escape") 705, Value.str (Str.ofString "escape") 706, Value.str (Str.ofString "/claim/cut.py") 707, Value.int 91 0, Value.int 1 0, Value.int 0 0, Value.int 0 0, Value.int 3 0, Value.ref 193, Value.bool true, Value.int 276 0, Value.ref 194, Value.none, Value.ref 195, Value.ref 196, Value.ref 197, Value.int 709 0, Value.int 91 0, Value.str (Str.ofString "/claim/cut.py") 710] }),
  (199, fnO (topSt 11) (Str.ofString "escape") (Value.none) (Value.none) (Value.str (Str.ofString "re") 557) (Value.ref 198)),
  (200, { cls := Value.type "tuple", data := Data.seq #[] }),
  (202, { cls := Value.type "tuple", data := Data.seq #[Value.str (Str.ofString "pat") 717, Value.str (Str.ofString "STAR") 718, Value.str (Str.ofString "QUESTION_MARK") 719, Value.str (Str.ofString "res") 720, Value.str (Str.ofString "add") 721, Value.str (Str.ofString "i") 722, Value.str (Str.ofString "n") 723, Value.str (Str.ofString "c") 724, Value.str (Str.ofString "j") 725, Value.str (Str.ofString "stuff") 726, Value.str (Str.ofString "chunks") 727, Value.str (Str.ofString "k") 728, Value.str (Str.ofString "chunk") 729] }),
  (203, { cls := Value.type "tuple", data := Data.seq #[] }),
  (205, { cls := Value.type "code", data := Data.fields #[Value.str (Str.ofString "_translate") 714, Value.str (Str.ofString "_translate") 715, Value.str (Str.ofString "/claim/cut.py") 716, Value.int 98 0, Value.int 3 0, Value.int 0 0, Value.int 0 0, Value.int 3 0, Value.ref 200, Value.bool true, Value.int 276 0, Value.ref 201, Value.none, Value.ref 202, Value.ref 203, Value.ref 204, Value.int 730 0, Value.int 98 0, Value.str (Str.ofString "/claim/cut.py") 731] }),
  (206, fnO (topSt 13) (Str.ofString "_translate") (Value.none) (Value.none) (Value.str (Str.ofString "cpy313.fnmatch") 712) (Value.ref 205)),
  (207, { cls := Value.type "tuple", data := Data.seq #[] }),
  (209, { cls := Value.type "tuple", data := Data.seq #[Value.str (Str.ofString "inp") 736, Value.str (Str.ofString "STAR") 737, Value.str (Str.ofString "res") 738, Value.str (Str.ofString "add") 739, Value.str (Str.ofString "i") 740, Value.str (Str.ofString "n") 741, Value.str (Str.ofString "fixed") 742] }),
  (210, { cls := Value.type "tuple", data := Data.seq #[] }),
  (212, { cls := Value.type "code", data := Data.fields #[Value.str (Str.ofString "_join_translated_parts") 733, Value.str (Str.ofString "_join_translated_parts") 734, Value.str (Str.ofString "/claim/cut.py") 735, Value.int 160 0, Value.int 2 0, Value.int 0 0, Value.int 0 0, Value.int 3 0, Value.ref 207, Value.bool true, Value.int 276 0, Value.ref 208, Value.none, Value.ref 209, Value.ref 210, Value.ref 211, Value.int 743 0, Value.int 160 0, Value.str (Str.ofString "/claim/cut.py") 744] }),
  (213, fnO (topSt 14) (Str.ofString "_join_translated_parts") (Value.none) (Value.none) (Value.str (Str.ofString "cpy313.fnmatch") 712) (Value.ref 212)),
  (214, { cls := Value.type "tuple", data := Data.seq #[] }),
  (216, { cls := Value.type "tuple", data := Data.seq #[Value.str (Str.ofString "heap") 751, Value.str (Str.ofString "lastelt") 752, Value.str (Str.ofString "returnitem") 753] }),
  (217, { cls := Value.type "tuple", data := Data.seq #[] }),
  (219, { cls := Value.type "code", data := Data.fields #[Value.str (Str.ofString "heappop") 748, Value.str (Str.ofString "heappop") 749, Value.str (Str.ofString "/claim/cut.py") 750, Value.int 188 0, Value.int 1 0, Value.int 0 0, Value.int 0 0, Value.int 3 0, Value.ref 214, Value.bool true, Value.int 276 0, Value.ref 215, Value.none, Value.ref 216, Value.ref 217, Value.ref 218, Value.int 754 0, Value.int 188 0, Value.str (Str.ofString "/claim/cut.py") 755] }),
  (220, fnO (topSt 16) (Str.ofString "heappop") (Value.none) (Value.none) (Value.str (Str.ofString "cpy313.heapq") 746) (Value.ref 219)),
  (221, { cls := Value.type "tuple", data := Data.seq #[] }),
  (223, { cls := Value.type "tuple", data := Data.seq #[Value.str (Str.ofString "x") 760, Value.str (Str.ofString "n") 761, Value.str (Str.ofString "i") 762] }),
  (224, { cls := Value.type "tuple", data := Data.seq #[] }),
  (226, { cls := Value.type "code", data := Data.fields #[Value.str (Str.ofString "heapify") 757, Value.str (Str.ofString "heapify") 758, Value.str (Str.ofString "/claim/cut.py") 759, Value.int 196 0, Value.int 1 0, Value.int 0 0, Value.int 0 0, Value.int 3 0, Value.ref 221, Value.bool true, Value.int 276 0, Value.ref 222, Value.none, Value.ref 223, Value.ref 224, Value.ref 225, Value.int 763 0, Value.int 196 0, Value.str (Str.ofString "/claim/cut.py") 764] }),
  (227, fnO (topSt 17) (Str.ofString "heapify") (Value.none) (Value.none) (Value.str (Str.ofString "cpy313.heapq") 746) (Value.ref 226)),
  (228, { cls := Value.type "tuple", data := Data.seq #[] }),
  (230, { cls := Value.type "tuple", data := Data.seq #[Value.str (Str.ofString "heap") 769, Value.str (Str.ofString "startpos") 770, Value.str (Str.ofString "pos") 771, Value.str (Str.ofString "newitem") 772, Value.str (Str.ofString "parentpos") 773, Value.str (Str.ofString "parent") 774] }),
  (231, { cls := Value.type "tuple", data := Data.seq #[] }),
  (233, { cls := Value.type "code", data := Data.fields #[Value.str (Str.ofString "_siftdown") 766, Value.str (Str.ofString "_siftdown") 767, Value.str (Str.ofString "/claim/cut.py") 768, Value.int 200 0, Value.int 3 0, Value.int 0 0, Value.int 0 0, Value.int 3 0, Value.ref 228, Value.bool true, Value.int 276 0, Value.ref 229, Value.none, Value.ref 230, Value.ref 231, Value.ref 232, Value.int 775 0, Value.int 200 0, Value.str (Str.ofString "/claim/cut.py") 776] }),
  (234, fnO (topSt 18) (Str.ofString "_siftdown") (Value.none) (Value.none) (Value.str (Str.ofString "cpy313.heapq") 746) (Value.ref 233)),
  (235, { cls := Value.type "tuple", data := Data.seq #[] }),
  (237, { cls := Value.type "tuple", data := Data.seq #[Value.str (Str.ofString "heap") 781, Value.str (Str.ofString "pos") 782, Value.str (Str.ofString "endpos") 783, Value.str (Str.ofString "startpos") 784, Value.str (Str.ofString "newitem") 785, Value.str (Str.ofString "childpos") 786, Value.str (Str.ofString "rightpos") 787] }),
  (238, { cls := Value.type "tuple", data := Data.seq #[] }),
  (240, { cls := Value.type "code", data := Data.fields #[Value.str (Str.ofString "_siftup") 778, Value.str (Str.ofString "_siftup") 779, Value.str (Str.ofString "/claim/cut.py") 780, Value.int 211 0, Value.int 2 0, Value.int 0 0, Value.int 0 0, Value.int 3 0, Value.ref 235, Value.bool true, Value.int 276 0, Value.ref 236, Value.none, Value.ref 237, Value.ref 238, Value.ref 239, Value.int 788 0, Value.int 211 0, Value.str (Str.ofString "/claim/cut.py") 789] }),
  (241, fnO (topSt 19) (Str.ofString "_siftup") (Value.none) (Value.none) (Value.str (Str.ofString "cpy313.heapq") 746) (Value.ref 240)),
  (242, { cls := Value.type "tuple", data := Data.seq #[] }),
  (244, { cls := Value.type "tuple", data := Data.seq #[Value.str (Str.ofString "text") 796, Value.str (Str.ofString "body") 797, Value.str (Str.ofString "signs") 798, Value.str (Str.ofString "slash") 799] }),
  (245, { cls := Value.type "tuple", data := Data.seq #[] }),
  (247, { cls := Value.type "code", data := Data.fields #[Value.str (Str.ofString "_law_signs") 793, Value.str (Str.ofString "_law_signs") 794, Value.str (Str.ofString "/claim/cut.py") 795, Value.int 226 0, Value.int 1 0, Value.int 0 0, Value.int 0 0, Value.int 3 0, Value.ref 242, Value.bool true, Value.int 276 0, Value.ref 243, Value.none, Value.ref 244, Value.ref 245, Value.ref 246, Value.int 800 0, Value.int 226 0, Value.str (Str.ofString "/claim/cut.py") 801] }),
  (248, fnO (topSt 21) (Str.ofString "_law_signs") (Value.none) (Value.none) (Value.str (Str.ofString "law_kt0061_02") 791) (Value.ref 247)),
  (249, { cls := Value.type "tuple", data := Data.seq #[] }),
  (252, { cls := Value.type "code", data := Data.fields #[Value.str (Str.ofString "_law_takes") 803, Value.str (Str.ofString "_law_takes") 804, Value.str (Str.ofString "/claim/cut.py") 805, Value.int 235 0, Value.int 2 0, Value.int 0 0, Value.int 0 0, Value.int 3 0, Value.ref 249, Value.bool true, Value.int 276 0, Value.ref 250, Value.none, Value.none, Value.none, Value.ref 251, Value.int 806 0, Value.int 235 0, Value.str (Str.ofString "/claim/cut.py") 807] }),
  (253, fnO (topSt 22) (Str.ofString "_law_takes") (Value.none) (Value.none) (Value.str (Str.ofString "law_kt0061_02") 791) (Value.ref 252)),
  (254, { cls := Value.type "tuple", data := Data.seq #[] }),
  (257, { cls := Value.type "code", data := Data.fields #[Value.str (Str.ofString "_law_shares") 809, Value.str (Str.ofString "_law_shares") 810, Value.str (Str.ofString "/claim/cut.py") 811, Value.int 237 0, Value.int 1 0, Value.int 0 0, Value.int 0 0, Value.int 3 0, Value.ref 254, Value.bool true, Value.int 276 0, Value.ref 255, Value.none, Value.none, Value.none, Value.ref 256, Value.int 812 0, Value.int 237 0, Value.str (Str.ofString "/claim/cut.py") 813] }),
  (258, fnO (topSt 23) (Str.ofString "_law_shares") (Value.none) (Value.none) (Value.str (Str.ofString "law_kt0061_02") 791) (Value.ref 257)),
  (259, { cls := Value.type "tuple", data := Data.seq #[] }),
  (262, { cls := Value.type "code", data := Data.fields #[Value.str (Str.ofString "_law_linked") 815, Value.str (Str.ofString "_law_linked") 816, Value.str (Str.ofString "/claim/cut.py") 817, Value.int 247 0, Value.int 1 0, Value.int 0 0, Value.int 0 0, Value.int 3 0, Value.ref 259, Value.bool true, Value.int 276 0, Value.ref 260, Value.none, Value.none, Value.none, Value.ref 261, Value.int 818 0, Value.int 247 0, Value.str (Str.ofString "/claim/cut.py") 819] }),
  (263, fnO (topSt 24) (Str.ofString "_law_linked") (Value.none) (Value.none) (Value.str (Str.ofString "law_kt0061_02") 791) (Value.ref 262)),
  (264, { cls := Value.type "tuple", data := Data.seq #[] }),
  (267, { cls := Value.type "code", data := Data.fields #[Value.str (Str.ofString "_law_best") 821, Value.str (Str.ofString "_law_best") 822, Value.str (Str.ofString "/claim/cut.py") 823, Value.int 257 0, Value.int 1 0, Value.int 0 0, Value.int 0 0, Value.int 3 0, Value.ref 264, Value.bool true, Value.int 276 0, Value.ref 265, Value.none, Value.none, Value.none, Value.ref 266, Value.int 824 0, Value.int 257 0, Value.str (Str.ofString "/claim/cut.py") 825] }),
  (268, fnO (topSt 25) (Str.ofString "_law_best") (Value.none) (Value.none) (Value.str (Str.ofString "law_kt0061_02") 791) (Value.ref 267)),
  (269, { cls := Value.type "tuple", data := Data.seq #[] }),
  (272, { cls := Value.type "code", data := Data.fields #[Value.str (Str.ofString "_law_stand") 827, Value.str (Str.ofString "_law_stand") 828, Value.str (Str.ofString "/claim/cut.py") 829, Value.int 264 0, Value.int 3 0, Value.int 0 0, Value.int 0 0, Value.int 3 0, Value.ref 269, Value.bool true, Value.int 276 0, Value.ref 270, Value.none, Value.none, Value.none, Value.ref 271, Value.int 830 0, Value.int 264 0, Value.str (Str.ofString "/claim/cut.py") 831] }),
  (273, fnO (topSt 26) (Str.ofString "_law_stand") (Value.none) (Value.none) (Value.str (Str.ofString "law_kt0061_02") 791) (Value.ref 272)),
  (274, { cls := Value.type "tuple", data := Data.seq #[] }),
  (277, { cls := Value.type "code", data := Data.fields #[Value.str (Str.ofString "law") 833, Value.str (Str.ofString "law") 834, Value.str (Str.ofString "/claim/cut.py") 835, Value.int 278 0, Value.int 1 0, Value.int 0 0, Value.int 0 0, Value.int 3 0, Value.ref 274, Value.bool true, Value.int 276 0, Value.ref 275, Value.none, Value.none, Value.none, Value.ref 276, Value.int 836 0, Value.int 278 0, Value.str (Str.ofString "/claim/cut.py") 837] }),
  (278, fnO (topSt 27) (Str.ofString "law") (Value.none) (Value.none) (Value.str (Str.ofString "law_kt0061_02") 791) (Value.ref 277))]
noncomputable abbrev aG__name_disallowed_re : Addr := 43
noncomputable abbrev aG__value_disallowed_re : Addr := 48
noncomputable abbrev aG_Headers : Addr := 171
noncomputable abbrev aG_translate : Addr := 187
noncomputable abbrev aG__special_chars_map : Addr := 189
noncomputable abbrev aG_escape : Addr := 199
noncomputable abbrev aG__translate : Addr := 206
noncomputable abbrev aG__join_translated_parts : Addr := 213
noncomputable abbrev aG_heappop : Addr := 220
noncomputable abbrev aG_heapify : Addr := 227
noncomputable abbrev aG__siftdown : Addr := 234
noncomputable abbrev aG__siftup : Addr := 241
noncomputable abbrev aG__law_signs : Addr := 248
noncomputable abbrev aG__law_takes : Addr := 253
noncomputable abbrev aG__law_shares : Addr := 258
noncomputable abbrev aG__law_linked : Addr := 263
noncomputable abbrev aG__law_best : Addr := 268
noncomputable abbrev aG__law_stand : Addr := 273
noncomputable abbrev aG_law : Addr := 278
noncomputable abbrev aM___init__ : Addr := 63
noncomputable abbrev aD___init__ : Addr := 56
noncomputable abbrev aM__convert_string_type : Addr := 70
noncomputable abbrev aM_get : Addr := 118
noncomputable abbrev aD_get : Addr := 111
noncomputable abbrev aM_values : Addr := 128
noncomputable abbrev aM_setdefault : Addr := 161
noncomputable def asL : List Addr := [3, 32, 34, 35, 37, 38, 42, 43, 47, 48, 56, 57, 59, 60, 62, 63, 64, 66, 67, 69, 70, 71, 73, 74, 76, 77, 78, 80, 81, 83, 84, 85, 88, 89, 90, 92, 93, 95, 96, 97, 99, 100, 102, 103, 104, 106, 107, 109, 110, 111, 112, 114, 115, 117, 118, 119, 122, 123, 124, 127, 128, 129, 131, 132, 134, 135, 136, 138, 139, 141, 142, 143, 146, 147, 148, 150, 151, 153, 154, 155, 157, 158, 160, 161, 162, 164, 165, 167, 168, 169, 170, 171, 172, 173, 179, 180, 181, 183, 184, 186, 187, 189, 193, 195, 196, 198, 199, 200, 202, 203, 205, 206, 207, 209, 210, 212, 213, 214, 216, 217, 219, 220, 221, 223, 224, 226, 227, 228, 230, 231, 233, 234, 235, 237, 238, 240, 241, 242, 244, 245, 247, 248, 249, 252, 253, 254, 257, 258, 259, 262, 263, 264, 267, 268, 269, 272, 273, 274, 277, 278]
theorem asOk (P : Params) : asL = (Kp P).map (·.1) := by kernel_rfl
noncomputable abbrev Hk : Hook := kmHook Kp asL asOk [201]
noncomputable def qv : Program := view pgm [0, 1, 3, 4, 5, 7, 8, 10, 11, 13, 14, 16, 17, 18, 19, 21, 22, 23, 24, 25, 26, 27]
noncomputable def looseL : List Str := [Str.ofString "_name_disallowed_re", Str.ofString "_value_disallowed_re", Str.ofString "_twin_re_1", Str.ofString "_special_chars_map"]
noncomputable abbrev Xh : Shared → Bool := fun s => xlAt qv [] s && recOk (RowW.records (OpenRow.toRowW rowL)) s
noncomputable def endsQ (w : World) : Option Shared := ((Fast.tw10274390034422433532 Fast.tw14364793385576792824 (opening pgm) w 5616 (start (opening pgm)).1 (start (opening pgm)).2).bind (Fast.tw14289696077712309145 pgm)).bind fun s₀ =>
  match s₀.heap.isNs mainGlobals && s₀.gens.size == 0 with
  | true => (Fast.tw14082659384304107361 Fast.tw14364793385576792824 pgm w s₀.heap.objs.size (s₀.heap.nsMap mainGlobals "__annotations__") 5616 s₀ (topStub pgm)).bind fun s₁ => match staticsOk (Fast.tw5923862056798008813 pgm.main.body) s₀.heap s₁.heap && namesBound pgm s₁.heap && gensDone s₁ && laidKept s₀.heap s₁.heap with
      | true => some s₁
      | false => none
  | false => none
noncomputable def seenQ (s : Shared) := (Fast.tw4187177175401517315 qv looseL (Fast.tw5923862056798008813 pgm.main.body) Xh true s, Hk.obs s)
noncomputable abbrev WayOk (w : World) : Prop := (endsQ w).map seenQ = some (openGood qv looseL, Hk.val w)
theorem way0 (w : World) : WayOk ((w.withFollow "special-get-raises" false).withFollow "comprehension-iter-twice" false) := by kernel_rfl
theorem way1 (w : World) : WayOk ((w.withFollow "special-get-raises" true).withFollow "comprehension-iter-twice" false) := by kernel_rfl
theorem way2 (w : World) : WayOk ((w.withFollow "special-get-raises" false).withFollow "comprehension-iter-twice" true) := by kernel_rfl
theorem way3 (w : World) : WayOk ((w.withFollow "special-get-raises" true).withFollow "comprehension-iter-twice" true) := by kernel_rfl
theorem left : LeftO pgm qv looseL Xh (Hook.obs Hk) (Hook.val Hk) 5616 := fun w => by
  have e : WayOk w := byRow2 "comprehension-iter-twice" (P := fun w => WayOk w) (fun w => byRow2 "special-get-raises" (P := fun w => WayOk (w.withFollow "comprehension-iter-twice" false)) (fun w => way0 w) (fun w => way1 w) w) (fun w => byRow2 "special-get-raises" (P := fun w => WayOk (w.withFollow "comprehension-iter-twice" true)) (fun w => way2 w) (fun w => way3 w) w) w
  unfold WayOk endsQ seenQ at e
  unfold openEnds fencedOpening topFrom
  rw [Fast.te10274390034422433532, Fast.te14364793385576792824, Fast.te14289696077712309145, Fast.te14082659384304107361, Fast.te5923862056798008813, Fast.te4187177175401517315]
  exact e
theorem said : PySem.Challenge.rw_kt0061_02.wellSaid = true := by kernel_rfl
end Mine.Tactic
namespace Mine.Tactic
theorem defs_ok : ∃ d kwd, defOf qv rowL.name = some (d, kwd) ∧ rowL.prog.theDef rowL.name = some (d.params, d.body, d.scope) ∧ kwWritten? d.params.kwonlyargs d.params.kw_defaults = some kwd := by
  have h1 : (defOf qv rowL.name).isSome = true := by kernel_rfl
  have h2 : (defOf qv rowL.name).map (fun x => some (x.1.params, x.1.body, x.1.scope)) = some (rowL.prog.theDef rowL.name) := by kernel_rfl
  have h3 : (defOf qv rowL.name).map (fun x => kwWritten? x.1.params.kwonlyargs x.1.params.kw_defaults) = (defOf qv rowL.name).map (fun x => some x.2) := by kernel_rfl
  cases e : defOf qv rowL.name with
  | none => rw [e] at h1; cases h1
  | some x =>
    rw [e] at h2 h3
    exact ⟨x.1, x.2, rfl, (Option.some.inj h2).symm, Option.some.inj h3⟩
theorem hd (call : ∀ d kwd, defOf qv rowL.name = some (d, kwd) → WalkO qv looseL (XL qv []) (Hook.says Hk) rowL.toRowW d kwd fun f vs => PySem.call f vs) : PySem.Challenge.rw_kt0061_02.Holds := by
  obtain ⟨d, kwd, h1, h2, h3⟩ := defs_ok
  refine holds_law said fun said => ?_
  exact holds_open (q := qv) (loose := looseL) (Xt := Xh) (XP := XL qv []) (Yf := Hook.obs Hk) (Ya := Hook.val Hk) (YP := Hook.says Hk) left (Hook.of Hk) (Hook.keeps Hk) (fun s e => xl_of s (Bool.and_eq_true_iff.mp e).1) XL.keeps h1 h2 h3
    (fun s e => recFacts_of (Bool.and_eq_true_iff.mp e).2) (by rfl) said (by decide +kernel) ⟨rfl, rfl, rfl, rfl, rfl, by decide +kernel⟩ (by w_witness2) (call d kwd h1)
end Mine.Tactic
end
section
set_option Elab.async false
set_option maxRecDepth 100000
namespace Mine.Tactic
namespace BX
end BX
end Mine.Tactic
end
section
open PySem PySem.W PyProof.Rows PySem.Calls
set_option Elab.async false
set_option maxRecDepth 100000
namespace Mine.Tactic
theorem runs_toks {M : Model} {Γ : Ctx} {p : Pos} {t : Sem Fin} {fs : List Frame} {s : Shared} {e : End} {s' : Shared} (h : Runs M Γ p t fs s e s') : s.toks ≤ s'.toks := by
  induction h with
  | done => exact Nat.le_refl _
  | raise => exact Nat.le_refl _
  | yield => exact Nat.le_refl _
  | fresh _ ih => exact Nat.le_trans (Nat.le_succ _) ih
  | call _ _ a b => exact Nat.le_trans a b
  | resumeFresh _ _ _ _ a b => exact Nat.le_trans a b
  | resumeSuspended _ _ _ _ a b => exact Nat.le_trans a b
  | segRet _ _ a b => exact Nat.le_trans a b
  | segGen _ _ a b => exact Nat.le_trans a b
  | segSuspGen _ _ _ _ a b => exact Nat.le_trans a b
  | _ => assumption
theorem wakes_toks {M : Model} {Γ : Ctx} {p : Pos} {g : Nat} {r : Resume} {s : Shared} {res : GenResult} {s' : Shared} (h : Wakes M Γ p g r s res s') : s.toks ≤ s'.toks := by
  unfold Wakes at h
  split at h
  · exact h.elim
  · split at h
    · obtain ⟨e₁, s₁, h1, _, _, rfl⟩ := h; have := runs_toks h1; exact this
    · rw [h.2]; exact Nat.le_refl _
    · rw [h.2]; exact Nat.le_refl _
  · obtain ⟨e₁, s₁, h1, _, _, rfl⟩ := h; have := runs_toks h1; exact this
  · rw [h.2]; exact Nat.le_refl _
  · rw [h.2]; exact Nat.le_refl _
theorem wp_toks {α : Type} {M : Model} {Γ : Ctx} : ∀ (t : Sem α) {Q : α → Pos → Shared → Prop} {E : Value → Pos → Shared → Prop} {p : Pos} {s : Shared},
    Sem.wp M Γ t (fun a p' s' => s.toks ≤ s'.toks → Q a p' s') (fun e p' s' => s.toks ≤ s'.toks → E e p' s') p s → Sem.wp M Γ t Q E p s := by
  intro t
  induction t with
  | pure a => intro Q E p s h; unfold Sem.wp at h ⊢; exact h (Nat.le_refl _)
  | raise e => intro Q E p s h; unfold Sem.wp at h ⊢; exact h (Nat.le_refl _)
  | unsupported => intro Q E p s h; unfold Sem.wp at h; exact h.elim
  | finish => intro Q E p s h; unfold Sem.wp at h; exact h.elim
  | register => intro Q E p s h; unfold Sem.wp at h; exact h.elim
  | yield => intro Q E p s h; unfold Sem.wp at h; exact h.elim
  | fork => intro Q E p s h; unfold Sem.wp at h; exact h.elim
  | await => intro Q E p s h; unfold Sem.wp at h; exact h.elim
  | load a part k ih => intro Q E p s h; unfold Sem.wp at h ⊢; obtain ⟨o, h1, h2⟩ := h; exact ⟨o, h1, ih o h2⟩
  | update a part f k ih => intro Q E p s h; unfold Sem.wp at h ⊢; exact ⟨h.1, ih () (s := { s with heap := s.heap.update a f }) h.2⟩
  | alloc o k ih => intro Q E p s h; unfold Sem.wp at h ⊢; exact ih _ (s := { s with heap := s.heap.push o }) h
  | fresh k ih =>
    intro Q E p s h; unfold Sem.wp at h ⊢
    exact ih s.toks (s := { s with toks := s.toks + 1 }) (Sem.wp_mono M Γ _ (fun a p' s' (h : s.toks ≤ s'.toks → Q a p' s') (hle : s.toks + 1 ≤ s'.toks) => h (Nat.le_trans (Nat.le_succ _) hle)) (fun a p' s' (h : s.toks ≤ s'.toks → E a p' s') (hle : s.toks + 1 ≤ s'.toks) => h (Nat.le_trans (Nat.le_succ _) hle)) p _ h)
  | choose src n k ih => intro Q E p s h; unfold Sem.wp at h ⊢; exact ⟨h.1, ih _ (s := { s with drawn := s.drawn.bump src }) h.2⟩
  | os q l k ih => intro Q E p s h; unfold Sem.wp at h ⊢; exact ih _ (s := { s with os := (Os.step s.os q).1 }) h
  | call c hd g l k ih =>
    intro Q E p s h; unfold Sem.wp at h ⊢
    obtain ⟨r, s', h1, h2⟩ := h
    have hle := runs_toks h1
    refine ⟨r, s', h1, ih r (Sem.wp_mono M Γ _ (fun a p' s'' h hl => h (Nat.le_trans hle hl)) (fun a p' s'' h hl => h (Nat.le_trans hle hl)) p _ h2)⟩
  | genState g k ih => intro Q E p s h; unfold Sem.wp at h ⊢; obtain ⟨o, h1, h2⟩ := h; exact ⟨o, h1, ih _ h2⟩
  | newGen c k ih => intro Q E p s h; unfold Sem.wp at h ⊢; exact ih _ (s := { s with gens := s.gens.push (.fresh c) }) h
  | resume g r l k ih =>
    intro Q E p s h; unfold Sem.wp at h ⊢
    obtain ⟨res, s', h1, h2⟩ := h
    have hle := wakes_toks h1
    refine ⟨res, s', h1, ih res (Sem.wp_mono M Γ _ (fun a p' s'' h hl => h (Nat.le_trans hle hl)) (fun a p' s'' h hl => h (Nat.le_trans hle hl)) p _ h2)⟩
  | rule tag k ih => intro Q E p s h; unfold Sem.wp at h ⊢; exact ih _ h
  | «at» p k ih => intro Q E p s h; unfold Sem.wp at h ⊢; exact ih _ h
  | loadIfAlive a k ih => intro Q E p s h; unfold Sem.wp at h ⊢; exact ih _ h
  | point l k ih => intro Q E p s h; unfold Sem.wp at h ⊢; exact ih _ h
  | ask k ih => intro Q E p s h; unfold Sem.wp at h ⊢; exact ih _ h
  | handled o k ih => intro Q E p s h; unfold Sem.wp at h ⊢; exact ih _ h
  | stack k ih => intro Q E p s h; unfold Sem.wp at h ⊢; exact ih _ h
  | thread k ih => intro Q E p s h; unfold Sem.wp at h ⊢; exact ih _ h
theorem wpAny_up {α : Type} {M : Model} {A : Around} {t : Sem α} {Q : α → Shared → Prop} {E : Value → Shared → Prop} {s : Shared} (h : wpAny M A t (fun a s' => s.toks ≤ s'.toks → Q a s') E s) : wpAny M A t Q E s :=
  fun Γ p hΓ => wp_toks t (Sem.wp_mono M Γ t (fun _ _ _ h => h) (fun e p' s' (h : E e s') => (fun _ => h : s.toks ≤ s'.toks → E e s')) p s (h Γ p hΓ))
end Mine.Tactic
end
section
open PySem PySem.W PyProof.Rows PySem.Calls
set_option Elab.async false
set_option maxRecDepth 100000
namespace Mine.Tactic

structure PM where
  f : Addr → Option Obj
  n : Nat
noncomputable def PMle (im im' : PM) : Prop := (∀ a o, im.f a = some o → im'.f a = some o) ∧ im.n ≤ im'.n
theorem PMle.trans {a b c : PM} (h : PMle a b) (k : PMle b c) : PMle a c := ⟨fun x o e => k.1 x o (h.1 x o e), Nat.le_trans h.2 k.2⟩

inductive PV where
  | none | bool (b : Bool) | int (i : Int) | str (l : List Nat)
  | tup (l : List PV) | lst (l : List PV) | ref (a : Addr) | con (v : Value) | rng (a b c : Int)
  | strB (l : List Nat) | strL (l : List Nat) | intB (i : Int) | bm (id : String) (a : Addr) | obj (C : Addr) (l : List (String × PV)) | imo (o : Obj)

noncomputable abbrev tupO (vs : List Value) (n : Nat) : Obj := { cls := .type "tuple", data := .seq vs.toArray n }
noncomputable abbrev lstO (vs : List Value) (n : Nat) : Obj := { cls := .type "list", data := .seq vs.toArray n }
noncomputable abbrev bmO (id : String) (a : Addr) : Obj := { cls := .type "builtin_function_or_method", data := .fields #[.builtin id, .ref a] }
noncomputable abbrev insO (C dx : Addr) : Obj := { cls := .ref C, dict := some dx, data := .plain }
noncomputable abbrev dicO (es : List DictEntry) (n : Nat) : Obj := { cls := .type "dict", data := .dict es.toArray n }

mutual
noncomputable def VR (im : PM) : PV → Value → Prop
  | .none, v => v = .none
  | .bool b, v => v = .bool b
  | .int i, v => ∃ t, v = .int i t
  | .str l, v => ∃ t, v = .str ⟨l.toArray⟩ t
  | .strB l, v => ∃ t, v = .str ⟨l.toArray⟩ t ∧ t ≠ 0 ∧ t < im.n
  | .strL l, v => ∃ t, v = .str ⟨l.toArray⟩ t ∧ t < im.n
  | .intB i, v => ∃ t, v = .int i t ∧ t < im.n
  | .tup ps, v => ∃ a vs n, v = .ref a ∧ im.f a = some (tupO vs n) ∧ VRs im ps vs
  | .lst ps, v => ∃ a vs n, v = .ref a ∧ im.f a = some (lstO vs n) ∧ VRs im ps vs
  | .bm id a, v => ∃ b, v = .ref b ∧ im.f b = some (bmO id a)
  | .obj C l, v => ∃ x d es n, v = .ref x ∧ im.f x = some (insO C d) ∧ im.f d = some (dicO es n) ∧ VRe im l es
  | .ref a, v => v = .ref a
  | .con c, v => v = c
  | .imo o, v => ∃ b, v = .ref b ∧ im.f b = some o
  | .rng a b c, v => ∃ r t u w, v = .ref r ∧ im.f r = some { cls := .type "range", dict := none, data := .fields #[.int a t, .int b u, .int c w], slots := #[] }
noncomputable def VRs (im : PM) : List PV → List Value → Prop
  | [], vs => vs = []
  | p :: ps, vs => ∃ v vs', vs = v :: vs' ∧ VR im p v ∧ VRs im ps vs'
noncomputable def VRe (im : PM) : List (String × PV) → List DictEntry → Prop
  | [], es => es = []
  | (x, p) :: ps, es => ∃ hh t v es', es = ⟨hh, .str (Str.ofString x) t, v⟩ :: es' ∧ VR im p v ∧ VRe im ps es'
end
mutual
theorem VR.mono {im im' : PM} (h : PMle im im') : ∀ (p : PV) (v : Value), VR im p v → VR im' p v
  | .none, v, x => by unfold VR at *; exact x
  | .bool b, v, x => by unfold VR at *; exact x
  | .int i, v, x => by unfold VR at *; exact x
  | .str l, v, x => by unfold VR at *; exact x
  | .strB l, v, x => by unfold VR at *; obtain ⟨t, h1, h2, h3⟩ := x; exact ⟨t, h1, h2, Nat.lt_of_lt_of_le h3 h.2⟩
  | .strL l, v, x => by unfold VR at *; obtain ⟨t, h1, h3⟩ := x; exact ⟨t, h1, Nat.lt_of_lt_of_le h3 h.2⟩
  | .intB i, v, x => by unfold VR at *; obtain ⟨t, h1, h3⟩ := x; exact ⟨t, h1, Nat.lt_of_lt_of_le h3 h.2⟩
  | .tup ps, v, x => by
    unfold VR at *
    obtain ⟨a, vs, n, h1, h2, h5⟩ := x
    exact ⟨a, vs, n, h1, h.1 _ _ h2, VRs.mono h ps vs h5⟩
  | .lst ps, v, x => by
    unfold VR at *
    obtain ⟨a, vs, n, h1, h2, h5⟩ := x
    exact ⟨a, vs, n, h1, h.1 _ _ h2, VRs.mono h ps vs h5⟩
  | .bm id a, v, x => by unfold VR at *; obtain ⟨b, h1, h2⟩ := x; exact ⟨b, h1, h.1 _ _ h2⟩
  | .obj C l, v, x => by
    unfold VR at *
    obtain ⟨a, d, es, n, h1, h2, h3, h4⟩ := x
    exact ⟨a, d, es, n, h1, h.1 _ _ h2, h.1 _ _ h3, VRe.mono h l es h4⟩
  | .ref a, v, x => by unfold VR at *; exact x
  | .con c, v, x => by unfold VR at *; exact x
  | .imo o, v, x => by unfold VR at *; obtain ⟨b, h1, h2⟩ := x; exact ⟨b, h1, h.1 _ _ h2⟩
  | .rng a b c, v, x => by unfold VR at *; obtain ⟨r, t, u, w, h1, h2⟩ := x; exact ⟨r, t, u, w, h1, h.1 _ _ h2⟩
theorem VRs.mono {im im' : PM} (h : PMle im im') : ∀ (ps : List PV) (vs : List Value), VRs im ps vs → VRs im' ps vs
  | [], vs, x => by unfold VRs at *; exact x
  | p :: ps, vs, x => by
    unfold VRs at *
    obtain ⟨v, vs', h1, h2, h3⟩ := x
    exact ⟨v, vs', h1, VR.mono h p v h2, VRs.mono h ps vs' h3⟩
theorem VRe.mono {im im' : PM} (h : PMle im im') : ∀ (ps : List (String × PV)) (es : List DictEntry), VRe im ps es → VRe im' ps es
  | [], es, x => by unfold VRe at *; exact x
  | (y, p) :: ps, es, x => by
    unfold VRe at *
    obtain ⟨hh, t, v, es', h1, h2, h3⟩ := x
    exact ⟨hh, t, v, es', h1, VR.mono h p v h2, VRe.mono h ps es' h3⟩
end
theorem VRe.nil {im : PM} : VRe im [] [] := by unfold VRe; rfl
theorem VRe.cons {im : PM} {x : String} {p : PV} {ps : List (String × PV)} {hh : Int} {t : Tok} {v : Value} {es : List DictEntry} (h : VR im p v) (hs : VRe im ps es) : VRe im ((x, p) :: ps) (⟨hh, .str (Str.ofString x) t, v⟩ :: es) := by
  unfold VRe; exact ⟨_, _, _, _, rfl, h, hs⟩
theorem VRe.nil_inv {im : PM} {es : List DictEntry} (h : VRe im [] es) : es = [] := by unfold VRe at h; exact h
theorem VRe.cons_inv {im : PM} {x : String} {p : PV} {ps : List (String × PV)} {es : List DictEntry} (h : VRe im ((x, p) :: ps) es) : ∃ hh t v es', es = ⟨hh, .str (Str.ofString x) t, v⟩ :: es' ∧ VR im p v ∧ VRe im ps es' := by unfold VRe at h; exact h
theorem VRs.nil {im : PM} : VRs im [] [] := by unfold VRs; rfl
theorem VRs.cons {im : PM} {p : PV} {ps : List PV} {v : Value} {vs : List Value} (h : VR im p v) (hs : VRs im ps vs) : VRs im (p :: ps) (v :: vs) := by unfold VRs; exact ⟨_, _, rfl, h, hs⟩
theorem VRs.nil_inv {im : PM} {vs : List Value} (h : VRs im [] vs) : vs = [] := by unfold VRs at h; exact h
theorem VRs.cons_inv {im : PM} {p : PV} {ps : List PV} {vs : List Value} (h : VRs im (p :: ps) vs) : ∃ v vs', vs = v :: vs' ∧ VR im p v ∧ VRs im ps vs' := by unfold VRs at h; exact h
theorem VRs.length {im : PM} : ∀ {ps : List PV} {vs : List Value}, VRs im ps vs → vs.length = ps.length
  | [], vs, h => by rw [h.nil_inv]; rfl
  | _ :: _, vs, h => by obtain ⟨v, vs', rfl, _, h3⟩ := h.cons_inv; rw [List.length_cons, List.length_cons, h3.length]
theorem VRs.append {im : PM} : ∀ {ps qs : List PV} {vs ws : List Value}, VRs im ps vs → VRs im qs ws → VRs im (ps ++ qs) (vs ++ ws)
  | [], _, vs, _, h, k => by rw [h.nil_inv]; exact k
  | _ :: _, _, vs, _, h, k => by obtain ⟨v, vs', rfl, h2, h3⟩ := h.cons_inv; exact .cons h2 (h3.append k)
theorem VRs.get {im : PM} : ∀ {ps : List PV} {vs : List Value}, VRs im ps vs → ∀ {i : Nat} {p : PV}, ps[i]? = some p → ∃ v, vs[i]? = some v ∧ VR im p v
  | [], vs, h, i, p, e => by simp at e
  | q :: qs, vs, h, i, p, e => by
    obtain ⟨v, vs', rfl, h2, h3⟩ := h.cons_inv
    cases i with
    | zero => simp at e; subst e; exact ⟨v, rfl, h2⟩
    | succ i => simp at e; exact h3.get e
theorem VRs.set {im : PM} : ∀ {ps : List PV} {vs : List Value}, VRs im ps vs → ∀ {i : Nat} {p : PV} {v : Value}, VR im p v → VRs im (ps.set i p) (vs.set i v)
  | [], vs, h, i, p, v, k => by rw [h.nil_inv]; exact .nil
  | q :: qs, vs, h, i, p, v, k => by
    obtain ⟨w, vs', rfl, h2, h3⟩ := h.cons_inv
    cases i with
    | zero => exact .cons k h3
    | succ i => exact .cons h2 (h3.set k)
theorem VRs.take {im : PM} : ∀ {ps : List PV} {vs : List Value}, VRs im ps vs → ∀ (i : Nat), VRs im (ps.take i) (vs.take i)
  | [], vs, h, i => by rw [h.nil_inv]; simp; exact .nil
  | q :: qs, vs, h, i => by
    obtain ⟨w, vs', rfl, h2, h3⟩ := h.cons_inv
    cases i with
    | zero => exact .nil
    | succ i => exact .cons h2 (h3.take i)
theorem VRs.drop {im : PM} : ∀ {ps : List PV} {vs : List Value}, VRs im ps vs → ∀ (i : Nat), VRs im (ps.drop i) (vs.drop i)
  | [], vs, h, i => by rw [h.nil_inv]; simp; exact .nil
  | q :: qs, vs, h, i => by
    obtain ⟨w, vs', rfl, h2, h3⟩ := h.cons_inv
    cases i with
    | zero => exact .cons h2 h3
    | succ i => exact h3.drop i

theorem VR.none_i {im : PM} {v : Value} (h : VR im .none v) : v = .none := by unfold VR at h; exact h
theorem VR.bool_i {im : PM} {b : Bool} {v : Value} (h : VR im (.bool b) v) : v = .bool b := by unfold VR at h; exact h
theorem VR.int_i {im : PM} {i : Int} {v : Value} (h : VR im (.int i) v) : ∃ t, v = .int i t := by unfold VR at h; exact h
theorem VR.str_i {im : PM} {l : List Nat} {v : Value} (h : VR im (.str l) v) : ∃ t, v = .str ⟨l.toArray⟩ t := by unfold VR at h; exact h
theorem VR.ref_i {im : PM} {a : Addr} {v : Value} (h : VR im (.ref a) v) : v = .ref a := by unfold VR at h; exact h
theorem VR.con_i {im : PM} {c v : Value} (h : VR im (.con c) v) : v = c := by unfold VR at h; exact h
theorem VR.tup_i {im : PM} {ps : List PV} {v : Value} (h : VR im (.tup ps) v) : ∃ a vs n, v = .ref a ∧ im.f a = some (tupO vs n) ∧ VRs im ps vs := by unfold VR at h; exact h
theorem VR.lst_i {im : PM} {ps : List PV} {v : Value} (h : VR im (.lst ps) v) : ∃ a vs n, v = .ref a ∧ im.f a = some (lstO vs n) ∧ VRs im ps vs := by unfold VR at h; exact h
theorem VR.bm_i {im : PM} {id : String} {a : Addr} {v : Value} (h : VR im (.bm id a) v) : ∃ b, v = .ref b ∧ im.f b = some (bmO id a) := by unfold VR at h; exact h
theorem VR.obj_i {im : PM} {C : Addr} {l : List (String × PV)} {v : Value} (h : VR im (.obj C l) v) : ∃ x d es n, v = .ref x ∧ im.f x = some (insO C d) ∧ im.f d = some (dicO es n) ∧ VRe im l es := by unfold VR at h; exact h
theorem VR.bm {im : PM} {id : String} {a b : Addr} (h : im.f b = some (bmO id a)) : VR im (.bm id a) (.ref b) := by unfold VR; exact ⟨b, rfl, h⟩
theorem VR.obj {im : PM} {C x d : Addr} {es : List DictEntry} {n : Nat} {l : List (String × PV)} (h : im.f x = some (insO C d)) (hd : im.f d = some (dicO es n)) (he : VRe im l es) : VR im (.obj C l) (.ref x) := by unfold VR; exact ⟨x, d, es, n, rfl, h, hd, he⟩
theorem VR.rng_i {im : PM} {a b c : Int} {v : Value} (h : VR im (.rng a b c) v) : ∃ r t u w, v = .ref r ∧ im.f r = some { cls := .type "range", dict := none, data := .fields #[.int a t, .int b u, .int c w], slots := #[] } := by unfold VR at h; exact h
theorem VR.none {im : PM} : VR im .none .none := by unfold VR; rfl
theorem VR.bool {im : PM} {b : Bool} : VR im (.bool b) (.bool b) := by unfold VR; rfl
theorem VR.int {im : PM} {i : Int} {t : Tok} : VR im (.int i) (.int i t) := by unfold VR; exact ⟨t, rfl⟩
theorem VR.strB_i {im : PM} {l : List Nat} {v : Value} (h : VR im (.strB l) v) : ∃ t, v = .str ⟨l.toArray⟩ t ∧ t ≠ 0 ∧ t < im.n := by unfold VR at h; exact h
theorem VR.strB {im : PM} {l : List Nat} {t : Tok} (h0 : t ≠ 0) (h : t < im.n) : VR im (.strB l) (.str ⟨l.toArray⟩ t) := by unfold VR; exact ⟨t, rfl, h0, h⟩
theorem VR.strL_i {im : PM} {l : List Nat} {v : Value} (h : VR im (.strL l) v) : ∃ t, v = .str ⟨l.toArray⟩ t ∧ t < im.n := by unfold VR at h; exact h
theorem VR.strL {im : PM} {l : List Nat} {t : Tok} (h : t < im.n) : VR im (.strL l) (.str ⟨l.toArray⟩ t) := by unfold VR; exact ⟨t, rfl, h⟩
theorem VR.intB_i {im : PM} {i : Int} {v : Value} (h : VR im (.intB i) v) : ∃ t, v = .int i t ∧ t < im.n := by unfold VR at h; exact h
theorem VR.intB {im : PM} {i : Int} {t : Tok} (h : t < im.n) : VR im (.intB i) (.int i t) := by unfold VR; exact ⟨t, rfl, h⟩
theorem VR.str {im : PM} {l : List Nat} {t : Tok} : VR im (.str l) (.str ⟨l.toArray⟩ t) := by unfold VR; exact ⟨t, rfl⟩
theorem VR.str' {im : PM} {x : Str} {t : Tok} : VR im (.str x.cps.toList) (.str x t) := by unfold VR; exact ⟨t, by simp⟩
theorem VR.ref {im : PM} {a : Addr} : VR im (.ref a) (.ref a) := by unfold VR; rfl
theorem VR.con {im : PM} {c : Value} : VR im (.con c) c := by unfold VR; rfl
theorem VR.rng {im : PM} {r : Addr} {a b c : Int} {t u w : Tok} (h : im.f r = some { cls := .type "range", dict := Option.none, data := .fields #[.int a t, .int b u, .int c w], slots := #[] }) : VR im (.rng a b c) (.ref r) := by unfold VR; exact ⟨r, t, u, w, rfl, h⟩
theorem VR.tup {im : PM} {a : Addr} {vs : List Value} {n : Nat} {ps : List PV} (h : im.f a = some (tupO vs n)) (hv : VRs im ps vs) : VR im (.tup ps) (.ref a) := by
  unfold VR; exact ⟨a, vs, n, rfl, h, hv⟩
theorem VR.lst {im : PM} {a : Addr} {vs : List Value} {n : Nat} {ps : List PV} (h : im.f a = some (lstO vs n)) (hv : VRs im ps vs) : VR im (.lst ps) (.ref a) := by
  unfold VR; exact ⟨a, vs, n, rfl, h, hv⟩

inductive LO where
  | list (l : List PV)
  | rit (a : Int) (n : Nat) (c : Int)
  | ins (C d : Addr)
  | att (l : List (String × PV))
  | obj (o : Obj)
  | dic (p : Program) (w : World) (l : List (List Nat × PV))

noncomputable def KVR (im : PM) (l : List (List Nat × PV)) (kvs : List (Str × Value)) : Prop := kvs.map (·.1) = l.map (fun p => (⟨p.1.toArray⟩ : Str)) ∧ VRs im (l.map (·.2)) (kvs.map (·.2))
noncomputable def LR (im : PM) (h : Heap) (a : Addr) : LO → Prop
  | .list ps => ∃ vs n, h.get? a = some (lstO vs n) ∧ VRs im ps vs
  | .rit st n c => IsRangeIter h a st (n : Int) c
  | .ins C d => h.get? a = some (insO C d)
  | .att l => ∃ es n, h.get? a = some (dicO es n) ∧ VRe im l es
  | .obj o => h.get? a = some o
  | .dic p w l => ∃ kvs, h.DictOf (PySem.strKind p w) a kvs ∧ KVR im l kvs

theorem LR.at {im : PM} {h h' : Heap} {a : Addr} {o : LO} (x : LR im h a o) (e : ∀ y, h.get? a = some y → h'.get? a = some y) : LR im h' a o := by
  cases o with
  | list ps => obtain ⟨vs, n, h1, h2⟩ := x; exact ⟨vs, n, e _ h1, h2⟩
  | rit st n c => exact e _ x
  | ins C d => exact e _ x
  | att l => obtain ⟨es, n, h1, h2⟩ := x; exact ⟨es, n, e _ h1, h2⟩
  | obj o => exact e _ x
  | dic p w l => obtain ⟨kvs, ⟨o, es, ep, h1, r⟩, h2⟩ := x; exact ⟨kvs, ⟨o, es, ep, e _ h1, r⟩, h2⟩
theorem LR.mono {im im' : PM} {h : Heap} {a : Addr} {o : LO} (x : LR im h a o) (e : PMle im im') : LR im' h a o := by
  cases o with
  | list ps => obtain ⟨vs, n, h1, h2⟩ := x; exact ⟨vs, n, h1, h2.mono e⟩
  | rit st n c => exact x
  | ins C d => exact x
  | att l => obtain ⟨es, n, h1, h2⟩ := x; exact ⟨es, n, h1, h2.mono e⟩
  | obj o => exact x
  | dic p w l => obtain ⟨kvs, h1, h2, h3⟩ := x; exact ⟨kvs, h1, h2, h3.mono e⟩
theorem LR.some {im : PM} {h : Heap} {a : Addr} {o : LO} (x : LR im h a o) : ∃ y, h.get? a = some y := by
  cases o with
  | list ps => obtain ⟨vs, n, h1, h2⟩ := x; exact ⟨_, h1⟩
  | rit st n c => exact ⟨_, x⟩
  | ins C d => exact ⟨_, x⟩
  | att l => obtain ⟨es, n, h1, h2⟩ := x; exact ⟨_, h1⟩
  | obj o => exact ⟨_, x⟩
  | dic p w l => obtain ⟨kvs, ⟨o, es, ep, h1, r⟩, h2⟩ := x; exact ⟨_, h1⟩

structure Cx where
  prog : Program
  w : World
  K : Frag
  os : OsState
  gens : Array GenState
  gl : List (String × PV)
noncomputable abbrev Cx.M (C : Cx) : Model := model C.prog C.w
noncomputable abbrev Cx.base (C : Cx) : PM := ⟨fun a => C.K.lookup a, 0⟩

noncomputable abbrev Led := List (Addr × LO)
noncomputable abbrev Rho := List (String × PV)

noncomputable def PlainName (x : Str) : Prop := (x == ("__debug__" : Str)) = false ∧ (x == ("__classdict__" : Str)) = false
noncomputable def Glob (C : Cx) (x : Str) (v : Value) : Prop :=
  ∀ (env : Env) (A : Around) (E : Value → Shared → Prop) (Q : Value → Shared → Prop) (s : Shared), env.scope.kind = .function → env.globals = mainGlobals → env.builtins = builtinsNs → env.kindOf x = some .globalImplicit →
    (∀ a o, C.base.f a = some o → s.heap.get? a = some o) → Q v s → wpAny C.M A (loadName env x) Q E s

structure GlobP (C : Cx) (x : String) (p : PV) : Prop where
  pn : PlainName (Str.ofString x)
  how : ∃ v, (∀ im, VR im p v) ∧ Glob C (Str.ofString x) v

structure StL (C : Cx) (bs im : PM) (s : Shared) (σ : Led) : Prop where
  os : s.os = C.os
  gens : s.gens = C.gens
  cb : ∀ a o, C.base.f a = some o → bs.f a = some o
  hbs : ∀ a o, bs.f a = some o → s.heap.get? a = some o
  him : ∀ a o, im.f a = some o → s.heap.get? a = some o
  led : ∀ p ∈ σ, LR im s.heap p.1 p.2 ∧ bs.f p.1 = none ∧ im.f p.1 = none
  nd : (σ.map (·.1)).Nodup
  gok : ∀ p ∈ C.gl, GlobP C p.1 p.2
  tk : im.n ≤ s.toks

inductive How (C : Cx) (env : Env) (h : Heap) (m : Str → Option Value) (x : Str) (v : Value) : Prop where
  | loc (hk : env.kindOf x = some .local) (hm : m x = some v)
  | cell (hk : env.kindOf x = some .cell ∨ env.kindOf x = some .free) (c : Addr) (hc : env.cells.lookup x = some c) (hv : h.IsCell c (some v))
  | glob (hk : env.kindOf x = some .globalImplicit) (hg : Glob C x v)
structure Has (C : Cx) (env : Env) (h : Heap) (m : Str → Option Value) (x : Str) (v : Value) : Prop where
  pn : PlainName x
  how : How C env h m x v

noncomputable abbrev Names := List (String × NameKind)
structure FrOk (C : Cx) (env : Env) (κ : List (Str × Addr)) (ns : Names) (cn : List String) (bs im : PM) (h : Heap) (ρ : Rho) (σ : Led) : Prop where
  vars : ∃ m, h.Ns env.locals m ∧ ∀ p ∈ ρ, ∃ v, VR im p.2 v ∧ Has C env h m (Str.ofString p.1) v
  rn : (ρ.map (·.1)).Nodup
  lbs : bs.f env.locals = none
  lim : im.f env.locals = none
  lled : env.locals ∉ σ.map (·.1)
  cells : ∀ p ∈ κ, (∃ v, h.IsCell p.2 v) ∧ bs.f p.2 = none ∧ im.f p.2 = none ∧ p.2 ∉ σ.map (·.1) ∧ env.cells.lookup p.1 = some p.2
  apart : κ.Pairwise fun x y => x.2 ≠ y.2
  outer : ∀ x c, env.cells.lookup x = some c → (x, c) ∈ κ ∨ ∃ o, bs.f c = some o
  kind : env.scope.kind = .function
  gl : env.globals = mainGlobals
  bi : env.builtins = builtinsNs
  kn : ∀ p ∈ ns, env.kindOf (Str.ofString p.1) = some p.2 ∧ PlainName (Str.ofString p.1)
  own : ∀ p ∈ ns, p.2 = NameKind.cell → ∃ c, (Str.ofString p.1, c) ∈ κ
  ck : ∀ x ∈ cn, (env.kindOf (Str.ofString x) = some .cell ∨ env.kindOf (Str.ofString x) = some .free) ∧ ∃ c, env.cells.lookup (Str.ofString x) = some c

structure Gx where
  C : Cx
  env : Env
  κ : List (Str × Addr)
  ns : Names
  cn : List String
  n : Nat

structure St (G : Gx) (bs im : PM) (s : Shared) (ρ : Rho) (σ : Led) : Prop where
  l : StL G.C bs im s σ
  f : FrOk G.C G.env G.κ G.ns G.cn bs im s.heap ρ σ

noncomputable def Ext (bs im im' : PM) : Prop := PMle im im' ∧ ∀ a, im'.f a ≠ none → im.f a ≠ none ∨ bs.f a = none
theorem Ext.refl {bs im : PM} : Ext bs im im := ⟨⟨fun _ _ h => h, Nat.le_refl _⟩, fun _ h => .inl h⟩
theorem Ext.trans {bs im im' im'' : PM} (h : Ext bs im im') (k : Ext bs im' im'') : Ext bs im im'' :=
  ⟨h.1.trans k.1, fun a e => (k.2 a e).elim (h.2 a) .inr⟩

noncomputable def AOk (n : Nat) (A : Around) : Prop := A.handled = none ∧ A.depth + n ≤ 900 ∧ A.units + 8 * n ≤ 9000
theorem AOk.in1 {n : Nat} {A : Around} (h : AOk (n + 1) A) : AOk n A.in1 := ⟨h.1, by have := h.2.1; show A.depth + n ≤ 900; walk_at "zo", by have := h.2.2; show A.units + 1 + 8 * n ≤ 9000; walk_at "zo"⟩
theorem AOk.deeper {n : Nat} {A : Around} (h : AOk (n + 1) A) (env : Env) : AOk n (A.deeper env) := ⟨h.1, by have := h.2.1; show A.depth + 1 + n ≤ 900; walk_at "zo", by have := h.2.2; show A.units + 3 + 8 * n ≤ 9000; walk_at "zo"⟩
theorem AOk.mono {n m : Nat} {A : Around} (h : AOk n A) (k : m ≤ n) : AOk m A := ⟨h.1, by have := h.2.1; walk_at "zo", by have := h.2.2; walk_at "zo"⟩

noncomputable def Post (G : Gx) {α R : Type} (rel : PM → R → α → Prop) (bs im : PM) (Q : R → Rho → Led → Prop) (a : α) (s' : Shared) : Prop :=
  ∃ im' r ρ' σ', Ext bs im im' ∧ rel im' r a ∧ St G bs im' s' ρ' σ' ∧ Q r ρ' σ'
noncomputable def Bot : Value → Shared → Prop := fun _ _ => False
noncomputable def Tr (G : Gx) {α R : Type} (rel : PM → R → α → Prop) (t : Sem α) (ρ : Rho) (σ : Led) (Q : R → Rho → Led → Prop) : Prop :=
  ∀ A bs im s, AOk G.n A → St G bs im s ρ σ → wpAny G.C.M A t (Post G rel bs im Q) Bot s

theorem Post.mono {G : Gx} {α R : Type} {rel : PM → R → α → Prop} {bs im : PM} {Q Q' : R → Rho → Led → Prop} {a : α} {s' : Shared} (h : Post G rel bs im Q a s') (k : ∀ r ρ σ, Q r ρ σ → Q' r ρ σ) : Post G rel bs im Q' a s' := by
  obtain ⟨im', r, ρ', σ', h1, h2, h3, h4⟩ := h
  exact ⟨im', r, ρ', σ', h1, h2, h3, k _ _ _ h4⟩
theorem Post.ext {G : Gx} {α R : Type} {rel : PM → R → α → Prop} {bs im im₁ : PM} {Q : R → Rho → Led → Prop} {a : α} {s' : Shared} (e : Ext bs im im₁) (h : Post G rel bs im₁ Q a s') : Post G rel bs im Q a s' := by
  obtain ⟨im', r, ρ', σ', h1, h2, h3, h4⟩ := h
  exact ⟨im', r, ρ', σ', e.trans h1, h2, h3, h4⟩
theorem wpAny_bot {α : Type} {M : Model} {A : Around} {t : Sem α} {Q Q' : α → Shared → Prop} {E : Value → Shared → Prop} {s : Shared} (h : wpAny M A t Q Bot s) (hQ : ∀ a s, Q a s → Q' a s) : wpAny M A t Q' E s :=
  wpAny_mono h hQ (fun _ _ f => f.elim)

noncomputable def relB (_ : PM) (b : Bool) (b' : Bool) : Prop := b' = b
noncomputable def relU (_ : PM) (_ : Unit) (_ : Unit) : Prop := True
noncomputable abbrev relL : PM → List PV → List Value → Prop := VRs
noncomputable abbrev Ev (G : Gx) (e : Expr) (ρ : Rho) (σ : Led) (Q : PV → Rho → Led → Prop) : Prop := Tr G VR (eval e G.env) ρ σ Q
noncomputable abbrev Ts (G : Gx) (e : Expr) (ρ : Rho) (σ : Led) (Q : Bool → Rho → Led → Prop) : Prop := Tr G relB (isTrue e G.env (eval e G.env)) ρ σ Q
inductive Fl where
  | next | brk | cont | ret (v : PV)
noncomputable def FlR (im : PM) : Fl → Flow → Prop
  | .next, f => f = .next
  | .brk, f => f = .brk
  | .cont, f => f = .cont
  | .ret p, f => ∃ v, f = .ret v ∧ VR im p v
noncomputable abbrev Ex1 (G : Gx) (st : Stmt) (ρ : Rho) (σ : Led) (Q : Fl → Rho → Led → Prop) : Prop := Tr G FlR (exec st G.env) ρ σ Q
noncomputable abbrev Ex (G : Gx) (st : List Stmt) (ρ : Rho) (σ : Led) (Q : Fl → Rho → Led → Prop) : Prop := Tr G FlR (execs st G.env) ρ σ Q

noncomputable def Con (G : Gx) {α β R R' : Type} (rel : PM → R → α → Prop) (r : R) (f : α → Sem β) (rel' : PM → R' → β → Prop) (ρ : Rho) (σ : Led) (Q : R' → Rho → Led → Prop) : Prop :=
  ∀ A bs im s a, AOk G.n A → St G bs im s ρ σ → rel im r a → wpAny G.C.M A (f a) (Post G rel' bs im Q) Bot s
noncomputable abbrev Op1 (G : Gx) (f : Value → Sem Value) (a : PV) (ρ : Rho) (σ : Led) (Q : PV → Rho → Led → Prop) : Prop := Con G VR a f VR ρ σ Q
noncomputable def Op2 (G : Gx) (f : Value → Value → Sem Value) (a b : PV) (ρ : Rho) (σ : Led) (Q : PV → Rho → Led → Prop) : Prop :=
  ∀ A bs im s v w, AOk G.n A → St G bs im s ρ σ → VR im a v → VR im b w → wpAny G.C.M A (f v w) (Post G VR bs im Q) Bot s
noncomputable abbrev TrueOf (G : Gx) (a : PV) (ρ : Rho) (σ : Led) (Q : Bool → Rho → Led → Prop) : Prop := Con G VR a truthy relB ρ σ Q

section
variable {G : Gx} {α β R R' : Type} {rel : PM → R → α → Prop} {rel' : PM → R' → β → Prop} {ρ : Rho} {σ : Led}

theorem Tr.mono {t : Sem α} {Q Q' : R → Rho → Led → Prop} (h : Tr G rel t ρ σ Q) (k : ∀ r ρ σ, Q r ρ σ → Q' r ρ σ) : Tr G rel t ρ σ Q' :=
  fun A bs im s hA hS => wpAny_mono (h A bs im s hA hS) (fun _ _ p => p.mono k) fun _ _ x => x
theorem Con.mono {r : R} {f : α → Sem β} {Q Q' : R' → Rho → Led → Prop} (h : Con G rel r f rel' ρ σ Q) (k : ∀ r ρ σ, Q r ρ σ → Q' r ρ σ) : Con G rel r f rel' ρ σ Q' :=
  fun A bs im s a hA hS hr => wpAny_mono (h A bs im s a hA hS hr) (fun _ _ p => p.mono k) fun _ _ x => x

theorem Tr.then {t : Sem α} {f : α → Sem β} {Q : R' → Rho → Led → Prop} (h : Tr G rel t ρ σ (fun r ρ₁ σ₁ => Con G rel r f rel' ρ₁ σ₁ Q)) {A : Around} {bs im : PM} {s : Shared} (hA : AOk G.n A) (hS : St G bs im s ρ σ) :
    wpAny G.C.M A t (fun a s₁ => wpAny G.C.M A (f a) (Post G rel' bs im Q) Bot s₁) Bot s :=
  wpAny_mono (h A bs im s hA hS) (fun a s₁ p => by
    obtain ⟨im₁, r, ρ₁, σ₁, e, hr, hS₁, hC⟩ := p
    exact wpAny_mono (hC A bs im₁ s₁ a hA hS₁ hr) (fun _ _ q => q.ext e) fun _ _ x => x) fun _ _ x => x
theorem Post.now {bs im : PM} {a : α} {r : R} {s : Shared} {Q : R → Rho → Led → Prop} (hS : St G bs im s ρ σ) (hr : rel im r a) (h : Q r ρ σ) : Post G rel bs im Q a s := ⟨_, r, ρ, σ, .refl, hr, hS, h⟩
end

theorem StL.toks {C : Cx} {bs im : PM} {s : Shared} {σ : Led} (x : StL C bs im s σ) (t : Nat) (ht : s.toks ≤ t := by first | exact Nat.le_refl _ | exact Nat.le_succ _ | assumption | walk_at "zo") : StL C bs im { s with toks := t } σ := ⟨x.os, x.gens, x.cb, x.hbs, x.him, x.led, x.nd, x.gok, Nat.le_trans x.tk ht⟩
theorem St.toks {G : Gx} {bs im : PM} {s : Shared} {ρ : Rho} {σ : Led} (x : St G bs im s ρ σ) (t : Nat) (ht : s.toks ≤ t := by first | exact Nat.le_refl _ | exact Nat.le_succ _ | assumption | walk_at "zo") : St G bs im { s with toks := t } ρ σ := ⟨x.l.toks t ht, x.f⟩

theorem Has.keeps {C : Cx} {env : Env} {h h' : Heap} {m : Str → Option Value} {x : Str} {v : Value} (y : Has C env h m x v) (hk : ∀ c w, env.cells.lookup x = some c → h.IsCell c w → h'.IsCell c w) : Has C env h' m x v := by
  obtain ⟨n, y⟩ := y
  cases y with
  | loc a b => exact ⟨n, .loc a b⟩
  | cell a c b d => exact ⟨n, .cell a c b (hk c _ b d)⟩
  | glob a b => exact ⟨n, .glob a b⟩

theorem StL.grow {C : Cx} {bs im : PM} {s : Shared} {σ : Led} (x : StL C bs im s σ) {h' : Heap} (hk : ∀ b o, s.heap.get? b = some o → h'.get? b = some o) (t : Nat) (ht : s.toks ≤ t := by first | exact Nat.le_refl _ | exact Nat.le_succ _ | assumption | walk_at "zo") : StL C bs im { s with heap := h', toks := t } σ :=
  ⟨x.os, x.gens, x.cb, fun a o e => hk a o (x.hbs a o e), fun a o e => hk a o (x.him a o e), fun p hp => let ⟨a, b⟩ := x.led p hp; ⟨a.at fun y e => hk _ y e, b⟩, x.nd, x.gok, Nat.le_trans x.tk ht⟩
theorem FrOk.grow {C : Cx} {env : Env} {κ : List (Str × Addr)} {ns : Names} {cn : List String} {bs im : PM} {h h' : Heap} {ρ : Rho} {σ : Led} (x : FrOk C env κ ns cn bs im h ρ σ) (hk : ∀ b o, h.get? b = some o → h'.get? b = some o) : FrOk C env κ ns cn bs im h' ρ σ :=
  ⟨let ⟨m, a, b⟩ := x.vars; ⟨m, a.keeps hk, fun p hp => let ⟨v, c, d⟩ := b p hp; ⟨v, c, d.keeps fun _ _ _ z => z.keeps hk⟩⟩, x.rn, x.lbs, x.lim, x.lled,
    fun p hp => let ⟨⟨v, a⟩, b⟩ := x.cells p hp; ⟨⟨v, a.keeps hk⟩, b⟩, x.apart, x.outer, x.kind, x.gl, x.bi, x.kn, x.own, x.ck⟩
theorem St.grow {G : Gx} {bs im : PM} {s : Shared} {ρ : Rho} {σ : Led} (x : St G bs im s ρ σ) {h' : Heap} (hk : ∀ b o, s.heap.get? b = some o → h'.get? b = some o) (t : Nat) (ht : s.toks ≤ t := by first | exact Nat.le_refl _ | exact Nat.le_succ _ | assumption | walk_at "zo") : St G bs im { s with heap := h', toks := t } ρ σ := ⟨x.l.grow hk t ht, x.f.grow hk⟩

theorem get?_size_none (h : Heap) : h.get? h.objs.size = none := by
  cases e : h.get? h.objs.size with
  | none => rfl
  | some o => exact absurd (Heap.lt_size e) (Nat.lt_irrefl _)

noncomputable def PM.put (f : PM) (a : Addr) (o : Obj) : PM := ⟨fun b => if b = a then some o else f.f b, f.n⟩
theorem PM.put_at (f : PM) (a : Addr) (o : Obj) (b : Addr) : (f.put a o).f b = if b = a then some o else f.f b := rfl
theorem PM.put_self (f : PM) (a : Addr) (o : Obj) : (f.put a o).f a = some o := by simp [PM.put]
theorem PM.put_keep {f : PM} {a : Addr} (hn : f.f a = none) (o : Obj) : PMle f (f.put a o) := ⟨fun b p e => by
  show (if b = a then some o else f.f b) = _; split
  · rename_i q; rw [q, hn] at e; cases e
  · exact e, Nat.le_refl _⟩
theorem PM.put_ne {f : PM} {a b : Addr} (h : b ≠ a) (o : Obj) : (f.put a o).f b = f.f b := by simp [PM.put, h]

theorem StL.bs_none {C : Cx} {bs im : PM} {s : Shared} {σ : Led} (x : StL C bs im s σ) {a : Addr} (h : s.heap.get? a = none) : bs.f a = none := by
  cases e : bs.f a with
  | none => rfl
  | some o => have := x.hbs a o e; rw [h] at this; cases this
theorem StL.im_none {C : Cx} {bs im : PM} {s : Shared} {σ : Led} (x : StL C bs im s σ) {a : Addr} (h : s.heap.get? a = none) : im.f a = none := by
  cases e : im.f a with
  | none => rfl
  | some o => have := x.him a o e; rw [h] at this; cases this
theorem StL.led_some {C : Cx} {bs im : PM} {s : Shared} {σ : Led} (x : StL C bs im s σ) {a : Addr} (h : s.heap.get? a = none) : a ∉ σ.map (·.1) := fun hm => by
  obtain ⟨p, hp, rfl⟩ := List.mem_map.mp hm
  obtain ⟨y, e⟩ := (x.led p hp).1.some
  rw [h] at e; cases e
theorem FrOk.loc_some {C : Cx} {env : Env} {κ : List (Str × Addr)} {ns : Names} {cn : List String} {bs im : PM} {h : Heap} {ρ : Rho} {σ : Led} (x : FrOk C env κ ns cn bs im h ρ σ) : ∃ o es ep, h.get? env.locals = some o ∧ o.data = .dict es ep := by
  obtain ⟨m, ⟨o, es, ep, a, b, _⟩, _⟩ := x.vars
  exact ⟨o, es, ep, a, b⟩

theorem St.pushIm {G : Gx} {bs im : PM} {s : Shared} {ρ : Rho} {σ : Led} (x : St G bs im s ρ σ) (o : Obj) (hf : o.isFreed = false) (t : Nat) (ht : s.toks ≤ t := by first | exact Nat.le_refl _ | exact Nat.le_succ _ | assumption | walk_at "zo") :
    Ext bs im (im.put s.heap.objs.size o) ∧ St G bs (im.put s.heap.objs.size o) { s with heap := s.heap.push o, toks := t } ρ σ := by
  have hn := get?_size_none s.heap
  have hk : ∀ b p, s.heap.get? b = some p → (s.heap.push o).get? b = some p := fun b p e => Heap.get?_push_of_some _ e
  have hi := x.l.im_none hn
  have hput := PM.put_keep hi o
  have ne : ∀ b, (∃ p, s.heap.get? b = some p) → b ≠ s.heap.objs.size := fun b ⟨p, e⟩ q => by rw [q, hn] at e; cases e
  refine ⟨⟨hput, fun a e => ?_⟩, ⟨x.l.os, x.l.gens, x.l.cb, fun a p e => hk a p (x.l.hbs a p e), fun a p e => ?_, fun p hp => ?_, x.l.nd, x.l.gok, Nat.le_trans x.l.tk ht⟩, ?_⟩
  · by_cases q : a = s.heap.objs.size
    · subst q; exact .inr (x.l.bs_none hn)
    · rw [PM.put_ne q] at e; exact .inl e
  · have e : (if a = s.heap.objs.size then some o else im.f a) = some p := e
    split at e
    · rename_i q; cases e; rw [q]; exact Heap.get?_push_size _ hf
    · exact hk a p (x.l.him a p e)
  · obtain ⟨a, b, c⟩ := x.l.led p hp
    exact ⟨(a.at fun y e => hk _ y e).mono hput, b, by rw [PM.put_ne (ne _ a.some)]; exact c⟩
  · have f := x.f.grow hk
    obtain ⟨ol, _, _, hol, _⟩ := x.f.loc_some
    refine ⟨?_, f.rn, f.lbs, by rw [PM.put_ne (ne _ ⟨_, hol⟩)]; exact f.lim, f.lled, fun p hp => ?_, f.apart, f.outer, f.kind, f.gl, f.bi, f.kn, f.own, f.ck⟩
    · obtain ⟨m, a, b⟩ := f.vars
      exact ⟨m, a, fun p hp => let ⟨v, c, d⟩ := b p hp; ⟨v, c.mono hput, d⟩⟩
    · obtain ⟨a, b, c, d⟩ := f.cells p hp
      obtain ⟨⟨v, oc, hoc, _⟩, _⟩ := x.f.cells p hp
      exact ⟨a, b, by rw [PM.put_ne (ne _ ⟨_, hoc⟩)]; exact c, d⟩

theorem St.pushLed {G : Gx} {bs im : PM} {s : Shared} {ρ : Rho} {σ : Led} (x : St G bs im s ρ σ) (o : Obj) (lo : LO) (t : Nat) (hr : LR im (s.heap.push o) s.heap.objs.size lo) (ht : s.toks ≤ t := by first | exact Nat.le_refl _ | exact Nat.le_succ _ | assumption | walk_at "zo") :
    St G bs im { s with heap := s.heap.push o, toks := t } ρ ((s.heap.objs.size, lo) :: σ) := by
  have hn := get?_size_none s.heap
  have hk : ∀ b p, s.heap.get? b = some p → (s.heap.push o).get? b = some p := fun b p e => Heap.get?_push_of_some _ e
  have y := x.grow hk t ht
  have ne : ∀ b, (∃ p, s.heap.get? b = some p) → b ≠ s.heap.objs.size := fun b ⟨p, e⟩ q => by rw [q, hn] at e; cases e
  obtain ⟨ol, _, _, hol, _⟩ := x.f.loc_some
  refine ⟨⟨y.l.os, y.l.gens, y.l.cb, y.l.hbs, y.l.him, fun p hp => ?_, ?_, y.l.gok, y.l.tk⟩, ⟨y.f.vars, y.f.rn, y.f.lbs, y.f.lim, ?_, fun p hp => ?_, y.f.apart, y.f.outer, y.f.kind, y.f.gl, y.f.bi, y.f.kn, y.f.own, y.f.ck⟩⟩
  · rcases List.mem_cons.mp hp with rfl | hp
    · exact ⟨hr, x.l.bs_none hn, x.l.im_none hn⟩
    · exact y.l.led p hp
  · rw [List.map_cons]; exact List.nodup_cons.mpr ⟨x.l.led_some hn, x.l.nd⟩
  · rw [List.map_cons]; intro hm
    rcases List.mem_cons.mp hm with e | hm
    · exact ne _ ⟨_, hol⟩ e
    · exact x.f.lled hm
  · obtain ⟨a, b, c, d, e⟩ := y.f.cells p hp
    obtain ⟨⟨v, oc, hoc, _⟩, _⟩ := x.f.cells p hp
    refine ⟨a, b, c, ?_, e⟩
    rw [List.map_cons]; intro hm
    rcases List.mem_cons.mp hm with q | hm
    · exact ne _ ⟨_, hoc⟩ q
    · exact d hm

inductive Upd (a : Addr) (o o' : LO) : Led → Led → Prop
  | head {r : Led} : Upd a o o' ((a, o) :: r) ((a, o') :: r)
  | tail {p : Addr × LO} {r r' : Led} : Upd a o o' r r' → Upd a o o' (p :: r) (p :: r')
theorem Upd.keys {a : Addr} {o o' : LO} {σ σ' : Led} (u : Upd a o o' σ σ') : σ'.map (·.1) = σ.map (·.1) := by
  induction u with
  | head => rfl
  | tail _ ih => rw [List.map_cons, List.map_cons, ih]
theorem Upd.mem {a : Addr} {o o' : LO} {σ σ' : Led} (u : Upd a o o' σ σ') : (a, o) ∈ σ := by
  induction u with
  | head => exact .head _
  | tail _ ih => exact .tail _ ih
theorem Upd.mem' {a : Addr} {o o' : LO} {σ σ' : Led} (u : Upd a o o' σ σ') (hn : (σ.map (·.1)).Nodup) : ∀ p ∈ σ', p = (a, o') ∨ (p ∈ σ ∧ p.1 ≠ a) := by
  induction u with
  | head =>
    intro p hp
    rw [List.map_cons, List.nodup_cons] at hn
    rcases List.mem_cons.mp hp with rfl | hp
    · exact .inl rfl
    · exact .inr ⟨.tail _ hp, fun e => hn.1 (List.mem_map.mpr ⟨p, hp, e⟩)⟩
  | tail u ih =>
    intro p hp
    rw [List.map_cons, List.nodup_cons] at hn
    rcases List.mem_cons.mp hp with rfl | hp
    · exact .inr ⟨.head _, fun e => hn.1 (e ▸ List.mem_map_of_mem u.mem)⟩
    · exact (ih hn.2 p hp).imp id fun ⟨x, y⟩ => ⟨.tail _ x, y⟩

theorem StL.ledNe {C : Cx} {bs im : PM} {s : Shared} {σ : Led} (x : StL C bs im s σ) {a : Addr} (hm : a ∈ σ.map (·.1)) : bs.f a = none ∧ im.f a = none := by
  obtain ⟨p, hp, rfl⟩ := List.mem_map.mp hm
  exact (x.led p hp).2
theorem St.updK {G : Gx} {bs im : PM} {s : Shared} {ρ : Rho} {σ σ' : Led} (x : St G bs im s ρ σ) {a : Addr} {lo lo' : LO} (u : Upd a lo lo' σ σ') {h' : Heap} (t : Nat) (hk : ∀ b p, b ≠ a → s.heap.get? b = some p → h'.get? b = some p) (hr : LR im h' a lo') (ht : s.toks ≤ t := by first | exact Nat.le_refl _ | exact Nat.le_succ _ | assumption | walk_at "zo") :
    St G bs im { s with heap := h', toks := t } ρ σ' := by
  have hm : a ∈ σ.map (·.1) := List.mem_map_of_mem u.mem
  have hne := x.l.ledNe hm
  have hL : G.env.locals ≠ a := fun e => x.f.lled (e ▸ hm)
  have nb : ∀ b o, bs.f b = some o → b ≠ a := fun b o e q => by rw [q, hne.1] at e; cases e
  have ni : ∀ b o, im.f b = some o → b ≠ a := fun b o e q => by rw [q, hne.2] at e; cases e
  have hcell : ∀ y c w, G.env.cells.lookup y = some c → s.heap.IsCell c w → h'.IsCell c w := fun y c w e z => by
    have hc : c ≠ a := by
      rcases x.f.outer y c e with q | ⟨o, q⟩
      · intro r; exact (x.f.cells _ q).2.2.2.1 (r ▸ hm)
      · exact nb _ _ q
    obtain ⟨o, ho, hd⟩ := z
    exact ⟨o, hk c o hc ho, hd⟩
  refine ⟨⟨x.l.os, x.l.gens, x.l.cb, fun b o e => hk b o (nb b o e) (x.l.hbs b o e), fun b o e => hk b o (ni b o e) (x.l.him b o e), fun p hp => ?_, (by rw [u.keys]; exact x.l.nd), x.l.gok, Nat.le_trans x.l.tk ht⟩,
    ⟨?_, x.f.rn, x.f.lbs, x.f.lim, by rw [u.keys]; exact x.f.lled, fun p hp => ?_, x.f.apart, x.f.outer, x.f.kind, x.f.gl, x.f.bi, x.f.kn, x.f.own, x.f.ck⟩⟩
  · rcases u.mem' x.l.nd p hp with rfl | ⟨hp, q⟩
    · exact ⟨hr, hne⟩
    · obtain ⟨c, d⟩ := x.l.led p hp
      exact ⟨c.at fun y e => hk _ y q e, d⟩
  · obtain ⟨m, ⟨o, es, ep, c1, c2⟩, d⟩ := x.f.vars
    exact ⟨m, ⟨o, es, ep, hk _ _ hL c1, c2⟩, fun p hp => let ⟨v, e, f⟩ := d p hp; ⟨v, e, f.keeps (hcell _)⟩⟩
  · obtain ⟨⟨v, c⟩, d, e, f, g⟩ := x.f.cells p hp
    exact ⟨⟨v, hcell _ _ _ g c⟩, d, e, by rw [u.keys]; exact f, g⟩

theorem St.upd {G : Gx} {bs im : PM} {s : Shared} {ρ : Rho} {σ σ' : Led} (x : St G bs im s ρ σ) {a : Addr} {lo lo' : LO} (u : Upd a lo lo' σ σ') {h' : Heap} (t : Nat) (hs : Heap.SameBut a s.heap h') (hr : LR im h' a lo') (ht : s.toks ≤ t := by first | exact Nat.le_refl _ | exact Nat.le_succ _ | assumption | walk_at "zo") :
    St G bs im { s with heap := h', toks := t } ρ σ' := x.updK u t (fun b _ q e => (hs.2 b q).trans e) hr ht

theorem St.rho {G : Gx} {bs im : PM} {s : Shared} {ρ ρ' : Rho} {σ : Led} (x : St G bs im s ρ σ) (h : ∀ p ∈ ρ', p ∈ ρ) (hn : (ρ'.map (·.1)).Nodup) : St G bs im s ρ' σ :=
  ⟨x.l, ⟨let ⟨m, a, b⟩ := x.f.vars; ⟨m, a, fun p hp => b p (h p hp)⟩, hn, x.f.lbs, x.f.lim, x.f.lled, x.f.cells, x.f.apart, x.f.outer, x.f.kind, x.f.gl, x.f.bi, x.f.kn, x.f.own, x.f.ck⟩⟩
theorem StL.sub {C : Cx} {bs im : PM} {s : Shared} {σ σ' : Led} (x : StL C bs im s σ) (h : ∀ p ∈ σ', p ∈ σ) (hn : (σ'.map (·.1)).Nodup) : StL C bs im s σ' :=
  ⟨x.os, x.gens, x.cb, x.hbs, x.him, fun p hp => x.led p (h p hp), hn, x.gok, x.tk⟩
theorem St.sub {G : Gx} {bs im : PM} {s : Shared} {ρ : Rho} {σ σ' : Led} (x : St G bs im s ρ σ) (h : ∀ p ∈ σ', p ∈ σ) (hn : (σ'.map (·.1)).Nodup) : St G bs im s ρ σ' := by
  have hm : ∀ a, a ∈ σ'.map (·.1) → a ∈ σ.map (·.1) := fun a ha => by obtain ⟨p, hp, rfl⟩ := List.mem_map.mp ha; exact List.mem_map_of_mem (h p hp)
  exact ⟨x.l.sub h hn, ⟨x.f.vars, x.f.rn, x.f.lbs, x.f.lim, fun q => x.f.lled (hm _ q), fun p hp => let ⟨a, b, c, d, e⟩ := x.f.cells p hp; ⟨a, b, c, fun q => d (hm _ q), e⟩, x.f.apart, x.f.outer, x.f.kind, x.f.gl, x.f.bi, x.f.kn, x.f.own, x.f.ck⟩⟩
end Mine.Tactic
end
section
open PySem PySem.W PyProof.Rows PySem.Calls
set_option Elab.async false
set_option maxRecDepth 100000
namespace Mine.Tactic

noncomputable def cs (x : String) : List Nat := (Str.ofString x).cps.toList

inductive SetR (x : String) (p : PV) : Rho → Rho → Prop
  | nil : SetR x p [] [(x, p)]
  | head {q : PV} {r : Rho} : SetR x p ((x, q) :: r) ((x, p) :: r)
  | tail {y : String} {q : PV} {r r' : Rho} : y ≠ x → SetR x p r r' → SetR x p ((y, q) :: r) ((y, q) :: r')
theorem SetR.mem {x : String} {p : PV} {ρ ρ' : Rho} (u : SetR x p ρ ρ') (hn : (ρ.map (·.1)).Nodup) : ∀ q ∈ ρ', q = (x, p) ∨ (q ∈ ρ ∧ q.1 ≠ x) := by
  induction u with
  | nil => intro q hq; exact .inl (List.mem_singleton.mp hq)
  | head =>
    intro q hq
    rw [List.map_cons, List.nodup_cons] at hn
    rcases List.mem_cons.mp hq with rfl | hq
    · exact .inl rfl
    · exact .inr ⟨.tail _ hq, fun e => hn.1 (List.mem_map.mpr ⟨q, hq, e⟩)⟩
  | tail hne u ih =>
    intro q hq
    rw [List.map_cons, List.nodup_cons] at hn
    rcases List.mem_cons.mp hq with rfl | hq
    · exact .inr ⟨.head _, hne⟩
    · exact (ih hn.2 q hq).imp id fun ⟨a, b⟩ => ⟨.tail _ a, b⟩
theorem SetR.keys {x : String} {p : PV} {ρ ρ' : Rho} (u : SetR x p ρ ρ') : ∀ y, y ∈ ρ'.map (·.1) → y = x ∨ y ∈ ρ.map (·.1) := by
  induction u with
  | nil => intro y hy; exact .inl (List.mem_singleton.mp hy)
  | head => intro y hy; exact .inr hy
  | tail hne u ih =>
    intro y hy
    rw [List.map_cons] at hy ⊢
    rcases List.mem_cons.mp hy with e | hy
    · exact .inr (e ▸ .head _)
    · exact (ih y hy).imp id fun h => .tail _ h
theorem SetR.nodup {x : String} {p : PV} {ρ ρ' : Rho} (u : SetR x p ρ ρ') (hn : (ρ.map (·.1)).Nodup) : (ρ'.map (·.1)).Nodup := by
  induction u with
  | nil => exact List.nodup_cons.mpr ⟨List.not_mem_nil, List.nodup_nil⟩
  | head => exact hn
  | tail hne u ih =>
    rw [List.map_cons, List.nodup_cons] at hn ⊢
    exact ⟨fun h => (u.keys _ h).elim hne hn.1, ih hn.2⟩
theorem ofString_inj {a b : String} (h : Str.ofString a = Str.ofString b) : a = b := by
  rw [Str.ofString_eq_toList, Str.ofString_eq_toList] at h
  have h1 : a.toList.map Char.toNat = b.toList.map Char.toNat := by simpa using h
  have : a.toList = b.toList := by
    refine List.map_inj_right (fun x y e => ?_) |>.mp h1
    exact Char.toNat_inj.mp e
  exact String.toList_injective this

section
variable {G : Gx} {bs im : PM} {s : Shared} {ρ ρ' : Rho} {σ : Led}
theorem St.store_local (x : St G bs im s ρ σ) {y : String} {p : PV} {v : Value} {h' : Heap} (t : Nat) (hy : (y, NameKind.local) ∈ G.ns) (hv : VR im p v) (u : SetR y p ρ ρ')
    (hm : ∀ m, s.heap.Ns G.env.locals m → h'.Ns G.env.locals (fun z => if z = Str.ofString y then some v else m z)) (hs : Heap.SameBut G.env.locals s.heap h') (ht : s.toks ≤ t := by first | exact Nat.le_refl _ | exact Nat.le_succ _ | assumption | walk_at "zo") :
    St G bs im { s with heap := h', toks := t } ρ' σ := by
  obtain ⟨hk, hp⟩ := x.f.kn _ hy
  have ne : ∀ b, (∃ o, bs.f b = some o) → b ≠ G.env.locals := fun b ⟨o, e⟩ q => by rw [q, x.f.lbs] at e; cases e
  have ni : ∀ b, (∃ o, im.f b = some o) → b ≠ G.env.locals := fun b ⟨o, e⟩ q => by rw [q, x.f.lim] at e; cases e
  have nl : ∀ p ∈ σ, p.1 ≠ G.env.locals := fun p hp q => x.f.lled (List.mem_map.mpr ⟨p, hp, q⟩)
  obtain ⟨ol, _, _, hol, hod⟩ := x.f.loc_some
  have hcell : ∀ c w, s.heap.IsCell c w → h'.IsCell c w := fun c w ⟨o, ho, hd⟩ => ⟨o, (hs.2 c (fun q => by rw [q, hol] at ho; cases ho; rw [hd] at hod; cases hod)).trans ho, hd⟩
  obtain ⟨m, hn, hr⟩ := x.f.vars
  refine ⟨⟨x.l.os, x.l.gens, x.l.cb, fun b o e => (hs.2 b (ne b ⟨o, e⟩)).trans (x.l.hbs b o e), fun b o e => (hs.2 b (ni b ⟨o, e⟩)).trans (x.l.him b o e), fun p hp => ?_, x.l.nd, x.l.gok, Nat.le_trans x.l.tk ht⟩,
    ⟨⟨_, hm m hn, fun q hq => ?_⟩, u.nodup x.f.rn, x.f.lbs, x.f.lim, x.f.lled, fun p hp => ?_, x.f.apart, x.f.outer, x.f.kind, x.f.gl, x.f.bi, x.f.kn, x.f.own, x.f.ck⟩⟩
  · obtain ⟨a, b⟩ := x.l.led p hp
    exact ⟨a.at fun o e => (hs.2 _ (nl p hp)).trans e, b⟩
  · rcases u.mem x.f.rn q hq with rfl | ⟨hq, hne⟩
    · exact ⟨v, hv, hp, .loc hk (by simp)⟩
    · obtain ⟨w, a, b, c⟩ := hr q hq
      refine ⟨w, a, b, ?_⟩
      cases c with
      | loc c d => exact .loc c (by rw [if_neg (fun e => hne (ofString_inj e))]; exact d)
      | cell c d e f => exact .cell c d e (hcell _ _ f)
      | glob c d => exact .glob c d
  · obtain ⟨⟨w, a⟩, b⟩ := x.f.cells p hp
    exact ⟨⟨w, hcell _ _ a⟩, b⟩
theorem St.store_cell (x : St G bs im s ρ σ) {y : String} {p : PV} {v : Value} {c : Addr} {h' : Heap} (t : Nat) (hy : (y, NameKind.cell) ∈ G.ns) (hc : (Str.ofString y, c) ∈ G.κ) (hv : VR im p v) (u : SetR y p ρ ρ')
    (hm : h'.IsCell c (some v)) (hs : Heap.SameBut c s.heap h') (ht : s.toks ≤ t := by first | exact Nat.le_refl _ | exact Nat.le_succ _ | assumption | walk_at "zo") :
    St G bs im { s with heap := h', toks := t } ρ' σ := by
  obtain ⟨hk, hp⟩ := x.f.kn _ hy
  obtain ⟨⟨w₀, hw₀⟩, cb, ci, cl, cl'⟩ := x.f.cells _ hc
  have ne : ∀ b, (∃ o, bs.f b = some o) → b ≠ c := fun b ⟨o, e⟩ q => by rw [q, cb] at e; cases e
  have ni : ∀ b, (∃ o, im.f b = some o) → b ≠ c := fun b ⟨o, e⟩ q => by rw [q, ci] at e; cases e
  have nl : ∀ p ∈ σ, p.1 ≠ c := fun p hp q => cl (List.mem_map.mpr ⟨p, hp, q⟩)
  obtain ⟨ol, _, _, hol, hod⟩ := x.f.loc_some
  have hLc : G.env.locals ≠ c := fun q => by obtain ⟨o, ho, hd⟩ := hw₀; rw [← q, hol] at ho; cases ho; rw [hod] at hd; cases hd
  have hcell : ∀ z c' w, G.env.cells.lookup z = some c' → z ≠ Str.ofString y → s.heap.IsCell c' w → h'.IsCell c' w := fun z c' w e q k => by
    refine k.sameBut hs ?_
    rcases x.f.outer z c' e with hz | hz
    · intro r; subst r; exact q (name_of_addr x.f.apart hz hc)
    · exact ne _ hz
  obtain ⟨m, hn, hr⟩ := x.f.vars
  refine ⟨⟨x.l.os, x.l.gens, x.l.cb, fun b o e => (hs.2 b (ne b ⟨o, e⟩)).trans (x.l.hbs b o e), fun b o e => (hs.2 b (ni b ⟨o, e⟩)).trans (x.l.him b o e), fun p hp => ?_, x.l.nd, x.l.gok, Nat.le_trans x.l.tk ht⟩,
    ⟨⟨m, hn.sameBut hs hLc, fun q hq => ?_⟩, u.nodup x.f.rn, x.f.lbs, x.f.lim, x.f.lled, fun p hp => ?_, x.f.apart, x.f.outer, x.f.kind, x.f.gl, x.f.bi, x.f.kn, x.f.own, x.f.ck⟩⟩
  · obtain ⟨a, b⟩ := x.l.led p hp
    exact ⟨a.at fun o e => (hs.2 _ (nl p hp)).trans e, b⟩
  · rcases u.mem x.f.rn q hq with rfl | ⟨hq, hne⟩
    · exact ⟨v, hv, hp, .cell (.inl hk) c cl' hm⟩
    · obtain ⟨w, a, b, cc⟩ := hr q hq
      refine ⟨w, a, b, ?_⟩
      cases cc with
      | loc c d => exact .loc c d
      | cell c d e f => exact .cell c d e (hcell _ _ _ e (fun e => hne (ofString_inj e)) f)
      | glob c d => exact .glob c d
  · obtain ⟨⟨w, a⟩, b1, b2, b3, b4⟩ := x.f.cells p hp
    refine ⟨?_, b1, b2, b3, b4⟩
    by_cases q : p.1 = Str.ofString y
    · rw [q, cl'] at b4; cases b4; exact ⟨_, hm⟩
    · exact ⟨w, hcell _ _ _ b4 q a⟩
end

section
variable {G : Gx} {ρ ρ' : Rho} {σ : Led}

theorem Ev.int {i : Int} {k : Nat} {pos : Pos} {Q : PV → Rho → Led → Prop} (h : Q (.int i) ρ σ) : Ev G (.Constant (.int i) k pos) ρ σ Q :=
  fun _ _ _ _ _ hS => wpAny_Constant_int (.now (hS.toks _) .int h)
theorem Ev.str {x : String} {k : Nat} {pos : Pos} {Q : PV → Rho → Led → Prop} (h : Q (.str (cs x)) ρ σ) : Ev G (.Constant (.str (Str.ofString x)) k pos) ρ σ Q :=
  fun _ _ _ _ _ hS => Constant_str (.now (hS.toks _) VR.str' h)
theorem Ev.none {k : Nat} {pos : Pos} {Q : PV → Rho → Led → Prop} (h : Q .none ρ σ) : Ev G (.Constant .none k pos) ρ σ Q :=
  fun _ _ _ _ _ hS => Constant_none (.now hS .none h)
theorem Ev.bool {b : Bool} {k : Nat} {pos : Pos} {Q : PV → Rho → Led → Prop} (h : Q (.bool b) ρ σ) : Ev G (.Constant (.bool b) k pos) ρ σ Q :=
  fun _ _ _ _ _ hS => Constant_bool (.now hS .bool h)
theorem load_has {bs im : PM} {s : Shared} {A : Around} {E : Value → Shared → Prop} {Qv : Value → Shared → Prop} (hS : St G bs im s ρ σ) {x : String} {p : PV} (hx : (x, p) ∈ ρ) (h : ∀ v, VR im p v → Qv v s) :
    PlainName (Str.ofString x) ∧ wpAny G.C.M A (loadName G.env (Str.ofString x)) Qv E s := by
  obtain ⟨m, hn, hr⟩ := hS.f.vars
  obtain ⟨v, hv, hp, hh⟩ := hr _ hx
  refine ⟨hp, ?_⟩
  cases hh with
  | loc hk hm => exact wpAny_loadName_local hS.f.kind hk hn hm (h v hv)
  | cell hk c hc hcell =>
    rcases hk with hk | hk
    · exact wpAny_loadName_cell hS.f.kind hk hc hcell (h v hv)
    · exact wpAny_loadName_free hS.f.kind hk hc hcell (h v hv) hp.2
  | glob hk hg => exact hg _ _ _ _ _ hS.f.kind hS.f.gl hS.f.bi hk (fun a o e => hS.l.hbs a o (hS.l.cb a o e)) (h v hv)
theorem Ev.name {x : String} {pos : Pos} {p : PV} {Q : PV → Rho → Led → Prop} (hx : (x, p) ∈ ρ) (h : Q p ρ σ) : Ev G (.Name (Str.ofString x) pos) ρ σ Q :=
  fun A _ _ _ _ hS => by
    obtain ⟨hp, hl⟩ := load_has (A := A) (E := Bot) hS hx (fun v hv => Post.now (Q := Q) hS hv h)
    exact wpAny_Name hl hp.1

noncomputable abbrev KOp2 (G : Gx) (f : Value → Value → Sem Value) (a : PV) (Q : PV → Rho → Led → Prop) : PV → Rho → Led → Prop := fun b ρ₂ σ₂ => Op2 G f a b ρ₂ σ₂ Q
noncomputable abbrev KBin (G : Gx) (e₂ : Expr) (f : Value → Value → Sem Value) (Q : PV → Rho → Led → Prop) : PV → Rho → Led → Prop := fun a ρ₁ σ₁ => Ev G e₂ ρ₁ σ₁ (KOp2 G f a Q)
noncomputable abbrev KOp1 (G : Gx) (f : Value → Sem Value) (Q : PV → Rho → Led → Prop) : PV → Rho → Led → Prop := fun a ρ₁ σ₁ => Op1 G f a ρ₁ σ₁ Q
noncomputable abbrev KTrue (G : Gx) (Q : Bool → Rho → Led → Prop) : PV → Rho → Led → Prop := fun a ρ₁ σ₁ => TrueOf G a ρ₁ σ₁ Q
noncomputable abbrev KIfE (G : Gx) (body orelse : Expr) (Q : PV → Rho → Led → Prop) : Bool → Rho → Led → Prop := fun b ρ₁ σ₁ => if b then Ev G body ρ₁ σ₁ Q else Ev G orelse ρ₁ σ₁ Q
noncomputable abbrev KIfS (G : Gx) (body orelse : List Stmt) (Q : Fl → Rho → Led → Prop) : Bool → Rho → Led → Prop := fun b ρ₁ σ₁ => if b then Ex G body ρ₁ σ₁ Q else Ex G orelse ρ₁ σ₁ Q
noncomputable abbrev KSeq (G : Gx) (rest : List Stmt) (Q : Fl → Rho → Led → Prop) : Fl → Rho → Led → Prop := fun fl ρ₁ σ₁ => match fl with | .next => Ex G rest ρ₁ σ₁ Q | fl => Q fl ρ₁ σ₁
noncomputable abbrev KRet (Q : Fl → Rho → Led → Prop) : PV → Rho → Led → Prop := fun p ρ₁ σ₁ => Q (.ret p) ρ₁ σ₁
noncomputable abbrev KAssert (Q : Fl → Rho → Led → Prop) : Bool → Rho → Led → Prop := fun b ρ₁ σ₁ => b = true ∧ Q .next ρ₁ σ₁
noncomputable abbrev KExpr (Q : Fl → Rho → Led → Prop) : PV → Rho → Led → Prop := fun p ρ₁ σ₁ => p = .none ∧ Q .next ρ₁ σ₁
theorem Tr.then2 {α β γ R R' R'' : Type} {rel : PM → R → α → Prop} {rel' : PM → R' → β → Prop} {rel'' : PM → R'' → γ → Prop} {t : Sem α} {u : Sem β} {f : α → β → Sem γ} {Q : R'' → Rho → Led → Prop}
    (hmono : ∀ im im' r a, PMle im im' → rel im r a → rel im' r a)
    (h : Tr G rel t ρ σ (fun r ρ₁ σ₁ => Tr G rel' u ρ₁ σ₁ (fun r' ρ₂ σ₂ => ∀ A bs im s a b, AOk G.n A → St G bs im s ρ₂ σ₂ → rel im r a → rel' im r' b → wpAny G.C.M A (f a b) (Post G rel'' bs im Q) Bot s)))
    {A : Around} {bs im : PM} {s : Shared} (hA : AOk G.n A) (hS : St G bs im s ρ σ) :
    wpAny G.C.M A t (fun a s₁ => wpAny G.C.M A u (fun b s₂ => wpAny G.C.M A (f a b) (Post G rel'' bs im Q) Bot s₂) Bot s₁) Bot s :=
  wpAny_mono (h A bs im s hA hS) (fun a s₁ p => by
    obtain ⟨im₁, r, ρ₁, σ₁, e, hr, hS₁, hC⟩ := p
    refine wpAny_mono (hC A bs im₁ s₁ hA hS₁) (fun b s₂ p => ?_) fun _ _ x => x
    obtain ⟨im₂, r', ρ₂, σ₂, e', hr', hS₂, hD⟩ := p
    exact wpAny_mono (hD A bs im₂ s₂ a b hA hS₂ (hmono _ _ _ _ e'.1 hr) hr') (fun _ _ q => q.ext (e.trans e')) fun _ _ x => x) fun _ _ x => x
theorem Ev.then2 {e₁ e₂ : Expr} {f : Value → Value → Sem Value} {Q : PV → Rho → Led → Prop} (h : Ev G e₁ ρ σ (fun a ρ₁ σ₁ => Ev G e₂ ρ₁ σ₁ (fun b ρ₂ σ₂ => Op2 G f a b ρ₂ σ₂ Q)))
    {A : Around} {bs im : PM} {s : Shared} (hA : AOk G.n A) (hS : St G bs im s ρ σ) :
    wpAny G.C.M A (eval e₁ G.env) (fun a s₁ => wpAny G.C.M A (eval e₂ G.env) (fun b s₂ => wpAny G.C.M A (f a b) (Post G VR bs im Q) Bot s₂) Bot s₁) Bot s :=
  Tr.then2 (fun _ _ _ _ k x => x.mono k) h hA hS
theorem Ev.binop {l : Expr} {op : Operator} {r : Expr} {pos : Pos} {Q : PV → Rho → Led → Prop} (h : Ev G l ρ σ (KBin G r (binaryOp op) Q)) :
    Ev G (.BinOp l op r pos) ρ σ Q := fun _ _ _ _ hA hS => wpAny_BinOp (Ev.then2 h hA hS)
theorem Ev.compare {l : Expr} {op : CmpOp} {r : Expr} {pos : Pos} {Q : PV → Rho → Led → Prop} (h : Ev G l ρ σ (KBin G r (compareOp op) Q))
    (hm : behindInMarks op r = false := by with_unfolding_all rfl) :
    Ev G (.Compare l [op] [r] pos) ρ σ Q := fun _ _ _ _ hA hS => wpAny_Compare1 (Ev.then2 h hA hS) hm
theorem Ev.unary {op : UnaryOp} {e : Expr} {pos : Pos} {Q : PV → Rho → Led → Prop} (h : Ev G e ρ σ (KOp1 G (unaryOp op) Q)) : Ev G (.UnaryOp op e pos) ρ σ Q :=
  fun _ _ _ _ hA hS => UnaryOp_ (Tr.then h hA hS)

theorem TrueOf.bool {b : Bool} {Q : Bool → Rho → Led → Prop} (h : Q b ρ σ) : TrueOf G (.bool b) ρ σ Q :=
  fun _ _ _ _ v _ hS hv => by rw [hv.bool_i]; exact wpAny_truthy_bool (.now hS rfl h)
theorem TrueOf.none {Q : Bool → Rho → Led → Prop} (h : Q false ρ σ) : TrueOf G .none ρ σ Q :=
  fun _ _ _ _ v _ hS hv => by rw [hv.none_i]; exact truthy_none (.now hS rfl h)

theorem Ts.plain {e : Expr} {Q : Bool → Rho → Led → Prop} (h : Ev G e ρ σ (KTrue G Q))
    (he : isTrue e G.env (eval e G.env) = (do let v ← eval e G.env; standAt e.pos; holding [v] (truthy v)) := by rfl) : Ts G e ρ σ Q :=
  fun _ _ _ _ hA hS => isTrue_plain (Tr.then h hA hS) he
theorem Ts.compare {l : Expr} {op : CmpOp} {r : Expr} {pos : Pos} {Q : Bool → Rho → Led → Prop} (h : Ev G l ρ σ (KBin G r (compareOp op) (KTrue G Q)))
    (hm : behindInMarks op r = false := by with_unfolding_all rfl) :
    Ts G (.Compare l [op] [r] pos) ρ σ Q := fun A bs im s hA hS => by
  refine wpAny_isTrue_Compare1 (wpAny_mono (h A bs im s hA hS) (fun a s₁ p => ?_) fun _ _ x => x) hm
  obtain ⟨im₁, r, ρ₁, σ₁, e, hr, hS₁, hC⟩ := p
  refine wpAny_mono (hC A bs im₁ s₁ hA hS₁) (fun b s₂ p => ?_) fun _ _ x => x
  obtain ⟨im₂, r', ρ₂, σ₂, e', hr', hS₂, hD⟩ := p
  refine wpAny_mono (hD A bs im₂ s₂ a b hA hS₂ (hr.mono e'.1) hr') (fun c s₃ p => ?_) fun _ _ x => x
  obtain ⟨im₃, r'', ρ₃, σ₃, e'', hr'', hS₃, hE⟩ := p
  exact wpAny_mono (hE A bs im₃ s₃ c hA hS₃ hr'') (fun _ _ q => q.ext (e.trans (e'.trans e''))) fun _ _ x => x
theorem Ts.not {e : Expr} {pos : Pos} {Q : Bool → Rho → Led → Prop} (h : Ts G e ρ σ (fun b ρ₁ σ₁ => Q (!b) ρ₁ σ₁)) : Ts G (.UnaryOp .Not e pos) ρ σ Q :=
  fun A bs im s hA hS => isTrue_not (wpAny_mono (h A bs im s hA hS) (fun b s' p => by
    obtain ⟨im', r, ρ', σ', e, hr, hS', hQ⟩ := p
    cases hr
    exact ⟨im', _, ρ', σ', e, rfl, hS', hQ⟩) fun _ _ x => x)
noncomputable def TsAll (G : Gx) (op : BoolOp) (es : List Expr) (ρ : Rho) (σ : Led) (Q : Bool → Rho → Led → Prop) : Prop := Tr G relB (allTrue op es G.env) ρ σ Q
noncomputable abbrev KAnd (G : Gx) (es : List Expr) (Q : Bool → Rho → Led → Prop) : Bool → Rho → Led → Prop := fun b ρ₁ σ₁ => if b then TsAll G .And es ρ₁ σ₁ Q else Q false ρ₁ σ₁
noncomputable abbrev KOr (G : Gx) (es : List Expr) (Q : Bool → Rho → Led → Prop) : Bool → Rho → Led → Prop := fun b ρ₁ σ₁ => if b then Q true ρ₁ σ₁ else TsAll G .Or es ρ₁ σ₁ Q
theorem Ts.bool {op : BoolOp} {es : List Expr} {pos : Pos} {Q : Bool → Rho → Led → Prop} (h : TsAll G op es ρ σ Q) : Ts G (.BoolOp op es pos) ρ σ Q := h
theorem TsAll.nilAnd {Q : Bool → Rho → Led → Prop} (h : Q true ρ σ) : TsAll G .And [] ρ σ Q := fun _ _ _ _ _ hS => wpAny_pure (.now hS rfl h)
theorem TsAll.nilOr {Q : Bool → Rho → Led → Prop} (h : Q false ρ σ) : TsAll G .Or [] ρ σ Q := fun _ _ _ _ _ hS => wpAny_pure (.now hS rfl h)
theorem TsAll.and {e : Expr} {es : List Expr} {Q : Bool → Rho → Led → Prop} (h : Ts G e ρ σ (KAnd G es Q)) : TsAll G .And (e :: es) ρ σ Q :=
  fun A bs im s hA hS => isTrue_and (pos := default) (whole := pure .none) (wpAny_mono (h A bs im s hA hS) (fun b s₁ p => by
    obtain ⟨im₁, r, ρ₁, σ₁, e, hr, hS₁, hC⟩ := p
    cases hr
    cases b with
    | false => exact ⟨im₁, false, ρ₁, σ₁, e, rfl, hS₁, hC⟩
    | true => exact wpAny_mono (hC A bs im₁ s₁ hA hS₁) (fun _ _ q => q.ext e) fun _ _ x => x) fun _ _ x => x)
theorem TsAll.or {e : Expr} {es : List Expr} {Q : Bool → Rho → Led → Prop} (h : Ts G e ρ σ (KOr G es Q)) : TsAll G .Or (e :: es) ρ σ Q :=
  fun A bs im s hA hS => isTrue_or (pos := default) (whole := pure .none) (wpAny_mono (h A bs im s hA hS) (fun b s₁ p => by
    obtain ⟨im₁, r, ρ₁, σ₁, e, hr, hS₁, hC⟩ := p
    cases hr
    cases b with
    | true => exact ⟨im₁, true, ρ₁, σ₁, e, rfl, hS₁, hC⟩
    | false => exact wpAny_mono (hC A bs im₁ s₁ hA hS₁) (fun _ _ q => q.ext e) fun _ _ x => x) fun _ _ x => x)

theorem Tr.ite {α R : Type} {rel : PM → R → α → Prop} {tst : Sem Bool} {t u : Sem α} {Q : R → Rho → Led → Prop} (h : Tr G relB tst ρ σ (fun b ρ₁ σ₁ => if b then Tr G rel t ρ₁ σ₁ Q else Tr G rel u ρ₁ σ₁ Q))
    {A : Around} {bs im : PM} {s : Shared} (hA : AOk G.n A) (hS : St G bs im s ρ σ) :
    wpAny G.C.M A tst (fun b s₁ => if b then wpAny G.C.M A t (Post G rel bs im Q) Bot s₁ else wpAny G.C.M A u (Post G rel bs im Q) Bot s₁) Bot s :=
  wpAny_mono (h A bs im s hA hS) (fun b s₁ p => by
    obtain ⟨im₁, r, ρ₁, σ₁, e, hr, hS₁, hC⟩ := p
    cases hr
    cases b with
    | true => exact wpAny_mono (hC A bs im₁ s₁ hA hS₁) (fun _ _ q => q.ext e) fun _ _ x => x
    | false => exact wpAny_mono (hC A bs im₁ s₁ hA hS₁) (fun _ _ q => q.ext e) fun _ _ x => x) fun _ _ x => x
theorem Ev.ifexp {test body orelse : Expr} {pos : Pos} {Q : PV → Rho → Led → Prop} (h : Ts G test ρ σ (KIfE G body orelse Q)) : Ev G (.IfExp test body orelse pos) ρ σ Q :=
  fun _ _ _ _ hA hS => wpAny_IfExp (Tr.ite h hA hS)

noncomputable abbrev As (G : Gx) (t : Expr) (p : PV) (ρ : Rho) (σ : Led) (Q : Rho → Led → Prop) : Prop := Con G VR p (fun v => assign t G.env v) relU ρ σ (fun _ ρ' σ' => Q ρ' σ')
theorem store_con {y : String} {p : PV} {Q : Rho → Led → Prop} (hy : (y, NameKind.local) ∈ G.ns) (u : SetR y p ρ ρ') (h : Q ρ' σ) :
    Con G VR p (fun v => storeName G.env (Str.ofString y) v) relU ρ σ (fun _ ρ' σ' => Q ρ' σ') := fun A bs im s v hA hS hv => by
  obtain ⟨m, hn, hr⟩ := hS.f.vars
  refine wpAny_storeName_local (hS.f.kn _ hy).1 hn (fun h' hn' hs' => ?_) (by rw [hS.f.kind]; rfl)
  refine .now (r := ()) (hS.store_local _ hy hv u (fun m₂ hn₂ => ?_) hs') trivial h
  have e : m₂ = m := by
    obtain ⟨o, es, ep, a, b, c, d⟩ := hn
    obtain ⟨o', es', ep', a', b', c', d'⟩ := hn₂
    rw [a] at a'; cases a'; rw [b] at b'; cases b'
    funext z; rw [← d, ← d']
  rw [e]; exact hn'
theorem storeC_con {y : String} {p : PV} {Q : Rho → Led → Prop} (hy : (y, NameKind.cell) ∈ G.ns) (u : SetR y p ρ ρ') (h : Q ρ' σ) :
    Con G VR p (fun v => storeName G.env (Str.ofString y) v) relU ρ σ (fun _ ρ' σ' => Q ρ' σ') := fun A bs im s v hA hS hv => by
  obtain ⟨c, hc⟩ := hS.f.own _ hy rfl
  obtain ⟨⟨w, hw⟩, _, _, _, hl⟩ := hS.f.cells _ hc
  exact wpAny_storeName_cell hS.f.kind (hS.f.kn _ hy).1 hl hw fun h' hv' hs' => .now (r := ()) (hS.store_cell (v := v) s.toks hy hc hv u hv' hs') trivial h
theorem As.name {y : String} {pos : Pos} {p : PV} {Q : Rho → Led → Prop} (hy : (y, NameKind.local) ∈ G.ns) (u : SetR y p ρ ρ') (h : Q ρ' σ) : As G (.Name (Str.ofString y) pos) p ρ σ Q :=
  fun A bs im s v hA hS hv => wpAny_assign_Name (store_con hy u h A bs im s v hA hS hv)
theorem As.nameC {y : String} {pos : Pos} {p : PV} {Q : Rho → Led → Prop} (hy : (y, NameKind.cell) ∈ G.ns) (u : SetR y p ρ ρ') (h : Q ρ' σ) : As G (.Name (Str.ofString y) pos) p ρ σ Q :=
  fun A bs im s v hA hS hv => wpAny_assign_Name (storeC_con hy u h A bs im s v hA hS hv)

noncomputable abbrev KAs (G : Gx) (t : Expr) (Q : Fl → Rho → Led → Prop) : PV → Rho → Led → Prop := fun p ρ₁ σ₁ => As G t p ρ₁ σ₁ (Q .next)
noncomputable abbrev KSto (G : Gx) (y : String) (Q : Fl → Rho → Led → Prop) : PV → Rho → Led → Prop := fun r ρ₂ σ₂ => Con G VR r (fun v => storeName G.env (Str.ofString y) v) relU ρ₂ σ₂ (fun _ ρ₃ σ₃ => Q .next ρ₃ σ₃)
noncomputable abbrev KTurn (I : Nat → Rho → Led → Prop) (k : Nat) (Q : Fl → Rho → Led → Prop) : Fl → Rho → Led → Prop := fun fl ρ₂ σ₂ => match fl with | .next | .cont => ∃ m, m < k ∧ I m ρ₂ σ₂ | .brk => Q .next ρ₂ σ₂ | .ret v => Q (.ret v) ρ₂ σ₂
noncomputable abbrev KWhile (G : Gx) (body : List Stmt) (QB Q : Fl → Rho → Led → Prop) : Bool → Rho → Led → Prop := fun b ρ₁ σ₁ => if b then Ex G body ρ₁ σ₁ QB else Q .next ρ₁ σ₁
theorem Ex.nil {Q : Fl → Rho → Led → Prop} (h : Q .next ρ σ) : Ex G [] ρ σ Q := fun _ _ _ _ _ hS => wpAny_execs_nil (.now (r := Fl.next) hS rfl h)
theorem Ex.cons {st : Stmt} {rest : List Stmt} {Q : Fl → Rho → Led → Prop} (h : Ex1 G st ρ σ (KSeq G rest Q)) : Ex G (st :: rest) ρ σ Q :=
  fun A bs im s hA hS => wpAny_execs_cons (wpAny_mono (h A bs im s hA hS) (fun f s₁ p => by
    obtain ⟨im₁, fl, ρ₁, σ₁, e, hr, hS₁, hC⟩ := p
    cases fl with
    | next => cases hr; exact wpAny_mono (hC A bs im₁ s₁ hA hS₁) (fun _ _ q => q.ext e) fun _ _ x => x
    | brk => cases hr; exact ⟨im₁, .brk, ρ₁, σ₁, e, rfl, hS₁, hC⟩
    | cont => cases hr; exact ⟨im₁, .cont, ρ₁, σ₁, e, rfl, hS₁, hC⟩
    | ret v => obtain ⟨w, rfl, hw⟩ := hr; exact ⟨im₁, .ret v, ρ₁, σ₁, e, ⟨w, rfl, hw⟩, hS₁, hC⟩) fun _ _ x => x)
theorem Ex1.brk {pos : Pos} {Q : Fl → Rho → Led → Prop} (h : Q .brk ρ σ) : Ex1 G (.Break pos) ρ σ Q := fun _ _ _ _ _ hS => wpAny_Break (.now (r := Fl.brk) hS rfl h)
theorem Ex1.cont {pos : Pos} {Q : Fl → Rho → Led → Prop} (h : Q .cont ρ σ) : Ex1 G (.Continue pos) ρ σ Q := fun _ _ _ _ _ hS => wpAny_Continue (.now (r := Fl.cont) hS rfl h)
theorem Ex1.ret {e : Expr} {pos : Pos} {Q : Fl → Rho → Led → Prop} (h : Ev G e ρ σ (KRet Q)) : Ex1 G (.Return (some e) pos) ρ σ Q :=
  fun A bs im s hA hS => wpAny_Return_some (wpAny_mono (h A bs im s hA hS) (fun v s₁ p => by
    obtain ⟨im₁, r, ρ₁, σ₁, e, hr, hS₁, hC⟩ := p
    exact ⟨im₁, .ret r, ρ₁, σ₁, e, ⟨v, rfl, hr⟩, hS₁, hC⟩) fun _ _ x => x)
theorem Ex1.if {test : Expr} {body orelse : List Stmt} {pos : Pos} {Q : Fl → Rho → Led → Prop} (h : Ts G test ρ σ (KIfS G body orelse Q)) : Ex1 G (.If test body orelse pos) ρ σ Q :=
  fun _ _ _ _ hA hS => wpAny_If (Tr.ite h hA hS)
theorem Ex1.assert {test : Expr} {msg : Option Expr} {pos : Pos} {Q : Fl → Rho → Led → Prop} (h : Ts G test ρ σ (KAssert Q)) : Ex1 G (.Assert test msg pos) ρ σ Q :=
  fun A bs im s hA hS => wpAny_Assert_holds (wpAny_mono (h A bs im s hA hS) (fun b s₁ p => by
    obtain ⟨im₁, r, ρ₁, σ₁, e, hr, hS₁, hC⟩ := p
    cases hr
    exact ⟨hC.1, im₁, .next, ρ₁, σ₁, e, rfl, hS₁, hC.2⟩) fun _ _ x => x)
theorem Tr.thenNext {t : Sem Unit} {Q : Fl → Rho → Led → Prop} {A : Around} {bs im : PM} {s : Shared} (h : wpAny G.C.M A t (Post G relU bs im fun _ ρ₂ σ₂ => Q .next ρ₂ σ₂) Bot s) : wpAny G.C.M A (t >>= fun _ => pure Flow.next) (Post G FlR bs im Q) Bot s :=
  wpAny_bind (wpAny_mono h (fun _ s₂ p => by
    obtain ⟨im₂, r, ρ₂, σ₂, e, hr, hS₂, hC⟩ := p
    exact wpAny_pure ⟨im₂, .next, ρ₂, σ₂, e, rfl, hS₂, hC⟩) fun _ _ x => x)
theorem Ex1.asg {t value : Expr} {pos : Pos} {Q : Fl → Rho → Led → Prop} (h : Ev G value ρ σ (KAs G t Q))
    (hs : swapsWithSole [t] value pos.line G.env = pure false := by rfl) (hw : swappedStores [t] value G.env = pure none := by rfl) (ht : (assignEach [t] G.env).map (·.2) = [assign t G.env] := by rfl) : Ex1 G (.Assign [t] value pos) ρ σ Q :=
  fun A bs im s hA hS => by
    show wpAny _ _ (exec (.Assign [t] value pos) G.env) _ _ _
    rw [PyProof.Rows.exec_Assign]
    refine wpAny_bind (wpAny_standAt ?_)
    rw [hs]
    refine wpAny_bind (wpAny_pure ?_)
    rw [if_neg (by decide)]
    refine wpAny_bind (wpAny_mono (Tr.then h hA hS) (fun v s₁ h₁ => ?_) fun _ _ x => x)
    rw [hw]
    refine wpAny_bind (wpAny_pure ?_)
    rw [ht]
    exact Tr.thenNext h₁
theorem Ex1.aug {y : String} {pos' : Pos} {op : Operator} {value : Expr} {pos : Pos} {p : PV} {Q : Fl → Rho → Led → Prop} (hy : (y, p) ∈ ρ)
    (h : Ev G value ρ σ (KOp2 G (inplaceOp op) p (KSto G y Q))) :
    Ex1 G (.AugAssign (.Name (Str.ofString y) pos') op value pos) ρ σ Q := fun A bs im s hA hS => by
  refine wpAny_AugAssign_Name (load_has hS hy (fun v hv => ?_)).2
  refine wpAny_mono (h A bs im s hA hS) (fun w s₁ q => ?_) fun _ _ x => x
  obtain ⟨im₁, r, ρ₁, σ₁, e, hr, hS₁, hC⟩ := q
  refine wpAny_mono (hC A bs im₁ s₁ v w hA hS₁ (hv.mono e.1) hr) (fun z s₂ q => ?_) fun _ _ x => x
  obtain ⟨im₂, r₂, ρ₂, σ₂, e₂, hr₂, hS₂, hD⟩ := q
  refine wpAny_mono (hD A bs im₂ s₂ z hA hS₂ hr₂) (fun _ s₃ q => ?_) fun _ _ x => x
  obtain ⟨im₃, r₃, ρ₃, σ₃, e₃, hr₃, hS₃, hE⟩ := q
  exact ⟨im₃, .next, ρ₃, σ₃, e.trans (e₂.trans e₃), rfl, hS₃, hE⟩
theorem Ex1.expr {e : Expr} {pos : Pos} {Q : Fl → Rho → Led → Prop} (h : Ev G e ρ σ (KExpr Q)) (hs : swapsWith e none pos.line G.env = pure false := by rfl) :
    Ex1 G (.Expr e pos) ρ σ Q := fun A bs im s hA hS => by
  have hi : interactive G.env = false := by unfold interactive; rw [hS.f.kind]; rfl
  refine wpAny_Expr (wpAny_mono (h A bs im s hA hS) (fun v s₁ p => ?_) fun _ _ x => x) hi hs
  obtain ⟨im₁, r, ρ₁, σ₁, e, hr, hS₁, rfl, hC⟩ := p
  rw [hr.none_i]
  exact ⟨im₁, .next, ρ₁, σ₁, e, rfl, hS₁, hC⟩

theorem notedBot {A : Around} {env : Env} {E : Value → Shared → Prop} {M : Model} {v : Value} {s : Shared} (h : Bot v s) : notedBy M A env E v s := h.elim
theorem Ex1.while {test : Expr} {body : List Stmt} {pos : Pos} {Q : Fl → Rho → Led → Prop} (I : Nat → Rho → Led → Prop)
    (turn : ∀ k ρ σ, I k ρ σ → Ts G test ρ σ (KWhile G body (KTurn I k Q) Q))
    (k : Nat) (h : I k ρ σ) : Ex1 G (.While test body [] pos) ρ σ Q := fun A bs im s hA hS => by
  refine wpAny_While ?_
  refine codeAny_whileLoop (fun n s' => ∃ im' ρ' σ', Ext bs im im' ∧ St G bs im' s' ρ' σ' ∧ I n ρ' σ') ?_ k ⟨im, ρ, σ, .refl, hS, h⟩
  rintro n s' ⟨im', ρ', σ', e, hS', hI⟩
  refine wpAny_mono (turn n ρ' σ' hI A bs im' s' hA hS') (fun b s₂ p => ?_) fun _ _ x => notedBot x
  obtain ⟨im₂, r, ρ₂, σ₂, e₂, hr, hS₂, hC⟩ := p
  cases hr
  cases b with
  | false => exact wpAny_execs_nil ⟨im₂, .next, ρ₂, σ₂, e.trans e₂, rfl, hS₂, hC⟩
  | true =>
    refine wpAny_mono (hC A bs im₂ s₂ hA hS₂) (fun f s₃ p => ?_) fun _ _ x => notedBot x
    obtain ⟨im₃, fl, ρ₃, σ₃, e₃, hr₃, hS₃, hD⟩ := p
    have ee := e.trans (e₂.trans e₃)
    cases fl with
    | next => cases hr₃; obtain ⟨m, hm, hI'⟩ := hD; exact ⟨m, hm, im₃, ρ₃, σ₃, ee, hS₃, hI'⟩
    | cont => cases hr₃; obtain ⟨m, hm, hI'⟩ := hD; exact ⟨m, hm, im₃, ρ₃, σ₃, ee, hS₃, hI'⟩
    | brk => cases hr₃; exact ⟨im₃, .next, ρ₃, σ₃, ee, rfl, hS₃, hD⟩
    | ret v => obtain ⟨w, rfl, hw⟩ := hr₃; exact ⟨im₃, .ret v, ρ₃, σ₃, ee, ⟨w, rfl, hw⟩, hS₃, hD⟩
end
end Mine.Tactic
end
section
open PySem PySem.W PyProof.Rows PySem.Calls
set_option Elab.async false
set_option maxRecDepth 100000
namespace Mine.Tactic

theorem St.off {G : Gx} {bs im : PM} {s : Shared} {ρ : Rho} {σ : Led} (x : St G bs im s ρ σ) {W : Addr → Prop} {h' : Heap} (t : Nat) (hk : ∀ b o, ¬ W b → s.heap.get? b = some o → h'.get? b = some o)
    (wb : ∀ b, W b → bs.f b = none) (wi : ∀ b, W b → im.f b = none) (ws : ∀ b, W b → b ∉ σ.map (·.1)) (wl : ¬ W G.env.locals) (wk : ∀ p ∈ G.κ, ¬ W p.2) (ht : s.toks ≤ t := by first | exact Nat.le_refl _ | exact Nat.le_succ _ | assumption | walk_at "zo") : St G bs im { s with heap := h', toks := t } ρ σ := by
  have nb : ∀ b o, bs.f b = some o → ¬ W b := fun b o e q => by rw [wb b q] at e; cases e
  have ni : ∀ b o, im.f b = some o → ¬ W b := fun b o e q => by rw [wi b q] at e; cases e
  have hcell : ∀ y c w, G.env.cells.lookup y = some c → s.heap.IsCell c w → h'.IsCell c w := fun y c w e ⟨o, ho, hd⟩ => by
    have hc : ¬ W c := by
      rcases x.f.outer y c e with q | ⟨o, q⟩
      · exact wk _ q
      · exact nb _ _ q
    exact ⟨o, hk c o hc ho, hd⟩
  refine ⟨⟨x.l.os, x.l.gens, x.l.cb, fun b o e => hk b o (nb b o e) (x.l.hbs b o e), fun b o e => hk b o (ni b o e) (x.l.him b o e), fun p hp => ?_, x.l.nd, x.l.gok, Nat.le_trans x.l.tk ht⟩,
    ⟨?_, x.f.rn, x.f.lbs, x.f.lim, x.f.lled, fun p hp => ?_, x.f.apart, x.f.outer, x.f.kind, x.f.gl, x.f.bi, x.f.kn, x.f.own, x.f.ck⟩⟩
  · obtain ⟨c, d⟩ := x.l.led p hp
    exact ⟨c.at fun y e => hk _ y (fun q => ws _ q (List.mem_map_of_mem hp)) e, d⟩
  · obtain ⟨m, ⟨o, es, ep, a, b⟩, d⟩ := x.f.vars
    exact ⟨m, ⟨o, es, ep, hk _ _ wl a, b⟩, fun p hp => let ⟨v, e, f⟩ := d p hp; ⟨v, e, f.keeps (hcell _)⟩⟩
  · obtain ⟨⟨v, c⟩, d, e, f, g⟩ := x.f.cells p hp
    exact ⟨⟨v, hcell _ _ _ g c⟩, d, e, f, g⟩

noncomputable def PM.over (bs : PM) (F : Addr → Prop) [DecidablePred F] (h : Heap) : PM := ⟨fun b => if F b then h.get? b else bs.f b, bs.n⟩
theorem PM.over_at (bs : PM) (F : Addr → Prop) [DecidablePred F] (h : Heap) (b : Addr) : (bs.over F h).f b = if F b then h.get? b else bs.f b := rfl
theorem St.over {G : Gx} {bs im : PM} {s : Shared} {ρ : Rho} {σ : Led} (x : St G bs im s ρ σ) (F : Addr → Prop) [DecidablePred F] (fs : ∀ b, F b → b ∉ σ.map (·.1)) (fl : ¬ F G.env.locals) (fk : ∀ p ∈ G.κ, ¬ F p.2) :
    St G (bs.over F s.heap) im s ρ σ := by
  have sub : ∀ b o, bs.f b = some o → (bs.over F s.heap).f b = some o := fun b o e => by
    rw [PM.over_at]; split
    · exact x.l.hbs b o e
    · exact e
  refine ⟨⟨x.l.os, x.l.gens, fun a o e => sub a o (x.l.cb a o e), fun b o e => ?_, x.l.him, fun p hp => ?_, x.l.nd, x.l.gok, x.l.tk⟩, ⟨x.f.vars, x.f.rn, ?_, x.f.lim, x.f.lled, fun p hp => ?_, x.f.apart, fun y c e => ?_, x.f.kind, x.f.gl, x.f.bi, x.f.kn, x.f.own, x.f.ck⟩⟩
  · rw [PM.over_at] at e; split at e
    · exact e
    · exact x.l.hbs b o e
  · obtain ⟨a, b, c⟩ := x.l.led p hp
    exact ⟨a, by rw [PM.over_at, if_neg (fun q => fs _ q (List.mem_map_of_mem hp))]; exact b, c⟩
  · rw [PM.over_at, if_neg fl]; exact x.f.lbs
  · obtain ⟨a, b, c⟩ := x.f.cells p hp
    exact ⟨a, by rw [PM.over_at, if_neg (fk p hp)]; exact b, c⟩
  · exact (x.f.outer y c e).imp id fun ⟨o, q⟩ => ⟨o, sub _ _ q⟩
theorem PM.over_sub {bs : PM} {F : Addr → Prop} [DecidablePred F] {h : Heap} (hb : ∀ b o, bs.f b = some o → h.get? b = some o) : ∀ b o, bs.f b = some o → (bs.over F h).f b = some o := fun b o e => by
  rw [PM.over_at]; split
  · exact hb b o e
  · exact e
theorem St.under {G : Gx} {bs bs' im : PM} {s : Shared} {ρ : Rho} {σ : Led} (x : St G bs' im s ρ σ) (sub : ∀ b o, bs.f b = some o → bs'.f b = some o) (cb : ∀ a o, G.C.base.f a = some o → bs.f a = some o)
    (out : ∀ y c, G.env.cells.lookup y = some c → (y, c) ∈ G.κ ∨ ∃ o, bs.f c = some o) : St G bs im s ρ σ := by
  have none_of : ∀ b, bs'.f b = none → bs.f b = none := fun b e => by cases q : bs.f b with | none => rfl | some o => rw [sub b o q] at e; cases e
  exact ⟨⟨x.l.os, x.l.gens, cb, fun b o e => x.l.hbs b o (sub b o e), x.l.him, fun p hp => let ⟨a, b, c⟩ := x.l.led p hp; ⟨a, none_of _ b, c⟩, x.l.nd, x.l.gok, x.l.tk⟩,
    ⟨x.f.vars, x.f.rn, none_of _ x.f.lbs, x.f.lim, x.f.lled, fun p hp => let ⟨a, b, c⟩ := x.f.cells p hp; ⟨a, none_of _ b, c⟩, x.f.apart, out, x.f.kind, x.f.gl, x.f.bi, x.f.kn, x.f.own, x.f.ck⟩⟩
theorem Ext.under {bs bs' im im' : PM} (x : Ext bs' im im') (sub : ∀ b o, bs.f b = some o → bs'.f b = some o) : Ext bs im im' :=
  ⟨x.1, fun a e => (x.2 a e).imp id fun q => by cases z : bs.f a with | none => rfl | some o => rw [sub a o z] at q; cases q⟩

structure NewIm (im im₂ : PM) (h₀ h₂ : Heap) : Prop where
  k : PMle im im₂
  nw : ∀ a o, im₂.f a = some o → im.f a = some o ∨ (h₀.get? a = none ∧ h₂.get? a = some o)
  tn : im₂.n = im.n
theorem NewIm.refl {im : PM} {h₀ h₂ : Heap} : NewIm im im h₀ h₂ := ⟨⟨fun _ _ e => e, Nat.le_refl _⟩, fun _ _ e => .inl e, rfl⟩
theorem St.offNew {G : Gx} {bs im im₂ : PM} {s : Shared} {ρ : Rho} {σ : Led} (x : St G bs im s ρ σ) {W : Addr → Prop} {h' : Heap} (t : Nat) (hk : ∀ b o, ¬ W b → s.heap.get? b = some o → h'.get? b = some o)
    (wb : ∀ b, W b → bs.f b = none) (wi : ∀ b, W b → im.f b = none) (ws : ∀ b, W b → b ∉ σ.map (·.1)) (wl : ¬ W G.env.locals) (wk : ∀ p ∈ G.κ, ¬ W p.2) (n : NewIm im im₂ s.heap h') (ht : s.toks ≤ t := by first | exact Nat.le_refl _ | exact Nat.le_succ _ | assumption | walk_at "zo") : Ext bs im im₂ ∧ St G bs im₂ { s with heap := h', toks := t } ρ σ := by
  have y := x.off t hk wb wi ws wl wk ht
  have no : ∀ a, im.f a = none → (∃ o, s.heap.get? a = some o) → im₂.f a = none := fun a e ⟨o, ho⟩ => by
    cases q : im₂.f a with
    | none => rfl
    | some o' =>
      rcases n.nw a o' q with z | ⟨z, _⟩
      · rw [e] at z; cases z
      · rw [ho] at z; cases z
  refine ⟨⟨n.k, fun a e => ?_⟩, ⟨y.l.os, y.l.gens, y.l.cb, y.l.hbs, fun a o e => ?_, fun p hp => ?_, y.l.nd, y.l.gok, by rw [n.tn]; exact y.l.tk⟩, ⟨?_, y.f.rn, y.f.lbs, ?_, y.f.lled, fun p hp => ?_, y.f.apart, y.f.outer, y.f.kind, y.f.gl, y.f.bi, y.f.kn, y.f.own, y.f.ck⟩⟩
  · cases q : im₂.f a with
    | none => exact absurd q e
    | some o =>
      rcases n.nw a o q with z | ⟨z, _⟩
      · exact .inl (by rw [z]; simp)
      · exact .inr (x.l.bs_none z)
  · rcases n.nw a o e with z | ⟨_, z⟩
    · exact y.l.him a o z
    · exact z
  · obtain ⟨a, b, c⟩ := y.l.led p hp
    exact ⟨a.mono n.k, b, no _ c (x.l.led p hp).1.some⟩
  · obtain ⟨m, a, b⟩ := y.f.vars
    exact ⟨m, a, fun p hp => let ⟨v, c, d⟩ := b p hp; ⟨v, c.mono n.k, d⟩⟩
  · obtain ⟨o, _, _, ho, _⟩ := x.f.loc_some
    exact no _ y.f.lim ⟨o, ho⟩
  · obtain ⟨a, b, c, d, e⟩ := y.f.cells p hp
    obtain ⟨⟨v, oc, hoc, _⟩, _⟩ := x.f.cells p hp
    exact ⟨a, b, no _ c ⟨oc, hoc⟩, d, e⟩

structure Apart (G : Gx) (bs im : PM) (σ : Led) (b : Addr) : Prop where
  bs : bs.f b = none
  im : im.f b = none
  led : b ∉ σ.map (·.1)
  loc : b ≠ G.env.locals
  cel : ∀ q ∈ G.κ, q.2 ≠ b
theorem St.apart_new {G : Gx} {bs im : PM} {s : Shared} {ρ : Rho} {σ : Led} (hS : St G bs im s ρ σ) {b : Addr} (hn : s.heap.get? b = none) : Apart G bs im σ b := by
  obtain ⟨ol, _, _, hol, _⟩ := hS.f.loc_some
  refine ⟨hS.l.bs_none hn, hS.l.im_none hn, hS.l.led_some hn, (fun q => by rw [q, hol] at hn; cases hn), fun q hq e => ?_⟩
  obtain ⟨⟨v, o, ho, _⟩, _⟩ := hS.f.cells q hq
  rw [e, hn] at ho; cases ho
structure IsIt (G : Gx) (A : Around) (im : PM) (h : Heap) (tg : Expr) (σf σr : Led) (items : List PV) (I : Addr) (fp wr : List Addr) (P : Nat → Heap → Value → Heap → Prop) (S : Nat → Heap → Prop) : Prop where
  sub : ∀ b ∈ wr, b ∈ fp
  frame : ∀ i h h', S i h → (∀ b ∈ fp, ∀ o, h.get? b = some o → h'.get? b = some o) → S i h'
  next : ∀ i (s : Shared) (Q : Option Value → Shared → Prop) (E : Value → Shared → Prop), i < items.length → S i s.heap →
    (∀ v h₁ tk, (∀ (Q' : Unit → Shared → Prop), (∀ h₂, P i s.heap v h₂ → S (i + 1) h₂ → (∀ b o, b ∉ wr → s.heap.get? b = some o → h₂.get? b = some o) → Q' () { s with heap := h₂, toks := tk }) →
      wpAny G.C.M A (letOwnedTupleGo tg (.ref I) v) Q' Bot { s with heap := h₁, toks := tk }) → Q (some v) { s with heap := h₁, toks := tk }) → wpAny G.C.M A (pyNext (.ref I)) Q E s
  done : ∀ (s : Shared) (Q : Option Value → Shared → Prop) (E : Value → Shared → Prop), S items.length s.heap →
    (∀ h' tk, (∀ b o, b ∉ wr → s.heap.get? b = some o → h'.get? b = some o) → Q none { s with heap := h', toks := tk }) → wpAny G.C.M A (pyNext (.ref I)) Q E s
  self : ∀ i (s : Shared) (Q : Value → Shared → Prop) (E : Value → Shared → Prop), S i s.heap → Q (.ref I) s → wpAny G.C.M A (pyIter (.ref I)) Q E s
  st : S 0 h
  wrI : I ∈ wr
  fps : ∀ b ∈ fp, b ∉ wr → (∃ o, im.f b = some o) ∨ (b ∈ σf.map (·.1) ∧ b ∈ σr.map (·.1))
  back : ∀ p ∈ σr, p ∈ σf ∧ p.1 ∈ fp ∧ p.1 ∉ wr
  has : ∀ i h, S i h → ∀ b ∈ wr, ∃ o, h.get? b = some o
  val : ∀ im' i h₀ v h₂, PMle im im' → (∀ a o, im'.f a = some o → h₀.get? a = some o) → P i h₀ v h₂ → ∀ p, items[i]? = some p → ∃ im₂, NewIm im' im₂ h₀ h₂ ∧ VR im₂ p v
structure PlainIt (G : Gx) (A : Around) (im : PM) (h : Heap) (σf σr : Led) (items : List PV) (I : Addr) (fp : List Addr) (P : Nat → Value → Prop) (S : Nat → Heap → Prop) : Prop where
  walks : Walks G.C.prog G.C.w A I fp [I] items.length P S
  st : S 0 h
  fpI : I ∈ fp
  fps : ∀ b ∈ fp, b ≠ I → (∃ o, im.f b = some o) ∨ (b ∈ σf.map (·.1) ∧ b ∈ σr.map (·.1))
  back : ∀ p ∈ σr, p ∈ σf ∧ p.1 ∈ fp ∧ p.1 ≠ I
  has : ∀ i h, S i h → ∃ o, h.get? I = some o
  item : ∀ im' i v, PMle im im' → P i v → ∀ p, items[i]? = some p → VR im' p v
  go : ∀ target i v (s : Shared) (Q : Unit → Shared → Prop), S i s.heap → (∀ h', S i h' → Heap.SameBut I s.heap h' → Q () { s with heap := h' }) → wpAny G.C.M A (letOwnedTupleGo target (.ref I) v) Q Bot s
theorem PlainIt.it {G : Gx} {A : Around} {im : PM} {h : Heap} {tg : Expr} {σf σr : Led} {items : List PV} {I : Addr} {fp : List Addr} {P : Nat → Value → Prop} {S : Nat → Heap → Prop} (x : PlainIt G A im h σf σr items I fp P S) :
    IsIt G A im h tg σf σr items I fp [I] (fun i _ v _ => P i v) S where
  sub := fun b hb => by rw [List.mem_singleton.mp hb]; exact x.fpI
  frame := x.walks.frame
  next := fun i s Q E hi hS hQ => x.walks.item i s Q E hi hS fun v h₁ tk hP hS₁ hk₁ => hQ v h₁ tk fun Q' hq => x.go tg (i + 1) v _ Q' hS₁ fun h₂ hS₂ hs₂ => hq h₂ hP hS₂ fun b o hb e => (hs₂.2 b (by simpa using hb)).trans (hk₁ b o hb e)
  done := x.walks.done
  self := x.walks.self
  st := x.st
  wrI := .head _
  fps := fun b hb hn => x.fps b hb (by simpa using hn)
  back := fun p hp => let ⟨a, b, c⟩ := x.back p hp; ⟨a, b, by simpa using c⟩
  has := fun i h hS b hb => by rw [List.mem_singleton.mp hb]; exact x.has i h hS
  val := fun im' i h₀ v h₂ hm _ hP p hp => ⟨im', .refl, x.item im' i v hm hP p hp⟩

noncomputable def ItSrc (G : Gx) (tg : Expr) (p : PV) (σf σr : Led) (items : List PV) : Prop :=
  ∀ A bs im s ρ σ v (Q : Value → Shared → Prop), AOk G.n A → St G bs im s ρ (σf ++ σ) → VR im p v →
    (∀ I h' tk fp wr P S, (∀ b o, s.heap.get? b = some o → h'.get? b = some o) → (∀ b ∈ wr, s.heap.get? b = none ∨ b ∈ σf.map (·.1)) → IsIt G A im h' tg σf σr items I fp wr P S → Q (.ref I) { s with heap := h', toks := tk }) →
    wpAny G.C.M A (pyIter v) Q Bot s
noncomputable def ForSrc (G : Gx) (tg iter : Expr) (ρ : Rho) (σ : Led) (K : List PV → Led → Rho → Led → Prop) : Prop :=
  ∀ A bs im s, AOk G.n A → St G bs im s ρ σ → wpAny G.C.M A (eval iter G.env) (fun v s₁ => ∃ im₁ ρ₁ σf σr σ₂ items, Ext bs im im₁ ∧ St G bs im₁ s₁ ρ₁ (σf ++ σ₂) ∧ (σr.map (·.1)).Nodup ∧ K items σr ρ₁ σ₂ ∧
    ∀ Q : Value → Shared → Prop, (∀ I h' tk fp wr P S, (∀ b o, s₁.heap.get? b = some o → h'.get? b = some o) → (∀ b ∈ wr, Apart G bs im₁ (σf ++ σ₂) b ∨ b ∈ σf.map (·.1)) → IsIt G A im₁ h' tg σf σr items I fp wr P S → Q (.ref I) { s₁ with heap := h', toks := tk }) →
      wpAny G.C.M A (pyIter v) Q Bot s₁) Bot s
theorem ForSrc.of {G : Gx} {tg iter : Expr} {ρ : Rho} {σ : Led} {K : List PV → Led → Rho → Led → Prop} (h : Ev G iter ρ σ (fun p ρ₁ σ₁ => ∃ σf σr σ₂ items, ItSrc G tg p σf σr items ∧ (∀ q ∈ σf ++ σ₂, q ∈ σ₁) ∧ (((σf ++ σ₂).map (·.1)).Nodup ∨ σf ++ σ₂ = σ₁) ∧ (σr.map (·.1)).Nodup ∧ K items σr ρ₁ σ₂)) :
    ForSrc G tg iter ρ σ K := fun A bs im s hA hS => by
  refine wpAny_mono (h A bs im s hA hS) (fun v s₁ p => ?_) fun _ _ e => e
  obtain ⟨im₁, r, ρ₁, σ₁, e, hr, hS₁, σf, σr, σ₂, items, hI, hsub, hnd', hnr, hK⟩ := p
  have hnd : ((σf ++ σ₂).map (·.1)).Nodup := hnd'.elim id fun e => e ▸ hS₁.l.nd
  have hS₁' := hS₁.sub hsub hnd
  exact ⟨im₁, ρ₁, σf, σr, σ₂, items, e, hS₁', hnr, hK, fun Q hQ => hI A bs im₁ s₁ ρ₁ σ₂ v Q hA hS₁' hr fun I h' tk fp wr P S a b c => hQ I h' tk fp wr P S a (fun x hx => (b x hx).imp (fun z => hS₁'.apart_new z) id) c⟩

noncomputable def ForT (G : Gx) (target : Expr) (body : List Stmt) : List PV → Rho → Led → (Fl → Rho → Led → Prop) → Prop
  | [], ρ, σ, Q => Q .next ρ σ
  | x :: xs, ρ, σ, Q => As G target x ρ σ (fun ρ₁ σ₁ => Ex G body ρ₁ σ₁ (fun fl ρ₂ σ₂ => match fl with | .next | .cont => ForT G target body xs ρ₂ σ₂ Q | .brk => Q .next ρ₂ σ₂ | .ret v => Q (.ret v) ρ₂ σ₂))

structure Loop (G : Gx) (A : Around) (im₀ bs im : PM) (h₀ : Heap) (s : Shared) (σf σr : Led) (items : List PV) (I : Addr) (fp wr : List Addr) (S : Nat → Heap → Prop) (i : Nat) (ρ : Rho) (σ : Led) : Prop where
  st : St G bs im s ρ σ
  ext : Ext bs im₀ im
  si : S i s.heap
  old : ∀ b ∈ fp, b ∉ wr → ∀ o, h₀.get? b = some o → s.heap.get? b = some o
  ib : ∀ b ∈ wr, bs.f b = none
  ii : ∀ b ∈ wr, im.f b = none
  is : ∀ b ∈ fp, b ∉ σ.map (·.1)
  ifr : ∀ b ∈ σr.map (·.1), im.f b = none

theorem mem_map_fst {σ : Led} {p : Addr × LO} (h : p ∈ σ) : p.1 ∈ σ.map (·.1) := List.mem_map_of_mem h

section
variable {G : Gx} {A : Around} {bs im₀ im : PM} {h₀ : Heap} {s : Shared} {ρ : Rho} {σ σf σr : Led} {items : List PV} {I : Addr} {tg : Expr} {fp wr : List Addr} {P : Nat → Heap → Value → Heap → Prop} {S : Nat → Heap → Prop} {i : Nat}

theorem Loop.body {α R : Type} {rel : PM → R → α → Prop} {t : Sem α} {Q : R → Rho → Led → Prop} (x : Loop G A im₀ bs im h₀ s σf σr items I fp wr S i ρ σ) (hsubw : ∀ b ∈ wr, b ∈ fp) (hfra : ∀ i h h', S i h → (∀ b ∈ fp, ∀ o, h.get? b = some o → h'.get? b = some o) → S i h')
    (hl : G.env.locals ∉ fp) (hk : ∀ p ∈ G.κ, p.2 ∉ fp) (hsr : ∀ b ∈ σr.map (·.1), b ∈ fp) (hso : ∀ b ∈ fp, ∃ o, s.heap.get? b = some o) (h : ∀ bs', St G bs' im s ρ σ → wpAny G.C.M A t (Post G rel bs' im Q) Bot s) :
    wpAny G.C.M A t (fun a s' => ∃ im' r ρ' σ', Loop G A im₀ bs im' h₀ s' σf σr items I fp wr S i ρ' σ' ∧ Ext bs im im' ∧ rel im' r a ∧ Q r ρ' σ') Bot s := by
  have y := x.st.over (fun b => b ∈ fp) (fun b hb => x.is b hb) hl hk
  have sub := PM.over_sub (F := fun b => b ∈ fp) x.st.l.hbs
  refine wpAny_mono (h _ y) (fun a s' p => ?_) fun _ _ e => e
  obtain ⟨im', r, ρ', σ', e, hr, hS', hQ⟩ := p
  have e' := e.under sub
  have fpk : ∀ b ∈ fp, ∀ o, s.heap.get? b = some o → s'.heap.get? b = some o := fun b hb o q => hS'.l.hbs b o (by rw [PM.over_at, if_pos hb]; exact q)
  have fpn : ∀ b ∈ fp, (bs.over (fun b => b ∈ fp) s.heap).f b ≠ none := fun b hb q => by
    obtain ⟨o, ho⟩ := hso b hb
    rw [PM.over_at, if_pos hb, ho] at q; cases q
  refine ⟨im', r, ρ', σ', ⟨hS'.under sub x.st.l.cb x.st.f.outer, x.ext.trans e', hfra _ _ _ x.si fpk, fun b hb hbI o q => fpk b hb o (x.old b hb hbI o q), x.ib, fun b hb => ?_, fun b hb q => ?_, fun b hb => ?_⟩, e', hr, hQ⟩
  · cases q : im'.f b with
    | none => rfl
    | some o => exact absurd (x.ii b hb) ((e.2 b (by rw [q]; simp)).resolve_right (fpn b (hsubw b hb)))
  · obtain ⟨p, hp, rfl⟩ := List.mem_map.mp q
    exact fpn _ hb (hS'.l.led p hp).2.1
  · cases q : im'.f b with
    | none => rfl
    | some o => exact absurd (x.ifr b hb) ((e.2 b (by rw [q]; simp)).resolve_right (fpn b (hsr b hb)))
theorem Loop.step {h₀' : Heap} (y : Loop G A im₀ bs im h₀ s σf σr items I fp wr S i ρ σ) (hI : IsIt G A im₀ h₀' tg σf σr items I fp wr P S) (hl : G.env.locals ∉ fp) (hk : ∀ p ∈ G.κ, p.2 ∉ fp) (hsr : ∀ b ∈ σr.map (·.1), b ∈ fp) (hso : ∀ b ∈ fp, ∃ o, h₀.get? b = some o) {v : Value} {h₂ : Heap} (tk : Nat) (hP : P i s.heap v h₂) (hS₂ : S (i + 1) h₂)
    (hk₂ : ∀ b o, b ∉ wr → s.heap.get? b = some o → h₂.get? b = some o) {p : PV} (hp : items[i]? = some p) (ht : s.toks ≤ tk := by first | exact Nat.le_refl _ | exact Nat.le_succ _ | assumption | walk_at "zo") :
    ∃ im₂, Ext bs im im₂ ∧ Loop G A im₀ bs im₂ h₀ { s with heap := h₂, toks := tk } σf σr items I fp wr S (i + 1) ρ σ ∧ VR im₂ p v := by
  obtain ⟨im₂, n, hv⟩ := hI.val im i s.heap v h₂ y.ext.1 y.st.l.him hP p hp
  obtain ⟨e, z⟩ := y.st.offNew (W := fun b => b ∈ wr) tk hk₂ y.ib y.ii (fun b q => y.is b (hI.sub b q)) (fun q => hl (hI.sub _ q)) (fun p hp q => hk p hp (hI.sub _ q)) n ht
  have hs : ∀ b ∈ fp, ∃ o, s.heap.get? b = some o := fun b hb => by
    by_cases q : b ∈ wr
    · exact hI.has _ _ y.si b q
    · obtain ⟨o, ho⟩ := hso b hb; exact ⟨o, y.old b hb q o ho⟩
  have no : ∀ a ∈ fp, im.f a = none → im₂.f a = none := fun a ha e => by
    obtain ⟨o, ho⟩ := hs a ha
    cases q : im₂.f a with
    | none => rfl
    | some o' =>
      rcases n.nw a o' q with z | ⟨z, _⟩
      · rw [e] at z; cases z
      · rw [ho] at z; cases z
  exact ⟨im₂, e, ⟨z, y.ext.trans e, hS₂, fun b hb q o e => hk₂ b o q (y.old b hb q o e), y.ib, fun b hb => no b (hI.sub b hb) (y.ii b hb), y.is, fun b hb => no b (hsr b hb) (y.ifr b hb)⟩, hv⟩
theorem Loop.fin {h₀' : Heap} (y : Loop G A im₀ bs im h₀ s σf σr items I fp wr S i ρ σ) (hI : IsIt G A im₀ h₀' tg σf σr items I fp wr P S) (hl : G.env.locals ∉ fp) (hk : ∀ p ∈ G.κ, p.2 ∉ fp) (hsr : ∀ b ∈ σr.map (·.1), b ∈ fp)
    (hback : ∀ p ∈ σr, LR im₀ h₀ p.1 p.2 ∧ bs.f p.1 = none ∧ G.env.locals ≠ p.1 ∧ ∀ q ∈ G.κ, q.2 ≠ p.1) (hnr : (σr.map (·.1)).Nodup) {h' : Heap} (tk : Nat) (hk' : ∀ b o, b ∉ wr → s.heap.get? b = some o → h'.get? b = some o) (ht : s.toks ≤ tk := by first | exact Nat.le_refl _ | exact Nat.le_succ _ | assumption | walk_at "zo") :
    St G bs im { s with heap := h', toks := tk } ρ (σr ++ σ) := by
  have z : St G bs im { s with heap := h', toks := tk } ρ σ := y.st.off (W := fun b => b ∈ wr) tk hk' y.ib y.ii (fun b q => y.is b (hI.sub b q)) (fun q => hl (hI.sub _ q)) (fun p hp q => hk p hp (hI.sub _ q)) ht
  have fr : ∀ p ∈ σr, p.1 ∉ σ.map (·.1) := fun p hp => y.is _ (hsr _ (mem_map_fst hp))
  refine ⟨⟨z.l.os, z.l.gens, z.l.cb, z.l.hbs, z.l.him, fun p hp => ?_, ?_, z.l.gok, z.l.tk⟩, ⟨z.f.vars, z.f.rn, z.f.lbs, z.f.lim, ?_, fun p hp => ?_, z.f.apart, z.f.outer, z.f.kind, z.f.gl, z.f.bi, z.f.kn, z.f.own, z.f.ck⟩⟩
  · rcases List.mem_append.mp hp with hp | hp
    · obtain ⟨a, b, _⟩ := hback p hp
      obtain ⟨hpf, hpfp, hpI⟩ := hI.back p hp
      exact ⟨(a.at fun o e => hk' _ o hpI (y.old _ hpfp hpI o e)).mono y.ext.1, b, y.ifr _ (mem_map_fst hp)⟩
    · exact z.l.led p hp
  · rw [List.map_append]
    refine List.nodup_append.mpr ⟨hnr, z.l.nd, fun a ha b hb e => ?_⟩
    obtain ⟨p, hp, rfl⟩ := List.mem_map.mp ha
    exact fr p hp (e ▸ hb)
  · rw [List.map_append]; intro hm
    rcases List.mem_append.mp hm with hm | hm
    · obtain ⟨p, hp, e⟩ := List.mem_map.mp hm
      exact (hback p hp).2.2.1 e.symm
    · exact z.f.lled hm
  · obtain ⟨a, b, c, d, e⟩ := z.f.cells p hp
    refine ⟨a, b, c, ?_, e⟩
    rw [List.map_append]; intro hm
    rcases List.mem_append.mp hm with hm | hm
    · obtain ⟨q, hq, e⟩ := List.mem_map.mp hm
      exact (hback q hq).2.2.2 p hp e.symm
    · exact d hm
theorem it_facts {A : Around} {bs im : PM} {s : Shared} {ρ : Rho} {σf σr σ : Led} {items : List PV} {I : Addr} {h' : Heap} {fp wr : List Addr} {P : Nat → Heap → Value → Heap → Prop} {S : Nat → Heap → Prop} (hS : St G bs im s ρ (σf ++ σ))
    (hk : ∀ b o, s.heap.get? b = some o → h'.get? b = some o) (hfr : ∀ b ∈ wr, Apart G bs im (σf ++ σ) b ∨ b ∈ σf.map (·.1)) (hIt : IsIt G A im h' tg σf σr items I fp wr P S) :
    (∀ b ∈ wr, bs.f b = none ∧ im.f b = none) ∧ (∀ b ∈ fp, b ∉ σ.map (·.1) ∧ b ≠ G.env.locals ∧ (∀ q ∈ G.κ, q.2 ≠ b) ∧ ∃ o, h'.get? b = some o) ∧
    (∀ b ∈ σf.map (·.1), bs.f b = none ∧ im.f b = none ∧ b ∉ σ.map (·.1) ∧ b ≠ G.env.locals ∧ ∀ q ∈ G.κ, q.2 ≠ b) := by
  have hnd := hS.l.nd
  have hm : ∀ b, b ∈ σf.map (·.1) → bs.f b = none ∧ im.f b = none ∧ b ∉ σ.map (·.1) ∧ b ≠ G.env.locals ∧ ∀ q ∈ G.κ, q.2 ≠ b := fun b hb => by
    have hb' : b ∈ (σf ++ σ).map (·.1) := by rw [List.map_append]; exact List.mem_append_left _ hb
    have := hS.l.ledNe hb'
    refine ⟨this.1, this.2, fun hb2 => ?_, fun q => hS.f.lled (q ▸ hb'), fun q hq e => (hS.f.cells q hq).2.2.2.1 (e ▸ hb')⟩
    rw [List.map_append] at hnd
    exact (List.nodup_append.mp hnd).2.2 b hb b hb2 rfl
  have hI4 : ∀ I ∈ wr, bs.f I = none ∧ im.f I = none ∧ I ∉ σ.map (·.1) ∧ I ≠ G.env.locals ∧ ∀ q ∈ G.κ, q.2 ≠ I := fun I hI => by
    rcases hfr I hI with hn | hm'
    · exact ⟨hn.bs, hn.im, fun q => hn.led (by rw [List.map_append]; exact List.mem_append_right _ q), hn.loc, hn.cel⟩
    · exact hm I hm'
  refine ⟨fun b hb => ⟨(hI4 b hb).1, (hI4 b hb).2.1⟩, fun b hb => ?_, hm⟩
  by_cases q : b ∈ wr
  · exact ⟨(hI4 b q).2.2.1, (hI4 b q).2.2.2.1, (hI4 b q).2.2.2.2, hIt.has _ _ hIt.st b q⟩
  · rcases hIt.fps b hb q with ⟨o, ho⟩ | ⟨hbf, _⟩
    · refine ⟨fun z => ?_, fun z => ?_, fun p hp z => ?_, o, hk b o (hS.l.him b o ho)⟩
      · have := (hS.l.ledNe (a := b) (by rw [List.map_append]; exact List.mem_append_right _ z)).2
        rw [ho] at this; cases this
      · have := hS.f.lim; rw [← z, ho] at this; cases this
      · have := (hS.f.cells p hp).2.2.1; rw [z, ho] at this; cases this
    · obtain ⟨p, hp, rfl⟩ := List.mem_map.mp hbf
      obtain ⟨y, hy⟩ := (hS.l.led p (List.mem_append_left _ hp)).1.some
      exact ⟨(hm _ hbf).2.2.1, (hm _ hbf).2.2.2.1, (hm _ hbf).2.2.2.2, y, hk _ y hy⟩

theorem For.loop {body : List Stmt} {pos : Pos} {Q : Fl → Rho → Led → Prop} (hA : AOk G.n A) (hI : IsIt G A im₀ h₀ tg σf σr items I fp wr P S)
    (hl : G.env.locals ∉ fp) (hk : ∀ p ∈ G.κ, p.2 ∉ fp) (hsr : ∀ b ∈ σr.map (·.1), b ∈ fp) (hso : ∀ b ∈ fp, ∃ o, h₀.get? b = some o)
    (hback : ∀ p ∈ σr, LR im₀ h₀ p.1 p.2 ∧ bs.f p.1 = none ∧ G.env.locals ≠ p.1 ∧ ∀ q ∈ G.κ, q.2 ≠ p.1) (hnr : (σr.map (·.1)).Nodup)
    (x : Loop G A im₀ bs im h₀ s σf σr items I fp wr S 0 ρ σ) (h : ForT G tg body items ρ σ (fun fl ρ' σ' => Q fl ρ' (σr ++ σ'))) :
    codeAny G.C.M A (.forLoop tg (.ref I) body [] G.env) (fun r s' => match r with | .ok f => Post G FlR bs im₀ Q f s' | .error e => cameBackBy G.C.M A G.env Bot e s') s := by
  have leave : ∀ {f : Flow} {fl : Fl} {i : Nat} {im' : PM} {s' : Shared} {ρ' : Rho} {σ' : Led}, Loop G A im₀ bs im' h₀ s' σf σr items I fp wr S i ρ' σ' → FlR im' fl f → Q fl ρ' (σr ++ σ') → Post G FlR bs im₀ Q f s' := fun {f fl i im' s' ρ' σ'} y hf hq =>
    ⟨im', fl, ρ', σr ++ σ', y.ext, hf, y.fin hI hl hk hsr hback hnr s'.toks fun _ _ _ e => e, hq⟩
  refine codeAny_forLoop_any (fun k s' => ∃ i im' ρ' σ', Loop G A im₀ bs im' h₀ s' σf σr items I fp wr S i ρ' σ' ∧ i ≤ items.length ∧ k = items.length + 1 - i ∧ ForT G tg body (items.drop i) ρ' σ' (fun fl ρ' σ' => Q fl ρ' (σr ++ σ')))
    ?_ (items.length + 1) ⟨0, im, ρ, σ, x, Nat.zero_le _, rfl, by simpa using h⟩
  rintro k s' ⟨i, im', ρ', σ', y, hi, rfl, hT⟩
  by_cases hlt : i < items.length
  · have hx : items[i]? = some items[i] := by simp [hlt]
    have ed : items.drop i = items[i] :: items.drop (i + 1) := by simp
    rw [ed] at hT
    refine wpAny_up (hI.next i _ _ _ hlt y.si fun v h₁ tk₁ hgo htk => ?_)
    dsimp only
    dsimp only at htk
    refine wpAny_bot (hgo _ fun h₂ hP hS₂ hk₂ => ?_) fun _ _ q => q
    obtain ⟨im₂, e₂, y₂, hv⟩ := y.step hI hl hk hsr hso tk₁ hP hS₂ hk₂ hx
    have hs2 : ∀ {j im' s' ρ' σ'}, Loop G A im₀ bs im' h₀ s' σf σr items I fp wr S j ρ' σ' → ∀ b ∈ fp, ∃ o, s'.heap.get? b = some o := fun {j im' s' ρ' σ'} y b hb => by
      by_cases q : b ∈ wr
      · exact hI.has _ _ y.si b q
      · obtain ⟨o, ho⟩ := hso b hb; exact ⟨o, y.old b hb q o ho⟩
    refine wpAny_mono (y₂.body hI.sub hI.frame hl hk hsr (hs2 y₂) fun bs' hS => hT A bs' im₂ _ v hA hS hv) (fun _ s₃ p => ?_) fun _ _ e => notedBot e
    obtain ⟨im₃, _, ρ₃, σ₃, y₃, e₃, _, hB⟩ := p
    refine wpAny_mono (y₃.body hI.sub hI.frame hl hk hsr (hs2 y₃) fun bs' hS => hB A bs' im₃ _ hA hS) (fun f s₄ p => ?_) fun _ _ e => notedBot e
    obtain ⟨im₄, fl, ρ₄, σ₄, y₄, e₄, hf, hC⟩ := p
    cases fl with
    | next => cases hf; exact ⟨items.length + 1 - (i + 1), by walk_at "zo", i + 1, im₄, ρ₄, σ₄, y₄, hlt, rfl, hC⟩
    | cont => cases hf; exact ⟨items.length + 1 - (i + 1), by walk_at "zo", i + 1, im₄, ρ₄, σ₄, y₄, hlt, rfl, hC⟩
    | brk => cases hf; exact leave (fl := .next) y₄ rfl hC
    | ret v => obtain ⟨w, rfl, hw⟩ := hf; exact leave (fl := .ret v) y₄ ⟨w, rfl, hw⟩ hC
  · have hin : i = items.length := by walk_at "zo"
    subst hin
    refine wpAny_up (hI.done _ _ _ y.si fun h₁ tk₁ hk₁ htk => wpAny_execs_nil ?_)
    dsimp only at htk
    rw [List.drop_length] at hT
    exact ⟨im', .next, ρ', σr ++ σ', y.ext, rfl, y.fin hI hl hk hsr hback hnr tk₁ hk₁, hT⟩

noncomputable abbrev KFor (σr : Led) (Q : Fl → Rho → Led → Prop) : Fl → Rho → Led → Prop := fun fl ρ' σ' => Q fl ρ' (σr ++ σ')
noncomputable abbrev KForS (G : Gx) (tg : Expr) (body : List Stmt) (Q : Fl → Rho → Led → Prop) : List PV → Led → Rho → Led → Prop := fun items σr ρ₁ σ₂ => ForT G tg body items ρ₁ σ₂ (KFor σr Q)
noncomputable abbrev KFor1 (G : Gx) (tg : Expr) (body : List Stmt) (Q : Fl → Rho → Led → Prop) : PV → Rho → Led → Prop := fun p ρ₁ σ₁ => ∃ σf σr σ₂ items, ItSrc G tg p σf σr items ∧ (∀ q ∈ σf ++ σ₂, q ∈ σ₁) ∧ (((σf ++ σ₂).map (·.1)).Nodup ∨ σf ++ σ₂ = σ₁) ∧ (σr.map (·.1)).Nodup ∧ ForT G tg body items ρ₁ σ₂ (KFor σr Q)
theorem Ex1.forS {iter : Expr} {body : List Stmt} {pos : Pos} {ρ : Rho} {σ : Led} {Q : Fl → Rho → Led → Prop}
    (h : ForSrc G tg iter ρ σ (KForS G tg body Q))
    (hs : ∀ x, foldedSetIterable iter G.env x = pure x := by intro _; rfl) : Ex1 G (.For tg iter body [] pos) ρ σ Q := fun A bs im s hA hS => by
  refine wpAny_For (wpAny_mono (h A bs im s hA hS) (fun v s₁ p => ?_) fun _ _ e => e) hs
  obtain ⟨im₁, ρ₁, σf, σr, σ₂, items, e, hS₁', hnr, hT, hI⟩ := p
  refine wpAny_up (hI _ fun I h' tk fp wr P S hk hfr hIt htk => ?_)
  obtain ⟨hI2, hfp, hm⟩ := it_facts hS₁' hk hfr hIt
  have hnd := hS₁'.l.nd
  have hsrf : ∀ p ∈ σr, p.1 ∈ σf.map (·.1) := fun p hp => mem_map_fst (hIt.back p hp).1
  have hS₂ : St G bs im₁ { s₁ with heap := h', toks := tk } ρ₁ σ₂ := (hS₁'.grow hk tk).sub (fun q hq => List.mem_append_right _ hq) (by rw [List.map_append] at hnd; exact (List.nodup_append.mp hnd).2.1)
  refine codeAny_mono (For.loop (pos := pos) (Q := Q) hA hIt (fun z => (hfp _ z).2.1 rfl) (fun p hp z => (hfp _ z).2.2.1 p hp rfl) (fun b hb => ?_) (fun b hb => (hfp b hb).2.2.2) (fun p hp => ?_) hnr
    ⟨hS₂, .refl, hIt.st, fun _ _ _ o q => q, fun b hb => (hI2 b hb).1, fun b hb => (hI2 b hb).2, fun b hb => (hfp b hb).1, fun b hb => ?_⟩ hT) (fun r s' p => ?_)
  · obtain ⟨p, hp, rfl⟩ := List.mem_map.mp hb; exact (hIt.back p hp).2.1
  · have := hS₁'.l.led p (List.mem_append_left _ (hIt.back p hp).1)
    exact ⟨this.1.at fun o e => hk _ o e, this.2.1, (hm _ (hsrf p hp)).2.2.2.1.symm, fun q hq => (hm _ (hsrf p hp)).2.2.2.2 q hq⟩
  · obtain ⟨p, hp, rfl⟩ := List.mem_map.mp hb; exact (hm _ (hsrf p hp)).2.1
  · cases r with
    | ok f => exact p.ext e
    | error _ => exact p
theorem Ex1.for {iter : Expr} {body : List Stmt} {pos : Pos} {ρ : Rho} {σ : Led} {Q : Fl → Rho → Led → Prop}
    (h : Ev G iter ρ σ (KFor1 G tg body Q))
    (hs : ∀ x, foldedSetIterable iter G.env x = pure x := by intro _; rfl) : Ex1 G (.For tg iter body [] pos) ρ σ Q := .forS (.of h) hs
end
end Mine.Tactic
end
section
open PySem PySem.W PyProof.Rows PySem.Calls
set_option Elab.async false
set_option maxRecDepth 100000
namespace Mine.Tactic

theorem go_plain {M : Model} {A : Around} {target : Expr} {I : Addr} {v : Value} {s : Shared} {Q : Unit → Shared → Prop} {E : Value → Shared → Prop} {o : Obj} {T : String} (ho : s.heap.get? I = some o) (hc : o.cls = .type T)
    (hT : ["enumerate", "zip", "dict_itemiterator", "dict_reverseitemiterator", "odict_iterator", "itertools.zip_longest", "itertools.pairwise"].contains T = false) (h : Q () s) :
    wpAny M A (letOwnedTupleGo target (.ref I) v) Q E s := by
  have go : wpAny M A (do
      let (.ref r, .ref a) := (Value.ref I, v) | return
      let o ← load r
      match o.cls, o.data with
      | .type n, .fields vs =>
        if ["enumerate", "zip", "dict_itemiterator", "dict_reverseitemiterator", "odict_iterator", "itertools.zip_longest", "itertools.pairwise"].contains n && vs[0]? == some (rawInt a) then
          rule "for.unpacks-the-owned-tuple"
          updateField r 0 .none
      | _, _ => pure () : Sem Unit) Q E s := by
    cases v with
    | ref a =>
      dsimp only
      refine wpAny_bind (wpAny_load ho ?_)
      rw [hc]
      split
      · rename_i n vs e1 e2
        cases e1
        rw [hT]
        simp only [Bool.false_and, Bool.false_eq_true, if_false]
        exact wpAny_pure h
      · exact wpAny_pure h
    | _ => exact wpAny_pure h
  unfold letOwnedTupleGo
  cases target <;> first | exact go | exact wpAny_pure h

theorem ItSrc.lst {G : Gx} {tg : Expr} {l : List PV} : ItSrc G tg (.lst l) [] [] l := by
  intro A bs im s ρ σ v Q hA hS hv hQ
  obtain ⟨a, vs, n, rfl, ho, hvs⟩ := hv.lst_i
  have ho' := hS.l.him _ _ ho
  have hl : s.heap.IsList a vs.toArray := ⟨_, ho', rfl, n, rfl⟩
  have hne : a ≠ s.heap.objs.size := Nat.ne_of_lt (Heap.lt_size ho')
  refine wpAny_pyIter_list hl ?_
  have W := Walks.list (prog := G.C.prog) (w := G.C.w) hA.1 s.heap.objs.size a hne vs.toArray
  have hlen : vs.toArray.size = l.length := by simp [hvs.length]
  rw [hlen] at W
  refine hQ s.heap.objs.size (s.heap.push _) s.toks [s.heap.objs.size, a] _ _ _ (fun b o e => Heap.get?_push_of_some _ e) (fun b hb => .inl (by rw [List.mem_singleton.mp hb]; exact get?_size_none _)) (PlainIt.it
    ⟨W, ⟨⟨_, Heap.get?_push_size _ rfl, rfl, rfl⟩, hl.push _⟩, .head _, fun b hb q => ?_, (fun _ h => (nomatch h)), fun i h st => ?_, fun im' i v hm hP p hp => ?_, fun target i v s Q st hq => ?_⟩)
  · rcases List.mem_cons.mp hb with e | hb
    · exact absurd e q
    · rw [List.mem_singleton.mp hb]; exact .inl ⟨_, ho⟩
  · obtain ⟨⟨o, ho, _⟩, _⟩ := st; exact ⟨o, ho⟩
  · obtain ⟨w, hw, hr⟩ := hvs.get hp
    have hP' : vs[i]? = some v := by simpa using hP
    rw [hw] at hP'; cases hP'; exact hr.mono hm
  · obtain ⟨⟨o, ho, hc, _⟩, _⟩ := id st
    exact go_plain ho hc (by decide) (hq _ st (.refl ..))

theorem ItSrc.led {G : Gx} {tg : Expr} {a : Addr} {l : List PV} : ItSrc G tg (.ref a) [(a, .list l)] [(a, .list l)] l := by
  intro A bs im s ρ σ v Q hA hS hv hQ
  rw [hv.ref_i]
  obtain ⟨⟨vs, n, ho', hvs⟩, _⟩ := hS.l.led (a, .list l) (.head _)
  have hl : s.heap.IsList a vs.toArray := ⟨_, ho', rfl, n, rfl⟩
  have hne : a ≠ s.heap.objs.size := Nat.ne_of_lt (Heap.lt_size ho')
  refine wpAny_pyIter_list hl ?_
  have W := Walks.list (prog := G.C.prog) (w := G.C.w) hA.1 s.heap.objs.size a hne vs.toArray
  have hlen : vs.toArray.size = l.length := by simp [hvs.length]
  rw [hlen] at W
  refine hQ s.heap.objs.size (s.heap.push _) s.toks [s.heap.objs.size, a] _ _ _ (fun b o e => Heap.get?_push_of_some _ e) (fun b hb => .inl (by rw [List.mem_singleton.mp hb]; exact get?_size_none _)) (PlainIt.it
    ⟨W, ⟨⟨_, Heap.get?_push_size _ rfl, rfl, rfl⟩, hl.push _⟩, .head _, fun b hb q => ?_, fun p hp => ?_, fun i h st => ?_, fun im' i v hm hP p hp => ?_, fun target i v s Q st hq => ?_⟩)
  · rcases List.mem_cons.mp hb with e | hb
    · exact absurd e q
    · rw [List.mem_singleton.mp hb]; exact .inr ⟨.head _, .head _⟩
  · rw [List.mem_singleton.mp hp]; exact ⟨.head _, .tail _ (.head _), hne⟩
  · obtain ⟨⟨o, ho, _⟩, _⟩ := st; exact ⟨o, ho⟩
  · obtain ⟨w, hw, hr⟩ := hvs.get hp
    have hP' : vs[i]? = some v := by simpa using hP
    rw [hw] at hP'; cases hP'; exact hr.mono hm
  · obtain ⟨⟨o, ho, hc, _⟩, _⟩ := id st
    exact go_plain ho hc (by decide) (hq _ st (.refl ..))

noncomputable def signs (l : List Nat) : List PV := l.map fun c => .str [c]

noncomputable def rints (a c : Int) (n : Nat) : List PV := (List.range n).map fun (k : Nat) => PV.int (a + (k : Int) * c)
theorem rints_item {im' : PM} {a c : Int} {n i : Nat} {v : Value} (hP : ∃ t, v = .int (a + i * c) t) {p : PV} (hp : (rints a c n)[i]? = some p) : VR im' p v := by
  obtain ⟨t, rfl⟩ := hP
  unfold rints at hp
  rw [List.getElem?_map] at hp
  by_cases h : i < n
  · rw [List.getElem?_range h] at hp
    have : p = .int (a + (i : Int) * c) := by simpa using hp.symm
    subst this; exact .int
  · rw [List.getElem?_eq_none (by simpa using h)] at hp; simp at hp
theorem ItSrc.rng {G : Gx} {tg : Expr} {a b c : Int} {n : Nat} (hs : Builtin.Range.small a b c = true) (hn : Builtin.Range.rangeSize a b c = (n : Int)) : ItSrc G tg (.rng a b c) [] [] (rints a c n) := by
  intro A bs im s ρ σ v Q hA hS hv hQ
  obtain ⟨r, t, u, w, rfl, ho⟩ := hv.rng_i
  have ho' := hS.l.him _ _ ho
  refine wpAny_pyIter_range ho' hs ?_
  have W := Walks.range (prog := G.C.prog) (w := G.C.w) hA.1 s.heap.objs.size a c n
  have hlen : n = (rints a c n).length := by simp [rints]
  refine hQ s.heap.objs.size (s.heap.push _) s.toks [s.heap.objs.size] _ _ _ (fun b o e => Heap.get?_push_of_some _ e) (fun b hb => .inl (by rw [List.mem_singleton.mp hb]; exact get?_size_none _)) (PlainIt.it (P := fun i v => ∃ t, v = .int (a + i * c) t) (S := fun i h => IsRangeIter h s.heap.objs.size (a + (i : Nat) * c) ((n : Int) - (i : Nat)) c)
    ⟨by rw [← hlen]; exact W, ?_, .head _, fun b hb q => absurd (List.mem_singleton.mp hb) q, (fun _ h => (nomatch h)), fun i h st => ⟨_, st⟩, fun im' i v hm hP p hp => rints_item hP hp, fun target i v s Q st hq => ?_⟩)
  · show IsRangeIter _ _ _ _ _
    rw [hn]; simpa using Heap.get?_push_size _ rfl
  · exact go_plain (T := "range_iterator") st rfl (by decide) (hq _ st (.refl ..))
theorem ItSrc.rit {G : Gx} {tg : Expr} {I : Addr} {a c : Int} {n : Nat} : ItSrc G tg (.ref I) [(I, .rit a n c)] [] (rints a c n) := by
  intro A bs im s ρ σ v Q hA hS hv hQ
  rw [hv.ref_i]
  obtain ⟨ho', _⟩ := hS.l.led (I, .rit a n c) (.head _)
  refine wpAny_pyIter_rangeiter ho' ?_
  have W := Walks.range (prog := G.C.prog) (w := G.C.w) hA.1 I a c n
  have hlen : n = (rints a c n).length := by simp [rints]
  refine hQ I s.heap s.toks [I] _ _ _ (fun b o e => e) (fun b hb => .inr (by rw [List.mem_singleton.mp hb]; exact .head _)) (PlainIt.it (P := fun i v => ∃ t, v = .int (a + i * c) t) (S := fun i h => IsRangeIter h I (a + (i : Nat) * c) ((n : Int) - (i : Nat)) c)
    ⟨by rw [← hlen]; exact W, ?_, .head _, fun b hb q => absurd (List.mem_singleton.mp hb) q, (fun _ h => (nomatch h)), fun i h st => ⟨_, st⟩, fun im' i v hm hP p hp => rints_item hP hp, fun target i v s Q st hq => ?_⟩)
  · show IsRangeIter _ _ _ _ _
    have hh : IsRangeIter s.heap I a (n : Int) c := ho'
    simpa using hh
  · exact go_plain (T := "range_iterator") st rfl (by decide) (hq _ st (.refl ..))
end Mine.Tactic
end
section
open PySem PySem.W PyProof.Rows PySem.Calls
set_option Elab.async false
set_option maxRecDepth 100000
namespace Mine.Tactic

theorem St.frame {G : Gx} {bs im : PM} {s : Shared} {ρ : Rho} {σ φ : Led} {α R : Type} {rel : PM → R → α → Prop} {t : Sem α} {Q : R → Rho → Led → Prop} {A : Around} (hS : St G bs im s ρ (φ ++ σ))
    (h : ∀ bs', St G bs' im s ρ σ → wpAny G.C.M A t (Post G rel bs' im Q) Bot s) :
    wpAny G.C.M A t (fun a s' => ∃ im' r ρ' σ', Ext bs im im' ∧ rel im' r a ∧ St G bs im' s' ρ' (φ ++ σ') ∧ Q r ρ' σ') Bot s := by
  have hnd := hS.l.nd
  rw [List.map_append] at hnd
  obtain ⟨hn1, hn2, hn3⟩ := List.nodup_append.mp hnd
  have hS₂ : St G bs im s ρ σ := hS.sub (fun p hp => List.mem_append_right _ hp) hn2
  have inφ : ∀ b, b ∈ φ.map (·.1) → b ∈ (φ ++ σ).map (·.1) := fun b hb => by rw [List.map_append]; exact List.mem_append_left _ hb
  have y := hS₂.over (fun b => b ∈ φ.map (·.1)) (fun b hb hq => hn3 b hb b hq rfl) (fun q => hS.f.lled (inφ _ q)) (fun p hp q => (hS.f.cells p hp).2.2.2.1 (inφ _ q))
  have sub := PM.over_sub (F := fun b => b ∈ φ.map (·.1)) hS.l.hbs
  refine wpAny_mono (h _ y) (fun a s' p => ?_) fun _ _ e => e
  obtain ⟨im', r, ρ', σ', e, hr, hS', hQ⟩ := p
  have e' := e.under sub
  have z := hS'.under sub hS.l.cb hS.f.outer
  have some_of : ∀ p ∈ φ, ∃ o, s.heap.get? p.1 = some o := fun p hp => (hS.l.led p (List.mem_append_left _ hp)).1.some
  have over_some : ∀ p ∈ φ, ∀ o, s.heap.get? p.1 = some o → (bs.over (fun b => b ∈ φ.map (·.1)) s.heap).f p.1 = some o := fun p hp o ho => by rw [PM.over_at, if_pos (mem_map_fst hp)]; exact ho
  have keep : ∀ p ∈ φ, ∀ o, s.heap.get? p.1 = some o → s'.heap.get? p.1 = some o := fun p hp o ho => hS'.l.hbs _ o (over_some p hp o ho)
  have nim : ∀ p ∈ φ, im'.f p.1 = none := fun p hp => by
    cases q : im'.f p.1 with
    | none => rfl
    | some o =>
      obtain ⟨w, hw⟩ := some_of p hp
      rcases e.2 p.1 (by rw [q]; simp) with a | a
      · exact absurd (hS.l.led p (List.mem_append_left _ hp)).2.2 a
      · rw [over_some p hp w hw] at a; cases a
  refine ⟨im', r, ρ', σ', e', hr, ⟨⟨z.l.os, z.l.gens, z.l.cb, z.l.hbs, z.l.him, fun p hp => ?_, ?_, z.l.gok, z.l.tk⟩, ⟨z.f.vars, z.f.rn, z.f.lbs, z.f.lim, ?_, fun p hp => ?_, z.f.apart, z.f.outer, z.f.kind, z.f.gl, z.f.bi, z.f.kn, z.f.own, z.f.ck⟩⟩, hQ⟩
  · rcases List.mem_append.mp hp with hp | hp
    · obtain ⟨a, b, _⟩ := hS.l.led p (List.mem_append_left _ hp)
      exact ⟨(a.at (keep p hp)).mono e'.1, b, nim p hp⟩
    · exact z.l.led p hp
  · rw [List.map_append]
    refine List.nodup_append.mpr ⟨hn1, z.l.nd, fun a ha b hb q => ?_⟩
    obtain ⟨p, hp, rfl⟩ := List.mem_map.mp ha
    obtain ⟨p', hp', rfl⟩ := List.mem_map.mp hb
    have h1 := (hS'.l.led p' hp').2.1
    obtain ⟨w, hw⟩ := some_of p hp
    rw [← q, over_some p hp w hw] at h1; cases h1
  · rw [List.map_append]; intro hm
    rcases List.mem_append.mp hm with hm | hm
    · exact hS.f.lled (inφ _ hm)
    · exact z.f.lled hm
  · obtain ⟨a, b, c, d, f⟩ := z.f.cells p hp
    refine ⟨a, b, c, ?_, f⟩
    rw [List.map_append]; intro hm
    rcases List.mem_append.mp hm with hm | hm
    · exact (hS.f.cells p hp).2.2.2.1 (inφ _ hm)
    · exact d hm

theorem St.freezeObj {G : Gx} {bs im : PM} {s : Shared} {ρ : Rho} {σ : Led} {D : Addr} {lo : LO} {o : Obj} (hS : St G bs im s ρ ((D, lo) :: σ)) (ho : s.heap.get? D = some o) :
    Ext bs im (im.put D o) ∧ St G bs (im.put D o) s ρ σ := by
  obtain ⟨_, hb, hi⟩ := hS.l.led (D, lo) (.head _)
  have hput := PM.put_keep hi o
  have hnd := hS.l.nd
  rw [List.map_cons, List.nodup_cons] at hnd
  have ext : Ext bs im (im.put D o) := ⟨hput, fun a e => by
    by_cases q : a = D
    · subst q; exact .inr hb
    · rw [PM.put_ne q] at e; exact .inl e⟩
  refine ⟨ext, ⟨⟨hS.l.os, hS.l.gens, hS.l.cb, hS.l.hbs, fun a p e => ?_, fun p hp => ?_, hnd.2, hS.l.gok, hS.l.tk⟩, ⟨?_, hS.f.rn, hS.f.lbs, ?_, fun q => hS.f.lled (.tail _ q), fun p hp => ?_, hS.f.apart, hS.f.outer, hS.f.kind, hS.f.gl, hS.f.bi, hS.f.kn, hS.f.own, hS.f.ck⟩⟩⟩
  · rw [PM.put_at] at e; split at e
    · rename_i q; cases e; rw [q]; exact ho
    · exact hS.l.him a p e
  · obtain ⟨a, b, c⟩ := hS.l.led p (.tail _ hp)
    exact ⟨a.mono hput, b, by rw [PM.put_ne (fun q => hnd.1 (List.mem_map.mpr ⟨p, hp, q⟩))]; exact c⟩
  · obtain ⟨m, a, b⟩ := hS.f.vars
    exact ⟨m, a, fun p hp => let ⟨v, c, d⟩ := b p hp; ⟨v, c.mono hput, d⟩⟩
  · rw [PM.put_ne (fun q => hS.f.lled (by rw [q]; exact .head _))]; exact hS.f.lim
  · obtain ⟨a, b, c, d, f⟩ := hS.f.cells p hp
    exact ⟨a, b, by rw [PM.put_ne (fun q => d (by rw [q]; exact .head _))]; exact c, fun q => d (.tail _ q), f⟩
theorem St.freeze {G : Gx} {bs im : PM} {s : Shared} {ρ : Rho} {σ : Led} {D : Addr} {l : List PV} (hS : St G bs im s ρ ((D, .list l) :: σ)) :
    ∃ im', Ext bs im im' ∧ VR im' (.lst l) (.ref D) ∧ St G bs im' s ρ σ := by
  obtain ⟨⟨vs, n, ho, hvs⟩, _, _⟩ := hS.l.led (D, .list l) (.head _)
  obtain ⟨e, x⟩ := hS.freezeObj ho
  exact ⟨_, e, .lst (PM.put_self ..) (hvs.mono e.1), x⟩

noncomputable def TsIfs (G : Gx) : List Expr → Rho → Led → (Bool → Rho → Led → Prop) → Prop
  | [], ρ, σ, Q => Q true ρ σ
  | c :: cs, ρ, σ, Q => Ts G c ρ σ (fun b ρ' σ' => if b then TsIfs G cs ρ' σ' Q else Q false ρ' σ')

noncomputable def compItems (G : Gx) (g : Comprehension) (inner : List PV → Rho → Led → (List PV → Rho → Led → Prop) → Prop) : List PV → List PV → Rho → Led → (List PV → Rho → Led → Prop) → Prop
  | [], acc, ρ, σ, K => K acc ρ σ
  | x :: xs, acc, ρ, σ, K => As G g.target x ρ σ (fun ρ₁ σ₁ => TsIfs G g.ifs ρ₁ σ₁ (fun ok ρ₂ σ₂ => if ok then inner acc ρ₂ σ₂ (fun acc' ρ₃ σ₃ => compItems G g inner xs acc' ρ₃ σ₃ K) else compItems G g inner xs acc ρ₂ σ₂ K))
noncomputable def compInner (G : Gx) (elt : Expr) : List Comprehension → List PV → Rho → Led → (List PV → Rho → Led → Prop) → Prop
  | [], acc, ρ, σ, K => Ev G elt ρ σ (fun p ρ' σ' => acc.length < 16000000 ∧ K (acc ++ [p]) ρ' σ')
  | g :: rest, acc, ρ, σ, K => Ev G g.iter ρ σ (fun p ρ' σ' => ∃ items, ItSrc G g.target p [] [] items ∧ compItems G g (compInner G elt rest) items acc ρ' σ' K)

theorem compTurn_at {elt : Expr} {gens : List Comprehension} {scope : Scope} {pos : Pos} {d : Nat} {g : Comprehension} {it acc : Value} {env : Env} (hg : gens[d]? = some g) (ha : g.is_async = 0) :
    compTurn (.ListComp elt gens scope pos) d it acc env = (do
      standAt g.iter.pos
      match ← pyNext it with
      | none => pure (.done .next)
      | some v =>
        letOwnedTupleGo g.target it v
        assign g.target env v
        let mut ok := true
        for c in g.ifs do
          if ok then ok ← isTrue c env (eval c env)
        if ok then
          match gens[d + 1]? with
          | some g' =>
            let x ← eval g'.iter env
            standAt g'.iter.pos
            let x ← if g'.is_async != 0 then foldedIterable g'.iter x else foldedSetIterable g'.iter env x
            let _ ← runOwn (.compStart (.ListComp elt gens scope pos) (d + 1) (← holding [x] (if g'.is_async != 0 then asyncIter x else pyIter x)) acc env) env
          | none => (do let _ ← call (.builtin "list.append") [acc, ← eval elt env])
        again (.compLoop (.ListComp elt gens scope pos) d it acc env)) := by
  unfold compTurn
  simp only [hg, ha]
  rw [if_neg (by decide), if_neg (by decide)]
  rfl

theorem ifs_false {env : Env} {M : Model} {A : Around} {E : Value → Shared → Prop} : ∀ {cs : List Expr} {s : Shared} {Q : Bool → Shared → Prop}, Q false s →
    wpAny M A (forIn cs false fun c r => if r = true then do let ok ← isTrue c env (eval c env); pure (ForInStep.yield ok) else pure (ForInStep.yield r)) Q E s
  | [], _, _, h => wpAny_pure h
  | c :: cs, _, _, h => by
    rw [List.forIn_cons]
    rw [if_neg (by decide)]
    exact wpAny_bind (wpAny_pure (ifs_false h))
theorem ifs_run {G : Gx} : ∀ {cs : List Expr} {ρ : Rho} {σ : Led} {Q : Bool → Rho → Led → Prop}, TsIfs G cs ρ σ Q →
    Tr G relB (forIn cs true fun c r => if r = true then do let ok ← isTrue c G.env (eval c G.env); pure (ForInStep.yield ok) else pure (ForInStep.yield r)) ρ σ Q
  | [], _, _, _, h => fun _ _ _ _ _ hS => wpAny_pure (.now hS rfl h)
  | c :: cs, ρ, σ, Q, h => fun A bs im s hA hS => by
    rw [List.forIn_cons, if_pos rfl]
    refine wpAny_bind (wpAny_bind (wpAny_mono (h A bs im s hA hS) (fun b s₁ p => wpAny_pure ?_) fun _ _ e => e))
    obtain ⟨im₁, r, ρ₁, σ₁, e, hr, hS₁, hC⟩ := p
    cases hr
    dsimp only
    cases b with
    | true => exact wpAny_mono (ifs_run hC A bs im₁ s₁ hA hS₁) (fun _ _ q => q.ext e) fun _ _ x => x
    | false => exact ifs_false ⟨im₁, false, ρ₁, σ₁, e, rfl, hS₁, hC⟩

theorem append_led {G : Gx} {A : Around} {bs im : PM} {s : Shared} {ρ : Rho} {σ : Led} {D : Addr} {l : List PV} {p : PV} {v : Value} {Q : Value → Shared → Prop} {E : Value → Shared → Prop} (hS : St G bs im s ρ ((D, .list l) :: σ)) (hv : VR im p v)
    (hl : l.length < 16000000) (h : ∀ h', St G bs im { s with heap := h' } ρ ((D, .list (l ++ [p])) :: σ) → Q .none { s with heap := h' }) :
    wpAny G.C.M A (call (.builtin "list.append") [.ref D, v]) Q E s := by
  obtain ⟨⟨vs, n, ho, hvs⟩, hb, hi⟩ := hS.l.led (D, .list l) (.head _)
  have hlen : vs.toArray.size ≤ sizeLine := by rw [List.size_toArray, hvs.length, sizeLine_eq]; walk_at "zo"
  refine wpAny_list_append_plain (hsz := hlen) ⟨n, ho⟩ fun h' hl' hs' => h h' ?_
  refine hS.upd .head s.toks hs' ?_
  obtain ⟨n', e'⟩ := hl'
  refine ⟨vs ++ [v], n', ?_, hvs.append (.cons hv .nil)⟩
  rw [e']; simp

section
variable {G : Gx} {elt : Expr} {gens : List Comprehension} {scope : Scope} {pos : Pos} {D : Addr}

noncomputable def innerTree (elt : Expr) (gens : List Comprehension) (scope : Scope) (pos : Pos) (d : Nat) (acc : Value) (env : Env) : Sem Unit :=
  match gens[d + 1]? with
  | some g' => do
    let x ← eval g'.iter env
    standAt g'.iter.pos
    let x ← foldedSetIterable g'.iter env x
    let _ ← runOwn (.compStart (.ListComp elt gens scope pos) (d + 1) (← holding [x] (pyIter x)) acc env) env
  | none => do let _ ← call (.builtin "list.append") [acc, ← eval elt env]
theorem inner_then {M : Model} {A : Around} {E : Value → Shared → Prop} {α : Type} {Q : α → Shared → Prop} {s : Shared} {d : Nat} {acc : Value} {env : Env} {k : Sem α} (ha : ∀ g ∈ gens, g.is_async = 0)
    (h : wpAny M A (innerTree elt gens scope pos d acc env) (fun _ s' => wpAny M A k Q E s') E s) :
    wpAny M A (match gens[d + 1]? with
      | some g' => do
        let x ← eval g'.iter env
        standAt g'.iter.pos
        if (g'.is_async != 0) = true then do
            let x ← foldedIterable g'.iter x
            let __do_lift ← holding [x] (if (g'.is_async != 0) = true then asyncIter x else pyIter x)
            let _ ← runOwn (Code.compStart (elt.ListComp gens scope pos) (d + 1) __do_lift acc env) env
            k
          else do
            let x ← foldedSetIterable g'.iter env x
            let __do_lift ← holding [x] (if (g'.is_async != 0) = true then asyncIter x else pyIter x)
            let _ ← runOwn (Code.compStart (elt.ListComp gens scope pos) (d + 1) __do_lift acc env) env
            k
      | none => (do let _ ← call (.builtin "list.append") [acc, ← eval elt env] : Sem Unit) >>= fun _ => k) Q E s := by
  unfold innerTree at h
  cases hg : gens[d + 1]? with
  | none =>
    rw [hg] at h
    exact wpAny_bind h
  | some g' =>
    rw [hg] at h
    have ha' : g'.is_async = 0 := ha g' (List.mem_of_getElem? hg)
    dsimp only at h ⊢
    rw [ha']
    simp only [bne_self_eq_false, Bool.false_eq_true, if_false]
    have := wpAny_bind (f := fun _ => k) h
    simpa only [bind_assoc, pure_bind] using this

noncomputable def InnerOk (G : Gx) (elt : Expr) (gens : List Comprehension) (scope : Scope) (pos : Pos) (D : Addr) (d : Nat) (rest : List Comprehension) : Prop :=
  ∀ A bs im s ρ σ acc (K : List PV → Rho → Led → Prop), AOk G.n A → St G bs im s ρ ((D, .list acc) :: σ) → compInner G elt rest acc ρ σ K →
    wpAny G.C.M A (innerTree elt gens scope pos d (.ref D) G.env) (Post G relU bs im (fun _ ρ' σ' => ∃ acc' σ'', σ' = (D, .list acc') :: σ'' ∧ K acc' ρ' σ'')) Bot s

theorem Comp.loop {A : Around} {bs im₀ im : PM} {h₀ : Heap} {s : Shared} {ρ : Rho} {σ σf σr : Led} {items acc : List PV} {I : Addr} {fp wr : List Addr} {P : Nat → Heap → Value → Heap → Prop} {S : Nat → Heap → Prop} {d : Nat} {g : Comprehension} {rest : List Comprehension}
    {K : List PV → Rho → Led → Prop} (hin : InnerOk G elt gens scope pos D d rest) (hg : gens[d]? = some g) (ha : ∀ g ∈ gens, g.is_async = 0) (hA : AOk G.n A) (hI : IsIt G A im₀ h₀ g.target σf σr items I fp wr P S)
    (hl : G.env.locals ∉ fp) (hk : ∀ p ∈ G.κ, p.2 ∉ fp) (hsr : ∀ b ∈ σr.map (·.1), b ∈ fp) (hso : ∀ b ∈ fp, ∃ o, h₀.get? b = some o)
    (x : Loop G A im₀ bs im h₀ s σf σr items I fp wr S 0 ρ ((D, .list acc) :: σ)) (h : compItems G g (compInner G elt rest) items acc ρ σ K) {R : Result → Shared → Prop}
    (hR : ∀ im' s' ρ' σ' acc' i h' tk, Loop G A im₀ bs im' h₀ s' σf σr items I fp wr S i ρ' ((D, .list acc') :: σ') → (∀ b o, b ∉ wr → s'.heap.get? b = some o → h'.get? b = some o) → s'.toks ≤ tk → K acc' ρ' σ' → R (.ok .next) { s' with heap := h', toks := tk }) :
    codeAny G.C.M A (.compLoop (.ListComp elt gens scope pos) d (.ref I) (.ref D) G.env) R s := by
  refine codeAny_loop rfl (fun k s' => ∃ i im' ρ' σ' acc', Loop G A im₀ bs im' h₀ s' σf σr items I fp wr S i ρ' ((D, .list acc') :: σ') ∧ i ≤ items.length ∧ k = items.length + 1 - i ∧ compItems G g (compInner G elt rest) (items.drop i) acc' ρ' σ' K)
    ?_ (items.length + 1) ⟨0, im, ρ, σ, acc, x, Nat.zero_le _, rfl, by simpa using h⟩
  rintro k s' ⟨i, im', ρ', σ', acc', y, hi, rfl, hT⟩
  show wpAny _ A ((compTurn (.ListComp elt gens scope pos) d (.ref I) (.ref D) G.env).onRaise (fun x => do noteFrame x G.env; theTreesLotGoes x)) _ _ s'
  refine wpAny_noted ?_
  rw [compTurn_at hg (ha g (List.mem_of_getElem? hg))]
  refine wpAny_bind (wpAny_standAt (wpAny_bind ?_))
  by_cases hlt : i < items.length
  · have hx : items[i]? = some items[i] := by simp [hlt]
    have ed : items.drop i = items[i] :: items.drop (i + 1) := by simp
    rw [ed] at hT
    refine wpAny_up (hI.next i _ _ _ hlt y.si fun v h₁ tk₁ hgo htk => ?_)
    dsimp only
    dsimp only at htk
    refine wpAny_bind (wpAny_bot (hgo _ fun h₂ hP hS₂ hk₂ => ?_) fun _ _ q => q)
    obtain ⟨im₂, e₂, y₂, hv⟩ := y.step hI hl hk hsr hso tk₁ hP hS₂ hk₂ hx
    have hs2 : ∀ {j im' s' ρ' σ'}, Loop G A im₀ bs im' h₀ s' σf σr items I fp wr S j ρ' σ' → ∀ b ∈ fp, ∃ o, s'.heap.get? b = some o := fun {j im' s' ρ' σ'} y b hb => by
      by_cases q : b ∈ wr
      · exact hI.has _ _ y.si b q
      · obtain ⟨o, ho⟩ := hso b hb; exact ⟨o, y.old b hb q o ho⟩
    have post : ∀ {α R : Type} {rel : PM → R → α → Prop} {bs im : PM} {Q : R → Rho → Led → Prop} {a : α} {s' : Shared} (φ : Led), (∃ im' r ρ' σ', Ext bs im im' ∧ rel im' r a ∧ St G bs im' s' ρ' (φ ++ σ') ∧ Q r ρ' σ') →
        Post G rel bs im (fun r ρ' σ' => ∃ σ'', σ' = φ ++ σ'' ∧ Q r ρ' σ'') a s' := fun φ ⟨im', r, ρ', σ', e, hr, hS, hQ⟩ => ⟨im', r, ρ', φ ++ σ', e, hr, hS, σ', rfl, hQ⟩
    -- the target
    refine wpAny_bind (wpAny_mono (y₂.body hI.sub hI.frame hl hk hsr (hs2 y₂) fun bs' hS => wpAny_mono (St.frame (φ := [(D, .list acc')]) hS fun bs'' hS' => hT A bs'' im₂ _ v hA hS' hv) (fun _ _ p => post [(D, .list acc')] p) fun _ _ e => e) (fun _ s₃ p => ?_) fun _ _ e => notedBot e)
    obtain ⟨im₃, _, ρ₃, σ₃, y₃, e₃, _, σ₃', rfl, hB⟩ := p
    -- the tests
    refine wpAny_bind (wpAny_mono (y₃.body hI.sub hI.frame hl hk hsr (hs2 y₃) fun bs' hS => wpAny_mono (St.frame (φ := [(D, .list acc')]) hS fun bs'' hS' => ifs_run hB A bs'' im₃ _ hA hS') (fun _ _ p => post [(D, .list acc')] p) fun _ _ e => e) (fun ok s₄ p => ?_) fun _ _ e => notedBot e)
    obtain ⟨im₄, ok', ρ₄, σ₄, y₄, e₄, hok, σ₄', rfl, hC⟩ := p
    cases hok
    cases ok with
    | false =>
      exact wpAny_pure ⟨rfl, items.length + 1 - (i + 1), by walk_at "zo", i + 1, im₄, ρ₄, σ₄', acc', y₄, hlt, rfl, hC⟩
    | true =>
      refine inner_then ha (wpAny_mono (y₄.body hI.sub hI.frame hl hk hsr (hs2 y₄) fun bs' hS => hin A bs' im₄ s₄ ρ₄ σ₄' acc' _ hA hS hC) (fun _ s₅ p => ?_) fun _ _ e => notedBot e)
      obtain ⟨im₅, _, ρ₅, σ₅, y₅, e₅, _, acc₅, σ₅', rfl, hD⟩ := p
      exact wpAny_pure ⟨rfl, items.length + 1 - (i + 1), by walk_at "zo", i + 1, im₅, ρ₅, σ₅', acc₅, y₅, hlt, rfl, hD⟩
  · have hin : i = items.length := by walk_at "zo"
    subst hin
    refine wpAny_up (hI.done _ _ _ y.si fun h₁ tk₁ hk₁ htk => wpAny_pure ?_)
    dsimp only at htk
    rw [List.drop_length] at hT
    exact hR im' s' ρ' σ' acc' _ h₁ tk₁ y hk₁ htk hT
end
end Mine.Tactic
end
section
open PySem PySem.W PyProof.Rows PySem.Calls
set_option Elab.async false
set_option maxRecDepth 100000
namespace Mine.Tactic

theorem codeAny_compStart_at {prog : Program} {w : World} {A : Around} {R : Result → Shared → Prop} {s : Shared} {elt : Expr} {gens : List Comprehension} {scope : Scope} {pos : Pos} {d : Nat} {g : Comprehension} {it acc : Value} {env : Env} (hg : gens[d]? = some g) (ha : g.is_async = 0)
    (h0 : codeAny (model prog w) A (.compLoop (.ListComp elt gens scope pos) d it acc env) R s)
    (h : wpAny (model prog w) A (pyIter it) (fun it' s' => codeAny (model prog w) A (.compLoop (.ListComp elt gens scope pos) d it' acc env) R s')
      (notedBy (model prog w) A env fun x s' => R (.error x) s') s) :
    codeAny (model prog w) A (.compStart (.ListComp elt gens scope pos) d it acc env) R s := by
  refine codeAny_of_tree ?_
  show wpAny _ _ ((compStart (.ListComp elt gens scope pos) d it acc env).onRaise (fun x => do noteFrame x env; standAt theWindowsPlace)) _ _ s
  refine wpAny_notedAt ?_
  unfold compStart
  have e1 : (((clausesOf (.ListComp elt gens scope pos))[d]?).elim false (·.is_async != 0)) = false := by
    show ((gens[d]?).elim false (·.is_async != 0)) = false
    rw [hg]; simp [ha]
  have e2 : (clausesOf (.ListComp elt gens scope pos))[d]? = some g := hg
  rw [e1, e2]
  show wpAny _ _ (ask >>= _) _ _ s
  refine wpAny_bind (wpAny_askSetting (wpAny_ite ?_))
  split
  · first
      | exact wpAny_bind (wpAny_pure (wpAny_pure (And.intro rfl h0)))
      | exact wpAny_pure (And.intro rfl h0)
  · first
      | exact wpAny_bind (wpAny_rule (wpAny_bind (wpAny_standAt (wpAny_bind (wpAny_mono h (fun it' s' h' => wpAny_pure (And.intro rfl h')) fun _ _ x => x)))))
      | (refine wpAny_bind (wpAny_rule ?_); show wpAny _ _ (standAt g.iter.pos >>= _) _ _ s; exact wpAny_bind (wpAny_standAt (wpAny_bind (wpAny_mono h (fun it' s' h' => wpAny_pure (And.intro rfl h')) fun _ _ x => x))))

section
variable {G : Gx} {elt : Expr} {gens : List Comprehension} {scope : Scope} {pos : Pos} {D : Addr}

theorem Comp.start {A : Around} {bs im₀ : PM} {s : Shared} {ρ : Rho} {σ σf σr : Led} {items acc : List PV} {I : Addr} {h' : Heap} {tk : Nat} {fp wr : List Addr} {P : Nat → Heap → Value → Heap → Prop} {S : Nat → Heap → Prop} {d : Nat} {g : Comprehension} {rest : List Comprehension}
    {K : List PV → Rho → Led → Prop} (hin : InnerOk G elt gens scope pos D d rest) (hg : gens[d]? = some g) (ha : ∀ g ∈ gens, g.is_async = 0) (hA : AOk G.n A)
    (hS : St G bs im₀ s ρ (σf ++ (D, .list acc) :: σ)) (hk : ∀ b o, s.heap.get? b = some o → h'.get? b = some o) (hfr : ∀ b ∈ wr, Apart G bs im₀ (σf ++ (D, .list acc) :: σ) b ∨ b ∈ σf.map (·.1)) (hI : IsIt G A im₀ h' g.target σf σr items I fp wr P S) (htk : s.toks ≤ tk)
    (h : compItems G g (compInner G elt rest) items acc ρ σ K) {R : Result → Shared → Prop}
    (hR : ∀ im' s' ρ' σ' acc' i h'' tk, Loop G A im₀ bs im' h' s' σf σr items I fp wr S i ρ' ((D, .list acc') :: σ') → (∀ b o, b ∉ wr → s'.heap.get? b = some o → h''.get? b = some o) → s'.toks ≤ tk → K acc' ρ' σ' → R (.ok .next) { s' with heap := h'', toks := tk }) :
    codeAny G.C.M A (.compStart (.ListComp elt gens scope pos) d (.ref I) (.ref D) G.env) R { s with heap := h', toks := tk } := by
  obtain ⟨hI2, hfp, hm⟩ := it_facts hS hk hfr hI
  have hnd := hS.l.nd
  rw [List.map_append] at hnd
  have hS₂ : St G bs im₀ { s with heap := h', toks := tk } ρ ((D, .list acc) :: σ) := (hS.grow hk tk).sub (fun q hq => List.mem_append_right _ hq) (List.nodup_append.mp hnd).2.1
  have loop : codeAny G.C.M A (.compLoop (.ListComp elt gens scope pos) d (.ref I) (.ref D) G.env) R { s with heap := h', toks := tk } := by
    refine Comp.loop (K := K) hin hg ha hA hI (fun z => (hfp _ z).2.1 rfl) (fun p hp z => (hfp _ z).2.2.1 p hp rfl) (fun b hb => ?_) (fun b hb => (hfp b hb).2.2.2)
      ⟨hS₂, .refl, hI.st, fun _ _ _ o q => q, fun b hb => (hI2 b hb).1, fun b hb => (hI2 b hb).2, fun b hb => (hfp b hb).1, fun b hb => ?_⟩ h hR
    · obtain ⟨p, hp, rfl⟩ := List.mem_map.mp hb; exact (hI.back p hp).2.1
    · obtain ⟨p, hp, rfl⟩ := List.mem_map.mp hb; exact (hm _ (mem_map_fst (hI.back p hp).1)).2.1
  exact codeAny_compStart_at hg (ha g (List.mem_of_getElem? hg)) loop (hI.self 0 { s with heap := h', toks := tk } _ _ hI.st loop)

theorem InnerOk.nil {d : Nat} (hd : gens[d + 1]? = none) : InnerOk G elt gens scope pos D d [] := by
  intro A bs im s ρ σ acc K hA hS hC
  unfold innerTree
  rw [hd]
  dsimp only
  refine wpAny_bind (wpAny_mono (St.frame (φ := [(D, .list acc)]) hS fun bs' hS' => hC A bs' im s hA hS') (fun v s₁ p => ?_) fun _ _ e => e)
  obtain ⟨im₁, r, ρ₁, σ₁, e, hr, hS₁, hl, hK⟩ := p
  exact wpAny_bind (append_led hS₁ hr hl fun h' hS₂ => wpAny_pure ⟨im₁, (), ρ₁, _, e, trivial, hS₂, _, _, rfl, hK⟩)
theorem InnerOk.cons {d : Nat} {g : Comprehension} {rest : List Comprehension} (hd : gens[d + 1]? = some g) (ha : ∀ g ∈ gens, g.is_async = 0) (hs : ∀ x, foldedSetIterable g.iter G.env x = pure x) (ih : InnerOk G elt gens scope pos D (d + 1) rest) : InnerOk G elt gens scope pos D d (g :: rest) := by
  intro A bs im s ρ σ acc K hA hS hC
  unfold innerTree
  rw [hd]
  dsimp only
  refine wpAny_bind (wpAny_mono (St.frame (φ := [(D, .list acc)]) hS fun bs' hS' => hC A bs' im s hA hS') (fun v s₁ p => ?_) fun _ _ e => e)
  obtain ⟨im₁, r, ρ₁, σ₁, e, hr, hS₁, items, hI, hT⟩ := p
  refine wpAny_bind (wpAny_standAt (wpAny_bind (wpAny_of_eq (hs v) (wpAny_bind (wpAny_holding ?_)))))
  refine wpAny_up (hI A bs im₁ s₁ ρ₁ ((D, .list acc) :: σ₁) v _ hA hS₁ hr fun I h' tk fp wr P S hk hfr₀ hIt htk => ?_)
  have hfr : ∀ b ∈ wr, Apart G bs im₁ ([] ++ (D, .list acc) :: σ₁) b ∨ b ∈ ([] : Led).map (·.1) := fun b hb => (hfr₀ b hb).imp (fun z => hS₁.apart_new z) id
  obtain ⟨_, hfp, _⟩ := it_facts (σ := (D, .list acc) :: σ₁) (σf := []) hS₁ hk hfr hIt
  refine wpAny_bind (wpAny_runOwn (Comp.start (K := K) ih hd ha hA hS₁ hk hfr hIt htk hT fun im' s' ρ' σ' acc' i h'' tk' L hk'' htk' hK => ?_))
  refine wpAny_pure ⟨im', (), ρ', _, e.trans L.ext, trivial, ?_, acc', σ', rfl, hK⟩
  exact L.st.off (W := fun b => b ∈ wr) tk' hk'' L.ib L.ii (fun b q => L.is b (hIt.sub b q)) (fun q => (hfp _ (hIt.sub _ q)).2.1 rfl) (fun p hp q => (hfp _ (hIt.sub _ q)).2.2.1 p hp rfl)
theorem InnerOk.all (ha : ∀ g ∈ gens, g.is_async = 0) (hs : ∀ g ∈ gens, ∀ x, foldedSetIterable g.iter G.env x = pure x) : ∀ (rest : List Comprehension) (d : Nat), gens.drop (d + 1) = rest → InnerOk G elt gens scope pos D d rest
  | [], d, h => .nil (by
      have : gens.length ≤ d + 1 := List.drop_eq_nil_iff.mp h
      exact List.getElem?_eq_none this)
  | g :: rest, d, h => by
    have hd : gens[d + 1]? = some g := by
      have := congrArg (fun l => l[0]?) h
      simpa using this
    refine .cons hd ha (hs g (List.mem_of_getElem? hd)) (InnerOk.all ha hs rest (d + 1) ?_)
    have := congrArg List.tail h
    simpa [List.tail_drop] using this
end
end Mine.Tactic
end
section
open PySem PySem.W PyProof.Rows PySem.Calls
set_option Elab.async false
set_option maxRecDepth 100000
namespace Mine.Tactic

theorem St.back {G : Gx} {bs im : PM} {s : Shared} {ρ : Rho} {σ₀ : Led} (hS : St G bs im s ρ σ₀) {bs' im' : PM} {s' : Shared} {σ' : Led} (hid : Addr → Prop) (hL : StL G.C bs' im' s' σ') (hext : Ext bs' im im')
    (hb : ∀ b o, s.heap.get? b = some o → ¬ hid b → bs'.f b = some o) (hh : ∀ b, hid b → b ∈ σ₀.map (·.1) ∨ Apart G bs im σ₀ b) : St G bs im' s' ρ σ' ∧ Ext bs im im' := by
  have nh : ∀ b o, bs.f b = some o → ¬ hid b := fun b o e q => by
    rcases hh b q with h | h
    · rw [(hS.l.ledNe h).1] at e; cases e
    · rw [h.bs] at e; cases e
  have sub : ∀ b o, bs.f b = some o → bs'.f b = some o := fun b o e => hb b o (hS.l.hbs b o e) (nh b o e)
  obtain ⟨ol, esl, epl, hol, hod⟩ := hS.f.loc_some
  have nhL : ¬ hid G.env.locals := fun q => by
    rcases hh _ q with h | h
    · exact hS.f.lled h
    · exact h.loc rfl
  have bL := hb _ _ hol nhL
  have cellk : ∀ p ∈ G.κ, ∃ o, s.heap.get? p.2 = some o ∧ bs'.f p.2 = some o := fun p hp => by
    obtain ⟨⟨v, o, ho, _⟩, _, _, hn, _⟩ := hS.f.cells p hp
    refine ⟨o, ho, hb _ _ ho fun q => ?_⟩
    rcases hh _ q with h | h
    · exact hn h
    · exact h.cel p hp rfl
  have nim : ∀ b o, bs'.f b = some o → im.f b = none → im'.f b = none := fun b o e q => by
    cases z : im'.f b with
    | none => rfl
    | some w => exact absurd q ((hext.2 b (by rw [z]; simp)).resolve_right (by rw [e]; simp))
  have nled : ∀ b o, bs'.f b = some o → b ∉ σ'.map (·.1) := fun b o e q => by rw [(hL.ledNe q).1] at e; cases e
  have hcell : ∀ y c w, G.env.cells.lookup y = some c → s.heap.IsCell c w → s'.heap.IsCell c w := fun y c w e ⟨o, ho, hd⟩ => by
    refine ⟨o, ?_, hd⟩
    rcases hS.f.outer y c e with q | ⟨o', q⟩
    · obtain ⟨o₁, h1, h2⟩ := cellk _ q
      rw [ho] at h1; cases h1; exact hL.hbs _ _ h2
    · have h1 := hS.l.hbs _ _ q
      rw [ho] at h1; cases h1; exact hL.hbs _ _ (sub _ _ q)
  refine ⟨⟨⟨hL.os, hL.gens, hS.l.cb, fun b o e => hL.hbs b o (sub b o e), hL.him, fun p hp => ?_, hL.nd, hL.gok, hL.tk⟩, ⟨?_, hS.f.rn, hS.f.lbs, nim _ _ bL hS.f.lim, nled _ _ bL, fun p hp => ?_, hS.f.apart, hS.f.outer, hS.f.kind, hS.f.gl, hS.f.bi, hS.f.kn, hS.f.own, hS.f.ck⟩⟩, hext.under sub⟩
  · obtain ⟨a, b, c⟩ := hL.led p hp
    exact ⟨a, (by cases z : bs.f p.1 with | none => rfl | some o => (rw [sub _ _ z] at b; cases b)), c⟩
  · obtain ⟨m, ⟨o, es, ep, a, b⟩, d⟩ := hS.f.vars
    refine ⟨m, ⟨o, es, ep, hL.hbs _ _ (hb _ _ a nhL), b⟩, fun p hp => ?_⟩
    obtain ⟨v, e, f⟩ := d p hp
    exact ⟨v, e.mono hext.1, f.keeps (hcell _)⟩
  · obtain ⟨⟨v, a⟩, b, c, d, e⟩ := hS.f.cells p hp
    obtain ⟨o, h1, h2⟩ := cellk p hp
    exact ⟨⟨v, hcell _ _ _ e a⟩, b, nim _ _ h2 c, nled _ _ h2, e⟩

theorem cellsFrom_acc : ∀ (names : List (Str × NameKind)) (n : Nat) (acc : List (Str × Addr)), cellsFrom n names acc = cellsFrom n names [] ++ acc
  | [], n, acc => rfl
  | (x, k) :: r, n, acc => by
    unfold cellsFrom
    split
    · rw [cellsFrom_acc r (n + 1) ((x, n) :: acc), cellsFrom_acc r (n + 1) [(x, n)], List.append_assoc]; rfl
    · exact cellsFrom_acc r n acc
theorem cellsFrom_ge : ∀ (names : List (Str × NameKind)) (n : Nat) (p : Str × Addr), p ∈ cellsFrom n names [] → n ≤ p.2 ∧ (p.1, NameKind.cell) ∈ names
  | [], _, p, h => nomatch h
  | (x, k) :: r, n, p, h => by
    unfold cellsFrom at h
    split at h
    · rename_i hk
      rw [cellsFrom_acc] at h
      rcases List.mem_append.mp h with h | h
      · have := cellsFrom_ge r (n + 1) p h
        exact ⟨by walk_at "zo", .tail _ this.2⟩
      · rw [List.mem_singleton.mp h]
        have : k = .cell := by simpa using hk
        subst this
        exact ⟨Nat.le_refl _, .head _⟩
    · exact (cellsFrom_ge r n p h).imp id (.tail _)
theorem cellsFrom_mem : ∀ (names : List (Str × NameKind)) (n : Nat) (x : Str), (x, NameKind.cell) ∈ names → ∃ c, (x, c) ∈ cellsFrom n names []
  | [], _, _, h => nomatch h
  | (y, k) :: r, n, x, h => by
    unfold cellsFrom
    rcases List.mem_cons.mp h with e | h
    · cases e
      rw [if_pos (by rfl), cellsFrom_acc]
      exact ⟨n, List.mem_append_right _ (.head _)⟩
    · split
      · rw [cellsFrom_acc]
        obtain ⟨c, hc⟩ := cellsFrom_mem r (n + 1) x h
        exact ⟨c, List.mem_append_left _ hc⟩
      · exact cellsFrom_mem r n x h
theorem cellsFrom_keys : ∀ (names : List (Str × NameKind)) (n : Nat), (names.map (·.1)).Nodup → ((cellsFrom n names []).map (·.1)).Nodup
  | [], _, _ => List.nodup_nil
  | (y, k) :: r, n, h => by
    rw [List.map_cons, List.nodup_cons] at h
    unfold cellsFrom
    split
    · rw [cellsFrom_acc, List.map_append]
      refine List.nodup_append.mpr ⟨cellsFrom_keys r (n + 1) h.2, by simp, fun a ha b hb e => ?_⟩
      obtain ⟨p, hp, rfl⟩ := List.mem_map.mp ha
      have hb' : b = y := by simpa using hb
      subst hb'
      have := (cellsFrom_ge r (n + 1) p hp).2
      exact h.1 (List.mem_map.mpr ⟨_, this, e⟩)
    · exact cellsFrom_keys r n h.2
theorem lookup_of_mem {α : Type} : ∀ {l : List (Str × α)} {x : Str} {a : α}, (l.map (·.1)).Nodup → (x, a) ∈ l → l.lookup x = some a
  | (y, b) :: r, x, a, hn, h => by
    rw [List.map_cons, List.nodup_cons] at hn
    rw [List.lookup_cons]
    rcases List.mem_cons.mp h with e | h'
    · cases e; simp
    · have hne : (x == y) = false := by
        rw [beq_eq_false_iff_ne]; intro q
        exact hn.1 (List.mem_map.mpr ⟨_, h', q⟩)
      rw [hne]; exact lookup_of_mem hn.2 h'
theorem lookup_none_of {α : Type} : ∀ {l : List (Str × α)} {x : Str}, x ∉ l.map (·.1) → l.lookup x = none
  | [], _, _ => rfl
  | (y, b) :: r, x, h => by
    rw [List.map_cons, List.mem_cons, not_or] at h
    rw [List.lookup_cons, show (x == y) = false from beq_eq_false_iff_ne.mpr h.1]
    exact lookup_none_of h.2
theorem lookup_append' {α : Type} {l r : List (Str × α)} {x : Str} : (l ++ r).lookup x = (l.lookup x).or (r.lookup x) := List.lookup_append

theorem pushCells_apart : ∀ (names : List (Str × NameKind)) (n : Nat), (cellsFrom n names []).Pairwise fun x y => x.2 ≠ y.2
  | [], _ => .nil
  | (y, k) :: r, n => by
    unfold cellsFrom
    split
    · rw [cellsFrom_acc]
      refine List.pairwise_append.mpr ⟨pushCells_apart r (n + 1), by simp, fun a ha b hb => ?_⟩
      rw [List.mem_singleton.mp hb]
      have := (cellsFrom_ge r (n + 1) a ha).1
      exact fun e => by rw [e] at this; exact absurd this (by simp)
    · exact pushCells_apart r n

theorem newCompEnv {M : Model} {A : Around} {E : Value → Shared → Prop} {s : Shared} {scope : Scope} {globals : Addr} {cl : List (Str × Addr)} {qual : Str} {outer : Env} {Q : Env → Shared → Prop}
    (h : Q { scope, locals := s.heap.objs.size, globals, cells := cellsFrom (s.heap.objs.size + 1) scope.names cl, qual, func := none, code := outer.code, frame := outer.frame, builtins := outer.builtins }
      { s with heap := pushCells (s.heap.push { cls := .type "dict", data := .dict #[] }) scope.names }) :
    wpAny M A (newFunctionEnv scope globals cl [] qual none .none (some outer)) Q E s := by
  simp only [newFunctionEnv, Option.isSome_some, if_true]
  refine wpAny_bind (wpAny_alloc ?_)
  refine wpAny_bind (wpAny_layCells _ (fun name kind cells => by cases hkc : kind == NameKind.cell <;> simp [hkc]) _ _ _ _ ?_)
  rw [show ({ s with heap := s.heap.push { cls := .type "dict", data := .dict #[] } } : Shared).heap.objs.size = s.heap.objs.size + 1 from Heap.size_push ..]
  exact wpAny_bind (wpAny_pure (wpAny_pure h))

theorem closure_go {env : Env} (c : Str → Addr) : ∀ (names : List (Str × NameKind)) (acc : List (Str × Addr)), (∀ x, (x, NameKind.free) ∈ names → env.cells.lookup x = some (c x)) →
    (forIn names acc fun (p : Str × NameKind) (cs : List (Str × Addr)) => if (p.2 == NameKind.free) = true then do let a ← cellOf env p.1; pure (ForInStep.yield ((p.1, a) :: cs)) else pure (ForInStep.yield cs) : Sem (List (Str × Addr))) =
      pure (((names.filter (·.2 == NameKind.free)).map fun p => (p.1, c p.1)).reverse ++ acc)
  | [], acc, _ => by simp
  | (x, k) :: r, acc, h => by
    rw [List.forIn_cons]
    have hr : ∀ x, (x, NameKind.free) ∈ r → env.cells.lookup x = some (c x) := fun x hx => h x (.tail _ hx)
    by_cases hk : k = .free
    · subst hk
      have hx := h x (.head _)
      simp only [beq_self_eq_true, if_true]
      have e : cellOf env x = pure (c x) := by unfold cellOf; rw [hx]
      rw [e]
      show (forIn r ((x, c x) :: acc) _ : Sem (List (Str × Addr))) = _
      rw [closure_go c r _ hr]
      simp
    · have hk' : (k == NameKind.free) = false := by simpa using hk
      simp only [hk', Bool.false_eq_true, if_false]
      show (forIn r acc _ : Sem (List (Str × Addr))) = _
      rw [closure_go c r _ hr]
      simp [hk']
theorem closure_of {env : Env} {scope : Scope} (c : Str → Addr) (h : ∀ x, (x, NameKind.free) ∈ scope.names → env.cells.lookup x = some (c x)) :
    closureFor scope env = pure (((scope.names.filter (·.2 == NameKind.free)).map fun p => (p.1, c p.1)).reverse) := by
  have := closure_go (env := env) c scope.names [] h
  rw [List.append_nil] at this
  unfold closureFor
  show (forIn scope.names [] _ : Sem (List (Str × Addr))) >>= pure = _
  refine (congrArg (· >>= pure) ?_).trans (bind_pure _)
  exact this
end Mine.Tactic
end
section
open PySem PySem.W PyProof.Rows PySem.Calls
set_option Elab.async false
set_option maxRecDepth 100000
namespace Mine.Tactic

theorem lookup_relabel {env : Env} : ∀ {names : List (Str × NameKind)} {x : Str} {k : NameKind}, names.lookup x = some k →
    (names.map fun (n, k) => if (k == NameKind.free && env.scope.kind == .function && env.kindOf n == some .cell) then (n, NameKind.cell) else (n, k)).lookup x = some (if (k == NameKind.free && env.scope.kind == .function && env.kindOf x == some .cell) then NameKind.cell else k)
  | [], _, _, h => by simp at h
  | (n, k') :: r, x, k, h => by
    have ih := @lookup_relabel env r x k
    show List.lookup x ((if (k' == NameKind.free && env.scope.kind == .function && env.kindOf n == some .cell) = true then (n, NameKind.cell) else (n, k')) :: _) = _
    cases hx : x == n with
    | true =>
      simp only [List.lookup_cons, hx] at h
      cases h
      have e : x = n := by simpa using hx
      subst e
      by_cases hc : (k' == NameKind.free && env.scope.kind == .function && env.kindOf x == some .cell) = true
      · rw [if_pos hc, if_pos hc]; simp [List.lookup_cons]
      · rw [if_neg hc, if_neg hc]; simp [List.lookup_cons]
    | false =>
      simp only [List.lookup_cons, hx] at h
      by_cases hc : (k' == NameKind.free && env.scope.kind == .function && env.kindOf n == some .cell) = true
      · rw [if_pos hc]; simp only [List.lookup_cons, hx]; exact ih h
      · rw [if_neg hc]; simp only [List.lookup_cons, hx]; exact ih h

noncomputable def plainB (x : Str) : Bool := !(x == ("__debug__" : Str)) && !(x == ("__classdict__" : Str))
theorem plainB_iff {x : Str} (h : plainB x = true) : PlainName x := by
  unfold plainB at h
  simp only [Bool.and_eq_true, Bool.not_eq_true'] at h
  exact h
noncomputable def nodupB : List Str → Bool
  | [] => true
  | x :: r => !r.contains x && nodupB r
theorem nodupB_iff : ∀ {l : List Str}, nodupB l = true → l.Nodup
  | [], _ => List.nodup_nil
  | x :: r, h => by
    unfold nodupB at h
    simp only [Bool.and_eq_true, Bool.not_eq_true'] at h
    refine List.nodup_cons.mpr ⟨fun hm => ?_, nodupB_iff h.2⟩
    have := List.contains_iff_mem.mpr hm
    rw [h.1] at this; cases this
noncomputable def compOk (scope : Scope) (parent : List String) (ns : Names) (cn : List String) (rc rg : List String) : Bool :=
  scope.kind == .function && nodupB (scope.names.map (·.1)) &&
  (scope.names.all fun p => p.2 != .free || parent.any fun y => Str.ofString y == p.1) &&
  (ns.all fun p => scope.names.lookup (Str.ofString p.1) == some p.2 && p.2 != .free && plainB (Str.ofString p.1)) &&
  (cn.all fun y => scope.names.lookup (Str.ofString y) == some .free || scope.names.lookup (Str.ofString y) == some .cell) &&
  (rc.all fun y => scope.names.lookup (Str.ofString y) == some .free) && (rg.all fun y => scope.names.lookup (Str.ofString y) == some .globalImplicit) &&
  decide (rc ++ rg).Nodup
structure CompOk (scope : Scope) (parent : List String) (ns : Names) (cn : List String) (rc rg : List String) : Prop where
  kind : scope.kind = .function
  nd : (scope.names.map (·.1)).Nodup
  caps : ∀ x, (x, NameKind.free) ∈ scope.names → ∃ y ∈ parent, Str.ofString y = x
  hns : ∀ p ∈ ns, scope.names.lookup (Str.ofString p.1) = some p.2 ∧ p.2 ≠ .free ∧ PlainName (Str.ofString p.1)
  hcn : ∀ y ∈ cn, scope.names.lookup (Str.ofString y) = some .free ∨ scope.names.lookup (Str.ofString y) = some .cell
  hrc : ∀ y ∈ rc, scope.names.lookup (Str.ofString y) = some .free
  hrg : ∀ y ∈ rg, scope.names.lookup (Str.ofString y) = some .globalImplicit
  rn : (rc ++ rg).Nodup
theorem compOk_iff {scope : Scope} {parent : List String} {ns : Names} {cn : List String} {rc rg : List String} (h : compOk scope parent ns cn rc rg = true) : CompOk scope parent ns cn rc rg := by
  unfold compOk at h
  simp only [Bool.and_eq_true, List.all_eq_true, beq_iff_eq, bne_iff_ne, ne_eq, Bool.or_eq_true, List.any_eq_true, decide_eq_true_eq] at h
  obtain ⟨⟨⟨⟨⟨⟨⟨h1, h2⟩, h3⟩, h4⟩, h5⟩, h6⟩, h7⟩, h8⟩ := h
  refine ⟨h1, nodupB_iff h2, fun x hx => ?_, fun p hp => ?_, h5, h6, h7, h8⟩
  · rcases h3 _ hx with e | e
    · exact absurd rfl e
    · exact e
  · obtain ⟨⟨a, b⟩, c⟩ := h4 p hp
    exact ⟨a, b, plainB_iff c⟩

theorem filter_lookup {names : List (Str × NameKind)} (hn : (names.map (·.1)).Nodup) (c : Str → Addr) {x : Str} (hx : (x, NameKind.free) ∈ names) :
    (((names.filter (·.2 == NameKind.free)).map fun p => (p.1, c p.1)).reverse).lookup x = some (c x) := by
  refine lookup_of_mem ?_ ?_
  · rw [List.map_reverse, List.map_map]
    refine (List.reverse_perm _).nodup_iff.mpr ?_
    have : ((fun x : Str × Addr => x.1) ∘ fun p : Str × NameKind => (p.1, c p.1)) = (·.1) := rfl
    rw [this]
    exact hn.sublist ((List.filter_sublist (l := names)).map _)
  · exact List.mem_reverse.mpr (List.mem_map.mpr ⟨(x, .free), List.mem_filter.mpr ⟨hx, rfl⟩, rfl⟩)
theorem filter_lookup_none {names : List (Str × NameKind)} (c : Str → Addr) {x : Str} {a : Addr} (h : (((names.filter (·.2 == NameKind.free)).map fun p => (p.1, c p.1)).reverse).lookup x = some a) : (x, NameKind.free) ∈ names ∧ a = c x := by
  have := mem_of_lookup h
  obtain ⟨p, hp, e⟩ := List.mem_map.mp (List.mem_reverse.mp this)
  obtain ⟨h1, h2⟩ := List.mem_filter.mp hp
  have h3 : p.2 = .free := by simpa using h2
  cases e
  refine ⟨?_, rfl⟩
  rw [← h3]; exact h1

section
variable {G : Gx} {bs im : PM} {s : Shared} {ρ : Rho} {σ : Led}

theorem St.block (hS : St G bs im s ρ σ) {scope : Scope} {ns : Names} {cn : List String} {ρc ρg : Rho} (X : List Addr) (hX : ∀ x ∈ X, bs.f x = none ∧ ∀ p ∈ G.κ, p.2 ≠ x) (hk : CompOk scope G.cn ns cn (ρc.map (·.1)) (ρg.map (·.1))) (hc : ∀ p ∈ ρc, p ∈ ρ) (hg : ∀ p ∈ ρg, p ∈ G.C.gl) :
    ∃ cl, closureFor scope G.env = pure cl ∧ ∀ (qual : Str) (t : Nat), s.toks ≤ t → ∃ κ' bs', ∀ env', env' = ({ scope := relabel scope G.env, locals := s.heap.objs.size, globals := G.env.globals, cells := cellsFrom (s.heap.objs.size + 1) scope.names cl, qual, func := none, code := G.env.code, frame := G.env.frame, builtins := G.env.builtins } : Env) →
      St ⟨G.C, env', κ', ns, cn, G.n⟩ bs' im { s with heap := pushCells (s.heap.push { cls := .type "dict", data := .dict #[] }) scope.names, toks := t } (ρc ++ ρg) σ ∧
      (∀ b o, s.heap.get? b = some o → b ∉ σ.map (·.1) → b ∉ X → bs'.f b = some o) ∧ (∀ b ∈ X, bs'.f b = none) ∧ (∀ p ∈ κ', s.heap.get? p.2 = none) := by
  have hfree : ∀ x, (x, NameKind.free) ∈ scope.names → ∃ c, G.env.cells.lookup x = some c := fun x hx => by
    obtain ⟨y, hy, rfl⟩ := hk.caps x hx
    exact (hS.f.ck y hy).2
  let c : Str → Addr := fun x => (G.env.cells.lookup x).getD 0
  have hcl : ∀ x, (x, NameKind.free) ∈ scope.names → G.env.cells.lookup x = some (c x) := fun x hx => by
    obtain ⟨a, ha⟩ := hfree x hx
    show _ = some ((G.env.cells.lookup x).getD 0)
    rw [ha]; rfl
  refine ⟨_, closure_of c hcl, fun qual t ht => ?_⟩
  generalize hcle : ((scope.names.filter (·.2 == NameKind.free)).map fun p => (p.1, c p.1)).reverse = cl
  have hn := get?_size_none s.heap
  generalize hC : s.heap.objs.size = C at *
  let κ' := cellsFrom (C + 1) scope.names []
  let h₁ := s.heap.push { cls := .type "dict", data := .dict #[] }
  let h₂ := pushCells h₁ scope.names
  have hk₁ : ∀ b o, s.heap.get? b = some o → h₁.get? b = some o := fun b o e => Heap.get?_push_of_some _ e
  have hk₂ : ∀ b o, s.heap.get? b = some o → h₂.get? b = some o := fun b o e => pushCells_keeps _ _ b o (hk₁ b o e)
  have hsz : h₁.objs.size = C + 1 := by rw [← hC]; exact Heap.size_push ..
  have cok := cellsFrom_ok scope.names h₁ (C + 1) [] ⟨fun _ _ hm => (nomatch hm), List.Pairwise.nil⟩ (by rw [hsz]; exact Nat.le_refl _)
  rw [hsz] at cok
  have fresh : ∀ a, C ≤ a → s.heap.get? a = none := fun a ha => by
    cases e : s.heap.get? a with
    | none => rfl
    | some o => have := Heap.lt_size e; rw [hC] at this; exact absurd this (Nat.not_lt.mpr ha)
  have κge : ∀ p ∈ κ', C + 1 ≤ p.2 ∧ (p.1, NameKind.cell) ∈ scope.names := fun p hp => cellsFrom_ge _ _ p hp
  have κnd : (κ'.map (·.1)).Nodup := cellsFrom_keys _ _ hk.nd
  let hid : List Addr := C :: κ'.map (·.2) ++ (σ.map (·.1) ++ X)
  let bs' : PM := ⟨fun b => if b ∈ hid then none else h₂.get? b, 0⟩
  have nhid : ∀ b o, s.heap.get? b = some o → b ∉ σ.map (·.1) → b ∉ X → b ∉ hid := fun b o e hb hbX hm => by
    rcases List.mem_append.mp hm with hm | hm
    · rcases List.mem_cons.mp hm with q | hm
      · rw [q, hn] at e; cases e
      · obtain ⟨p, hp, q⟩ := List.mem_map.mp hm
        rw [← q, fresh p.2 (Nat.le_of_succ_le (κge p hp).1)] at e; cases e
    · rcases List.mem_append.mp hm with hm | hm
      · exact hb hm
      · exact hbX hm
  have hbs' : ∀ b o, s.heap.get? b = some o → b ∉ σ.map (·.1) → b ∉ X → bs'.f b = some o := fun b o e hb hbX => by
    show (if b ∈ hid then none else h₂.get? b) = _
    rw [if_neg (nhid b o e hb hbX)]; exact hk₂ b o e
  have hidn : ∀ b, b ∈ hid → bs'.f b = none := fun b hb => by show (if b ∈ hid then none else h₂.get? b) = _; rw [if_pos hb]
  have inσ : ∀ b, b ∈ σ.map (·.1) → b ∈ hid := fun b hb => List.mem_append_right _ (List.mem_append_left _ hb)
  refine ⟨κ', bs', fun env' henv => ⟨⟨⟨hS.l.os, hS.l.gens, fun a o e => ?_, fun b o e => ?_, fun b o e => hk₂ b o (hS.l.him b o e), fun p hp => ?_, hS.l.nd, hS.l.gok, Nat.le_trans hS.l.tk ht⟩,
    ⟨⟨fun _ => none, ?_, fun p hp => ?_⟩, ?_, hidn _ ?_, (by subst henv; exact hS.l.im_none hn), (by subst henv; exact hS.l.led_some hn), fun p hp => ?_, pushCells_apart _ _, fun x a hx => ?_, ?_, ?_, ?_, fun p hp => ?_, fun p hp hp2 => ?_, fun y hy => ?_⟩⟩, hbs', fun b hb => hidn _ (List.mem_append_right _ (List.mem_append_right _ hb)), fun p hp => fresh _ (Nat.le_of_succ_le (κge p hp).1)⟩⟩
  · have := hS.l.cb a o e
    exact hbs' a o (hS.l.hbs _ _ this) (fun hm => by rw [(hS.l.ledNe hm).1] at this; cases this) fun hm => by rw [(hX a hm).1] at this; cases this
  · have e' : (if b ∈ hid then none else h₂.get? b) = some o := e
    split at e'
    · cases e'
    · exact e'
  · obtain ⟨a, b, d⟩ := hS.l.led p hp
    exact ⟨a.at fun o e => hk₂ _ o e, hidn _ (inσ _ (mem_map_fst hp)), d⟩
  · subst henv
    have := (Heap.Ns.new s.heap (.type "dict")).keeps (pushCells_keeps scope.names h₁)
    rw [hC] at this; exact this
  · -- the names that the block reads
    rcases List.mem_append.mp hp with hp | hp
    · have hfr := mem_of_lookup (hk.hrc p.1 (List.mem_map_of_mem hp))
      obtain ⟨m, hm, hr⟩ := hS.f.vars
      obtain ⟨v, hv, hpn, how⟩ := hr p (hc p hp)
      refine ⟨v, hv, hpn, ?_⟩
      obtain ⟨y, hy, hye⟩ := hk.caps _ hfr
      have hck := hS.f.ck y hy
      rw [hye] at hck
      have hkind : env'.kindOf (Str.ofString p.1) = some .cell ∨ env'.kindOf (Str.ofString p.1) = some .free := by
        subst henv
        have := lookup_relabel (env := G.env) (hk.hrc p.1 (List.mem_map_of_mem hp))
        show (relabel scope G.env).names.lookup _ = _ ∨ (relabel scope G.env).names.lookup _ = _
        unfold relabel
        dsimp only
        rw [this]
        split <;> simp
      have hlook : env'.cells.lookup (Str.ofString p.1) = some (c (Str.ofString p.1)) := by
        subst henv
        show (cellsFrom (C + 1) scope.names cl).lookup _ = _
        rw [cellsFrom_acc, lookup_append', lookup_none_of (l := cellsFrom (C + 1) scope.names []) (fun hm => by
          obtain ⟨q, hq, e⟩ := List.mem_map.mp hm
          have h1 := lookup_of_mem hk.nd (κge q hq).2
          rw [e, hk.hrc p.1 (List.mem_map_of_mem hp)] at h1; cases h1), ← hcle, filter_lookup hk.nd c hfr]
        rfl
      cases how with
      | loc hkk _ => rcases hck.1 with q | q <;> rw [hkk] at q <;> cases q
      | cell hkk a ha hcell =>
        have hca : a = c (Str.ofString p.1) := by have := hcl _ hfr; rw [ha] at this; exact Option.some.inj this
        exact .cell hkind _ hlook (hca ▸ hcell.keeps hk₂)
      | glob hkk _ => rcases hck.1 with q | q <;> rw [hkk] at q <;> cases q
    · obtain ⟨hpn, v, hv, hgl⟩ := hS.l.gok p (hg p hp)
      refine ⟨v, hv im, hpn, .glob ?_ hgl⟩
      subst henv
      have := lookup_relabel (env := G.env) (hk.hrg p.1 (List.mem_map_of_mem hp))
      show (relabel scope G.env).names.lookup _ = _
      unfold relabel
      dsimp only
      rw [this]; rfl
  · rw [List.map_append]; exact hk.rn
  · subst henv; exact .head _
  · obtain ⟨h1, h2⟩ := cok.empty p.1 p.2 hp
    refine ⟨⟨_, h1⟩, hidn _ (List.mem_append_left _ (.tail _ (List.mem_map_of_mem hp))), hS.l.im_none (fresh _ (Nat.le_of_succ_le h2)), hS.l.led_some (fresh _ (Nat.le_of_succ_le h2)), ?_⟩
    subst henv
    show (cellsFrom (C + 1) scope.names cl).lookup _ = _
    rw [cellsFrom_acc, lookup_append', lookup_of_mem κnd hp]; rfl
  · subst henv
    have hx' : (cellsFrom (C + 1) scope.names cl).lookup x = some a := hx
    rw [cellsFrom_acc, lookup_append'] at hx'
    cases hq : (cellsFrom (C + 1) scope.names []).lookup x with
    | some b => rw [hq] at hx'; cases hx'; exact .inl (mem_of_lookup hq)
    | none =>
      rw [hq] at hx'
      have hx2 : cl.lookup x = some a := hx'
      rw [← hcle] at hx2
      obtain ⟨h1, h2⟩ := filter_lookup_none c hx2
      refine .inr ?_
      have hl := hcl x h1
      rw [← h2] at hl
      rcases hS.f.outer x a hl with q | ⟨o, q⟩
      · obtain ⟨⟨w, o, ho, _⟩, _, _, hnm, _⟩ := hS.f.cells _ q
        exact ⟨o, hbs' a o ho hnm fun hm => (hX a hm).2 _ q rfl⟩
      · exact ⟨o, hbs' a o (hS.l.hbs _ _ q) (fun hm => by rw [(hS.l.ledNe hm).1] at q; cases q) fun hm => by rw [(hX a hm).1] at q; cases q⟩
  · subst henv; exact hk.kind
  · subst henv; exact hS.f.gl
  · subst henv; exact hS.f.bi
  · obtain ⟨a, b, d⟩ := hk.hns p hp
    refine ⟨?_, d⟩
    subst henv
    have := lookup_relabel (env := G.env) a
    show (relabel scope G.env).names.lookup _ = _
    unfold relabel
    dsimp only
    rw [this, if_neg]
    simp [b]
  · obtain ⟨a, b, d⟩ := hk.hns p hp
    rw [hp2] at a
    exact cellsFrom_mem _ _ _ (mem_of_lookup a)
  · subst henv
    have key : ∀ k, scope.names.lookup (Str.ofString y) = some k → k = .free ∨ k = .cell → ((relabel scope G.env).names.lookup (Str.ofString y) = some .cell ∨ (relabel scope G.env).names.lookup (Str.ofString y) = some .free) := fun k hk' hkk => by
      have := lookup_relabel (env := G.env) hk'
      unfold relabel
      dsimp only
      rw [this]
      rcases hkk with rfl | rfl
      · split <;> simp
      · simp
    rcases hk.hcn y hy with h | h
    · refine ⟨key _ h (.inl rfl), ?_⟩
      show ∃ c, (cellsFrom (C + 1) scope.names cl).lookup _ = _
      rw [cellsFrom_acc, lookup_append', ← hcle, filter_lookup hk.nd c (mem_of_lookup h)]
      cases (cellsFrom (C + 1) scope.names []).lookup (Str.ofString y) with
      | none => exact ⟨_, rfl⟩
      | some b => exact ⟨_, rfl⟩
    · refine ⟨key _ h (.inr rfl), ?_⟩
      obtain ⟨a, ha⟩ := cellsFrom_mem scope.names (C + 1) _ (mem_of_lookup h)
      show ∃ c, (cellsFrom (C + 1) scope.names cl).lookup _ = _
      rw [cellsFrom_acc, lookup_append', lookup_of_mem κnd ha]
      exact ⟨_, rfl⟩
end
end Mine.Tactic
end
section
open PySem PySem.W PyProof.Rows PySem.Calls
set_option Elab.async false
set_option maxRecDepth 100000
namespace Mine.Tactic

noncomputable def isSetE : Expr → Bool
  | .Set .. => true
  | _ => false
theorem folded_of {e : Expr} (h : isSetE e = false) (env : Env) (x : Value) : foldedSetIterable e env x = pure x := by
  cases e <;> first | rfl | (exact Bool.noConfusion (show true = false from h))
noncomputable def gensOk (gens : List Comprehension) : Bool := gens.all fun g => !isSetE g.iter && g.is_async == 0
theorem gensOk_iff {gens : List Comprehension} (h : gensOk gens = true) : (∀ g ∈ gens, g.is_async = 0) ∧ ∀ g ∈ gens, ∀ env x, foldedSetIterable g.iter env x = pure x := by
  unfold gensOk at h
  rw [List.all_eq_true] at h
  refine ⟨fun g hg => ?_, fun g hg env x => folded_of ?_ env x⟩
  · have := h g hg; simp only [Bool.and_eq_true, beq_iff_eq] at this; exact this.2
  · have := h g hg; simp only [Bool.and_eq_true, Bool.not_eq_true'] at this; exact this.1

noncomputable def CompS (G : Gx) (elt : Expr) (g : Comprehension) (rest : List Comprehension) (scope : Scope) (ρ : Rho) (σ : Led) (Q : List PV → Rho → Led → Prop) : Prop :=
  ForSrc G g.target g.iter ρ σ (fun items σr ρ₁ σ₂ => ∃ ns cn ρc ρg, compOk scope G.cn ns cn (ρc.map (·.1)) (ρg.map (·.1)) = true ∧ (∀ p ∈ ρc, p ∈ ρ₁) ∧ (∀ p ∈ ρg, p ∈ G.C.gl) ∧
    ∀ env' κ', compItems ⟨G.C, env', κ', ns, cn, G.n⟩ g (compInner ⟨G.C, env', κ', ns, cn, G.n⟩ elt rest) items [] (ρc ++ ρg) σ₂ (fun acc _ σ' => Q acc ρ₁ (σr ++ σ')))
noncomputable def CompT (G : Gx) (elt : Expr) (g : Comprehension) (rest : List Comprehension) (scope : Scope) (ρ : Rho) (σ : Led) (Q : List PV → Rho → Led → Prop) : Prop :=
  Ev G g.iter ρ σ (fun p ρ₁ σ₁ => ∃ σf σr σ₂ items ns cn ρc ρg, ItSrc G g.target p σf σr items ∧ (∀ q ∈ σf ++ σ₂, q ∈ σ₁) ∧ (((σf ++ σ₂).map (·.1)).Nodup ∨ σf ++ σ₂ = σ₁) ∧ (σr.map (·.1)).Nodup ∧
    compOk scope G.cn ns cn (ρc.map (·.1)) (ρg.map (·.1)) = true ∧ (∀ p ∈ ρc, p ∈ ρ₁) ∧ (∀ p ∈ ρg, p ∈ G.C.gl) ∧
    ∀ env' κ', compItems ⟨G.C, env', κ', ns, cn, G.n⟩ g (compInner ⟨G.C, env', κ', ns, cn, G.n⟩ elt rest) items [] (ρc ++ ρg) σ₂ (fun acc _ σ' => Q acc ρ₁ (σr ++ σ')))
theorem CompT.toS {G : Gx} {elt : Expr} {g : Comprehension} {rest : List Comprehension} {scope : Scope} {ρ : Rho} {σ : Led} {Q : List PV → Rho → Led → Prop} (h : CompT G elt g rest scope ρ σ Q) : CompS G elt g rest scope ρ σ Q :=
  .of (Tr.mono h (by rintro _ _ _ ⟨σf, σr, σ₂, items, ns, cn, ρc, ρg, a, b, c, d, e, f, k, l⟩; exact ⟨σf, σr, σ₂, items, a, b, c, d, ns, cn, ρc, ρg, e, f, k, l⟩))

theorem comp_run {G : Gx} {elt : Expr} {g : Comprehension} {rest : List Comprehension} {scope : Scope} {pos : Pos} {ρ : Rho} {σ : Led} {Q : List PV → Rho → Led → Prop} (h : CompS G elt g rest scope ρ σ Q) (hgs : gensOk (g :: rest) = true)
    {use : Option (Value → Sem Unit)} {A : Around} {bs im : PM} {s : Shared} (hA : AOk G.n A) (hS : St G bs im s ρ σ) (hcl0 : ∀ x, (x, NameKind.free) ∈ scope.names → ∃ y ∈ G.cn, Str.ofString y = x) (hnd0 : (scope.names.map (·.1)).Nodup) (hkind0 : scope.kind = .function)
    {Qv : Value → Shared → Prop}
    (hQ : ∀ D C s' im' ρ₁ σ' acc, St G bs im' s' ρ₁ ((D, .list acc) :: σ') → Ext bs im im' → Q acc ρ₁ σ' → (∃ m, s'.heap.Ns C m) → (bs.f C = none ∧ im'.f C = none ∧ C ∉ ((D, LO.list acc) :: σ').map (·.1) ∧ C ≠ G.env.locals ∧ ∀ p ∈ G.κ, p.2 ≠ C) →
      compPost G.C.M A Bot use Qv (.ref D) C (.ok .next) s') :
    wpAny G.C.M A (comprehension (.ListComp elt (g :: rest) scope pos) scope G.env (firstIterPos (g :: rest) pos) (newList []) (firstAsync (g :: rest)) (firstIter (g :: rest) G.env) use) Qv Bot s := by
  obtain ⟨hga, hgf⟩ := gensOk_iff hgs
  have e1 : firstAsync (g :: rest) = false := by
    obtain ⟨t, i, f, a⟩ := g
    have : a = 0 := hga _ (.head _)
    subst this; rfl
  have e2 : firstIter (g :: rest) G.env = eval g.iter G.env := by obtain ⟨t, i, f, a⟩ := g; rfl
  rw [e1, e2]
  have hfree : ∀ x, (x, NameKind.free) ∈ scope.names → ∃ c, G.env.cells.lookup x = some c := fun x hx => by
    obtain ⟨y, hy, rfl⟩ := hcl0 x hx
    exact (hS.f.ck y hy).2
  have hcl : ∃ cl, closureFor scope G.env = pure cl := ⟨_, closure_of (fun x => (G.env.cells.lookup x).getD 0) fun x hx => by obtain ⟨c, hc⟩ := hfree x hx; rw [hc]; rfl⟩
  obtain ⟨cl, hcl⟩ := hcl
  refine wpAny_comprehension_free (use := use) (g := g) (gs := rest) rfl (hgf g (.head _) G.env) hcl hkind0 (fun x hx e => lookup_of_mem hnd0 (by rw [← e]; exact hx)) ?_
  refine wpAny_mono (h A bs im s hA hS) (fun v s₁ p => ?_) fun _ _ e => e
  obtain ⟨im₁, ρ₁, σf, σr, σ₂, items, e₁, hS₁', hnr, ⟨ns, cn, ρc, ρg, hck, hρc, hρg, hT⟩, hI⟩ := p
  have hnd := hS₁'.l.nd
  have hck := compOk_iff hck
  refine wpAny_up (hI _ fun I h' tk fp wr P S hk hfr hIt htk => ?_)
  dsimp only at htk
  obtain ⟨hI2, hfp, hm⟩ := it_facts hS₁' hk hfr hIt
  have hS₂ : St G bs im₁ { s₁ with heap := h', toks := tk } ρ₁ (σf ++ σ₂) := hS₁'.grow hk tk
  -- the list
  refine wpAny_newObj_type ?_
  generalize hD : ({ s₁ with heap := h', toks := tk } : Shared).heap.objs.size = D
  have hS₃ := hS₂.pushLed { cls := .type "list", data := .seq ([] : List Value).toArray } (.list []) tk ⟨[], 0, Heap.get?_push_size _ rfl, .nil⟩
  have hDn : h'.get? D = none := by rw [← hD]; exact get?_size_none _
  dsimp only at hS₃ hD ⊢
  rw [hD] at hS₃
  generalize hH : h'.push { cls := .type "list", data := .seq ([] : List Value).toArray } = h₃ at hS₃ ⊢
  have hk₃ : ∀ b o, h'.get? b = some o → h₃.get? b = some o := fun b o e => by rw [← hH]; exact Heap.get?_push_of_some _ e
  -- the block
  have hX : ∀ x ∈ wr, bs.f x = none ∧ ∀ p ∈ G.κ, p.2 ≠ x := fun x hx => ⟨(hI2 x hx).1, (hfp x (hIt.sub x hx)).2.2.1⟩
  obtain ⟨cl', hcl', hblk⟩ := hS₃.block wr hX hck hρc hρg
  have ecl : cl' = cl := by rw [hcl] at hcl'; injection hcl' with hcl'; exact hcl'.symm
  subst ecl
  refine newCompEnv ?_
  obtain ⟨κ', bs', hblk⟩ := hblk G.env.qual tk (Nat.le_refl _)
  obtain ⟨hS₄, hbs', hbX, hκ'⟩ := hblk _ rfl
  dsimp only at hS₄ ⊢
  generalize hC : h₃.objs.size = C at hS₄ ⊢
  generalize hH₄ : pushCells (h₃.push { cls := .type "dict", data := .dict #[] }) scope.names = h₄ at hS₄ ⊢
  generalize henv : ({ scope := relabel scope G.env, locals := C, globals := G.env.globals, cells := cellsFrom (C + 1) scope.names cl', qual := G.env.qual, func := none, code := G.env.code, frame := G.env.frame, builtins := G.env.builtins } : Env) = env' at hS₄ ⊢
  have envC : env'.locals = C := by rw [← henv]
  have hk₄ : ∀ b o, h₃.get? b = some o → h₄.get? b = some o := fun b o e => by rw [← hH₄]; exact pushCells_keeps _ _ b o (Heap.get?_push_of_some _ e)
  have hk₁₄ : ∀ b o, h'.get? b = some o → h₄.get? b = some o := fun b o e => hk₄ b o (hk₃ b o e)
  have hCn : h₃.get? C = none := by rw [← hC]; exact get?_size_none _
  let G' : Gx := ⟨G.C, env', κ', ns, cn, G.n⟩
  have hS₄' : St G' bs' im₁ { s₁ with heap := h₄, toks := tk } (ρc ++ ρg) ((D, .list []) :: σ₂) := by
    refine hS₄.sub (fun q hq => ?_) ?_
    · rcases List.mem_cons.mp hq with rfl | hq
      · exact .head _
      · exact .tail _ (List.mem_append_right _ hq)
    · have := hS₃.l.nd
      rw [List.map_cons, List.map_append, List.nodup_cons] at this
      rw [List.map_cons, List.nodup_cons]
      exact ⟨fun q => this.1 (List.mem_append_right _ q), (List.nodup_append.mp this.2).2.1⟩
  have h3some : ∀ b ∈ fp, ∃ o, h₃.get? b = some o := fun b hb => let ⟨o, ho⟩ := (hfp b hb).2.2.2; ⟨o, hk₃ b o ho⟩
  have fpl : G'.env.locals ∉ fp := fun hm' => by
    obtain ⟨o, ho⟩ := h3some _ hm'
    have : G'.env.locals = C := envC
    rw [this, hCn] at ho; cases ho
  have fpk : ∀ p ∈ G'.κ, p.2 ∉ fp := fun p hp hm' => by
    obtain ⟨o, ho⟩ := h3some _ hm'
    have := hκ' p hp
    dsimp only at this
    rw [ho] at this; cases this
  have fpσ : ∀ b ∈ fp, b ∉ ((D, LO.list []) :: σ₂).map (·.1) := fun b hb hm' => by
    rcases List.mem_cons.mp hm' with q | q
    · obtain ⟨o, ho⟩ := (hfp b hb).2.2.2
      rw [q, hDn] at ho; cases ho
    · exact (hfp b hb).1 q
  have hsrf : ∀ p ∈ σr, p.1 ∈ σf.map (·.1) := fun p hp => mem_map_fst (hIt.back p hp).1
  have hsr : ∀ b ∈ σr.map (·.1), b ∈ fp := fun b hb => by obtain ⟨p, hp, rfl⟩ := List.mem_map.mp hb; exact (hIt.back p hp).2.1
  have hIt' : IsIt G' A im₁ h₄ g.target σf σr items I fp wr P S := ⟨hIt.sub, hIt.frame, hIt.next, hIt.done, hIt.self, hIt.frame _ _ _ hIt.st fun b _ o e => hk₁₄ b o e, hIt.wrI, hIt.fps, hIt.back, hIt.has, hIt.val⟩
  have hin : InnerOk G' elt (g :: rest) scope pos D 0 rest := InnerOk.all hga (fun g hg x => hgf g hg _ x) rest 0 rfl
  have hso : ∀ b ∈ fp, ∃ o, h₄.get? b = some o := fun b hb => let ⟨o, ho⟩ := (hfp b hb).2.2.2; ⟨o, hk₁₄ b o ho⟩
  have loop : ∀ {R : Result → Shared → Prop}, (∀ im' s' ρ' σ' acc' i h'' tk', Loop G' A im₁ bs' im' h₄ s' σf σr items I fp wr S i ρ' ((D, .list acc') :: σ') → (∀ b o, b ∉ wr → s'.heap.get? b = some o → h''.get? b = some o) → s'.toks ≤ tk' → Q acc' ρ₁ (σr ++ σ') → R (.ok .next) { s' with heap := h'', toks := tk' }) →
      codeAny G.C.M A (.compLoop (.ListComp elt (g :: rest) scope pos) 0 (.ref I) (.ref D) env') R { s₁ with heap := h₄, toks := tk } := fun {R} hR =>
    Comp.loop (G := G') (K := fun acc _ σ' => Q acc ρ₁ (σr ++ σ')) hin rfl hga hA hIt' fpl fpk hsr hso
      ⟨hS₄', .refl, hIt'.st, fun _ _ _ o q => q, fun b hb => hbX b hb, fun b hb => (hI2 b hb).2, fpσ, fun b hb => by obtain ⟨p, hp, rfl⟩ := List.mem_map.mp hb; exact (hm _ (hsrf p hp)).2.1⟩ (hT env' κ') hR
  have post : ∀ im' s' ρ' σ' acc' i h'' tk', Loop G' A im₁ bs' im' h₄ s' σf σr items I fp wr S i ρ' ((D, .list acc') :: σ') → (∀ b o, b ∉ wr → s'.heap.get? b = some o → h''.get? b = some o) → s'.toks ≤ tk' → Q acc' ρ₁ (σr ++ σ') →
      compPost G.C.M A Bot use Qv (.ref D) C (.ok .next) { s' with heap := h'', toks := tk' } := fun im' s' ρ' σ' acc' i h'' tk' L hk'' htk' hq => by
    have hback : ∀ p ∈ σr, LR im₁ h₄ p.1 p.2 ∧ bs'.f p.1 = none ∧ G'.env.locals ≠ p.1 ∧ ∀ q ∈ G'.κ, q.2 ≠ p.1 := fun p hp => by
      obtain ⟨hpf, hpfp, hpI⟩ := hIt.back p hp
      have := hS₄.l.led p (.tail _ (List.mem_append_left _ hpf))
      exact ⟨this.1, this.2.1, fun q => fpl (q ▸ hpfp), fun q hq e => fpk q hq (e ▸ hpfp)⟩
    have F := L.fin hIt' fpl fpk hsr hback hnr tk' hk''
    have hCm : ∃ m, h''.Ns C m := by obtain ⟨m, a, _⟩ := F.f.vars; exact ⟨m, envC ▸ a⟩
    -- back in the frame
    have B := hS₁'.back (s' := { s' with heap := h'', toks := tk' }) (σ' := σr ++ (D, .list acc') :: σ') (fun b => b ∈ (σf ++ σ₂).map (·.1) ∨ b ∈ wr ∨ b = D) F.l L.ext (fun b o e nh => ?_) fun b hb => ?_
    · obtain ⟨B1, B2⟩ := B
      have s1n : ∀ b, h₃.get? b = none → s₁.heap.get? b = none := fun b q => by
        cases z : s₁.heap.get? b with
        | none => rfl
        | some o => rw [hk₃ b o (hk b o z)] at q; cases q
      have hC1 := s1n C hCn
      have hCs : C ∉ ((D, LO.list acc') :: (σr ++ σ')).map (·.1) := fun q => by
        have hl := F.f.lled
        have : G'.env.locals = C := envC
        rw [this, List.map_append, List.map_cons] at hl
        rw [List.map_cons, List.map_append] at q
        rcases List.mem_cons.mp q with q | q
        · exact hl (List.mem_append_right _ (q ▸ .head _))
        · rcases List.mem_append.mp q with q | q
          · exact hl (List.mem_append_left _ q)
          · exact hl (List.mem_append_right _ (.tail _ q))
      have B3 : St G bs im' { s' with heap := h'', toks := tk' } ρ₁ ((D, .list acc') :: (σr ++ σ')) := by
        refine B1.sub (fun q hq => ?_) ?_
        · rcases List.mem_cons.mp hq with rfl | hq
          · exact List.mem_append_right _ (.head _)
          · rcases List.mem_append.mp hq with hq | hq
            · exact List.mem_append_left _ hq
            · exact List.mem_append_right _ (.tail _ hq)
        · have := B1.l.nd
          rw [List.map_append, List.map_cons] at this
          rw [List.map_cons, List.map_append]
          exact (List.perm_middle.symm.nodup_iff).mpr this
      refine hQ D C _ im' ρ₁ (σr ++ σ') acc' B3 (e₁.trans B2) hq hCm ⟨hS₁'.l.bs_none hC1, ?_, hCs, ?_, fun p hp q => ?_⟩
      · have := F.f.lim
        rw [show G'.env.locals = C from envC] at this; exact this
      · intro q
        obtain ⟨o, _, _, ho, _⟩ := hS₁'.f.loc_some
        rw [← q, hC1] at ho; cases ho
      · obtain ⟨⟨w, o, ho, _⟩, _⟩ := hS₁'.f.cells p hp
        rw [q, hC1] at ho; cases ho
    · have h1 : b ∉ (σf ++ σ₂).map (·.1) := fun q => nh (.inl q)
      have h2 : b ∉ wr := fun q => nh (.inr (.inl q))
      have h3 : b ≠ D := fun q => nh (.inr (.inr q))
      exact hbs' b o (hk₃ b o (hk b o e)) (by rw [List.map_cons]; intro q; rcases List.mem_cons.mp q with q | q; exact h3 q; exact h1 q) h2
    · rcases hb with q | q | q
      · exact .inl q
      · rcases hfr b q with z | z
        · exact .inr z
        · exact .inl (by rw [List.map_append]; exact List.mem_append_left _ z)
      · subst q
        refine .inr (hS₁'.apart_new ?_)
        cases z : s₁.heap.get? b with
        | none => rfl
        | some o => rw [hk b o z] at hDn; cases hDn
  have hgz : env' = { env' with scope := relabel scope G.env } := by rw [← henv]
  show codeAny _ _ (.compStart (.ListComp elt (g :: rest) scope pos) 0 (.ref I) (.ref D) _) _ _
  refine codeAny_compStart_at (g := g) rfl (hga g (.head _)) (loop post) (hIt'.self 0 _ _ _ hIt'.st (loop post))

noncomputable abbrev KCmp (Q : PV → Rho → Led → Prop) : List PV → Rho → Led → Prop := fun acc ρ' σ' => Q (.lst acc) ρ' σ'
theorem Ev.compS {G : Gx} {elt : Expr} {g : Comprehension} {rest : List Comprehension} {scope : Scope} {pos : Pos} {ρ : Rho} {σ : Led} {Q : PV → Rho → Led → Prop} (h : CompS G elt g rest scope ρ σ (KCmp Q))
    (hgs : gensOk (g :: rest) = true := by rfl) (hsc : compOk scope G.cn [] [] [] [] = true := by rfl) : Ev G (.ListComp elt (g :: rest) scope pos) ρ σ Q := fun A bs im s hA hS => by
  have hk := compOk_iff hsc
  show wpAny _ _ (eval (.ListComp elt (g :: rest) scope pos) G.env) _ _ _
  rw [eval_ListComp]
  refine comp_run h hgs (use := Option.none) hA hS hk.caps hk.nd hk.kind fun D C s' im' ρ₁ σ' acc B e hq hC hf => ?_
  obtain ⟨m, hm⟩ := hC
  refine ⟨m, hm, fun h' hs' => ?_⟩
  have B' : St G bs im' { s' with heap := h', toks := s'.toks } ρ₁ ((D, .list acc) :: σ') := B.off (W := fun b => b = C) s'.toks (fun b o q e => (hs'.2 b q).trans e) (fun b q => q ▸ hf.1) (fun b q => q ▸ hf.2.1) (fun b q => by rw [q]; exact hf.2.2.1) (fun q => hf.2.2.2.1 q.symm) (fun p hp q => hf.2.2.2.2 p hp q)
  obtain ⟨im'', e', hv, B''⟩ := B'.freeze
  exact ⟨im'', _, ρ₁, σ', e.trans e', hv, B'', hq⟩

noncomputable def swapC (scope : Scope) (pos : Pos) (y : Str) (py : Pos) : Bool := py.line == pos.line && !(scope.names.any fun p => p.1 == y && (p.2 == .local || p.2 == .cell))
theorem swapC_iff {env : Env} {elt : Expr} {gens : List Comprehension} {scope : Scope} {pos py : Pos} {y : Str} {line : Nat} (hk : env.scope.kind = .function) (ky : env.kindOf y = some .local) (h : swapC scope pos y py = true) : swapsWith (.ListComp elt gens scope pos) (some (.Name y py)) line env = pure true := by
  have hb : env.blockKind = .function := by unfold Env.blockKind; rw [hk]; rfl
  unfold swapC at h
  simp only [Bool.and_eq_true] at h
  unfold swapsWith
  dsimp only
  rw [hb, ky]
  have e : (py.line == (Expr.ListComp elt gens scope pos).pos.line) = true := h.1
  have e2 : ∀ f : Str × NameKind → Bool, (∀ p, f p = (p.1 == y && (p.2 == .local || p.2 == .cell))) → (!(scope.names.any f)) = true := fun f hf => by rw [show f = _ from funext hf]; exact h.2
  rw [e, e2 _ (fun p => rfl)]
  rfl
theorem asg_comp {G : Gx} {elt : Expr} {g : Comprehension} {rest : List Comprehension} {scope : Scope} {pos spos : Pos} {y : String} {py : Pos} {ρ : Rho} {σ : Led} {Q : Fl → Rho → Led → Prop} {val : Addr → List PV → PV} {led : Addr → List PV → Led → Led}
    (hfz : ∀ {bs im s ρ σ D acc}, St G bs im s ρ ((D, .list acc) :: σ) → ∃ im', Ext bs im im' ∧ VR im' (val D acc) (.ref D) ∧ St G bs im' s ρ (led D acc σ))
    (h : CompS G elt g rest scope ρ σ (fun acc ρ' σ' => ∀ D, As G (.Name (Str.ofString y) py) (val D acc) ρ' (led D acc σ') (fun ρ'' σ'' => Q .next ρ'' σ'')))
    (hy : (y, NameKind.local) ∈ G.ns) (hsw : swapC scope pos (Str.ofString y) py = true)
    (hgs : gensOk (g :: rest) = true) (hsc : compOk scope G.cn [] [] [] [] = true) :
    Ex1 G (.Assign [.Name (Str.ofString y) py] (.ListComp elt (g :: rest) scope pos) spos) ρ σ Q := fun A bs im s hA hS => by
  have hk := compOk_iff hsc
  show wpAny _ _ (exec (.Assign [.Name (Str.ofString y) py] (.ListComp elt (g :: rest) scope pos) spos) G.env) _ _ _
  rw [exec_Assign_Name_used _ _ _ _ (swapC_iff hS.f.kind (hS.f.kn _ hy).1 hsw)]
  refine wpAny_bind (wpAny_standAt (wpAny_bind ?_))
  show wpAny _ A (do let _ ← comprehension (.ListComp elt (g :: rest) scope pos) scope G.env _ (newList []) (firstAsync (g :: rest)) (firstIter (g :: rest) G.env) (some (assign (.Name (Str.ofString y) py) G.env))) _ _ s
  refine wpAny_bind (wpAny_mono (comp_run (Qv := fun _ s' => Post G FlR bs im Q .next s') h hgs (use := some (assign (.Name (Str.ofString y) py) G.env)) hA hS hk.caps hk.nd hk.kind fun D C s' im' ρ₁ σ' acc B e hq hC hf => ?_) (fun _ s' p => wpAny_pure (wpAny_pure p)) fun _ _ x => x)
  show wpAny _ A (assign (.Name (Str.ofString y) py) G.env (.ref D)) _ _ _
  obtain ⟨m, hm⟩ := hC
  have hCs : ∀ b, b = C → b ∉ ((D, LO.list acc) :: σ').map (·.1) := fun b q => by rw [q]; exact hf.2.2.1
  have B₁ := B.over (fun b => b = C) hCs (fun q => hf.2.2.2.1 q.symm) (fun p hp q => hf.2.2.2.2 p hp q)
  have sub := PM.over_sub (F := fun b => b = C) B.l.hbs
  obtain ⟨im₂, e₂, hv, B₂⟩ := hfz B₁
  refine wpAny_mono (hq D A _ im₂ s' (.ref D) hA B₂ hv) (fun _ s₃ p => ?_) fun _ _ x => x
  obtain ⟨im₃, _, ρ₃, σ₃, e₃, _, B₃, hq₃⟩ := p
  obtain ⟨oC, es, ep, hoC, hr⟩ := hm
  have bsC : (bs.over (fun b => b = C) s'.heap).f C = some oC := by rw [PM.over_at, if_pos rfl]; exact hoC
  refine ⟨m, ⟨oC, es, ep, B₃.l.hbs _ _ bsC, hr⟩, fun h' hs' => ?_⟩
  have e23 := e₂.trans e₃
  have imC : im₃.f C = none := by
    cases q : im₃.f C with
    | none => rfl
    | some o => exact absurd hf.2.1 ((e23.2 C (by rw [q]; simp)).resolve_right (by rw [bsC]; simp))
  have ledC : C ∉ σ₃.map (·.1) := fun q => by rw [(B₃.l.ledNe q).1] at bsC; cases bsC
  have B₄ := B₃.under sub B.l.cb B.f.outer
  exact ⟨im₃, .next, ρ₃, σ₃, e.trans (e23.under sub), rfl, B₄.off (W := fun b => b = C) s₃.toks (fun b o q e => (hs'.2 b q).trans e) (fun b q => q ▸ hf.1) (fun b q => q ▸ imC) (fun b q => by rw [q]; exact ledC) (fun q => hf.2.2.2.1 q.symm) (fun p hp q => hf.2.2.2.2 p hp q), hq₃⟩
noncomputable abbrev KCmpA (G : Gx) (y : String) (py : Pos) (Q : Fl → Rho → Led → Prop) : List PV → Rho → Led → Prop := fun acc ρ' σ' => ∀ _ : Addr, As G (.Name (Str.ofString y) py) (.lst acc) ρ' σ' (Q .next)
noncomputable abbrev KCmpAM (G : Gx) (y : String) (py : Pos) (Q : Fl → Rho → Led → Prop) : List PV → Rho → Led → Prop := fun acc ρ' σ' => ∀ D : Addr, As G (.Name (Str.ofString y) py) (.ref D) ρ' ((D, .list acc) :: σ') (Q .next)
theorem Ex1.asgCompS {G : Gx} {elt : Expr} {g : Comprehension} {rest : List Comprehension} {scope : Scope} {pos spos : Pos} {y : String} {py : Pos} {ρ : Rho} {σ : Led} {Q : Fl → Rho → Led → Prop}
    (h : CompS G elt g rest scope ρ σ (KCmpA G y py Q))
    (hy : (y, NameKind.local) ∈ G.ns) (hsw : swapC scope pos (Str.ofString y) py = true)
    (hgs : gensOk (g :: rest) = true := by rfl) (hsc : compOk scope G.cn [] [] [] [] = true := by rfl) :
    Ex1 G (.Assign [.Name (Str.ofString y) py] (.ListComp elt (g :: rest) scope pos) spos) ρ σ Q :=
  asg_comp (val := fun _ acc => .lst acc) (led := fun _ _ σ => σ) (fun hS => hS.freeze) h hy hsw hgs hsc
theorem Ex1.asgCompSM {G : Gx} {elt : Expr} {g : Comprehension} {rest : List Comprehension} {scope : Scope} {pos spos : Pos} {y : String} {py : Pos} {ρ : Rho} {σ : Led} {Q : Fl → Rho → Led → Prop}
    (h : CompS G elt g rest scope ρ σ (KCmpAM G y py Q))
    (hy : (y, NameKind.local) ∈ G.ns) (hsw : swapC scope pos (Str.ofString y) py = true)
    (hgs : gensOk (g :: rest) = true := by rfl) (hsc : compOk scope G.cn [] [] [] [] = true := by rfl) :
    Ex1 G (.Assign [.Name (Str.ofString y) py] (.ListComp elt (g :: rest) scope pos) spos) ρ σ Q :=
  asg_comp (val := fun D _ => .ref D) (led := fun D acc σ => (D, .list acc) :: σ) (fun {_ im _ _ _ _ _} hS => ⟨im, .refl, .ref, hS⟩) h hy hsw hgs hsc
theorem Ev.comp {G : Gx} {elt : Expr} {g : Comprehension} {rest : List Comprehension} {scope : Scope} {pos : Pos} {ρ : Rho} {σ : Led} {Q : PV → Rho → Led → Prop} (h : CompT G elt g rest scope ρ σ (KCmp Q))
    (hgs : gensOk (g :: rest) = true := by rfl) (hsc : compOk scope G.cn [] [] [] [] = true := by rfl) : Ev G (.ListComp elt (g :: rest) scope pos) ρ σ Q := .compS h.toS hgs hsc
theorem Ex1.asgComp {G : Gx} {elt : Expr} {g : Comprehension} {rest : List Comprehension} {scope : Scope} {pos spos : Pos} {y : String} {py : Pos} {ρ : Rho} {σ : Led} {Q : Fl → Rho → Led → Prop}
    (h : CompT G elt g rest scope ρ σ (KCmpA G y py Q))
    (hy : (y, NameKind.local) ∈ G.ns) (hsw : swapC scope pos (Str.ofString y) py = true)
    (hgs : gensOk (g :: rest) = true := by rfl) (hsc : compOk scope G.cn [] [] [] [] = true := by rfl) :
    Ex1 G (.Assign [.Name (Str.ofString y) py] (.ListComp elt (g :: rest) scope pos) spos) ρ σ Q := .asgCompS h.toS hy hsw hgs hsc
theorem Ex1.asgCompM {G : Gx} {elt : Expr} {g : Comprehension} {rest : List Comprehension} {scope : Scope} {pos spos : Pos} {y : String} {py : Pos} {ρ : Rho} {σ : Led} {Q : Fl → Rho → Led → Prop}
    (h : CompT G elt g rest scope ρ σ (KCmpAM G y py Q))
    (hy : (y, NameKind.local) ∈ G.ns) (hsw : swapC scope pos (Str.ofString y) py = true)
    (hgs : gensOk (g :: rest) = true := by rfl) (hsc : compOk scope G.cn [] [] [] [] = true := by rfl) :
    Ex1 G (.Assign [.Name (Str.ofString y) py] (.ListComp elt (g :: rest) scope pos) spos) ρ σ Q := .asgCompSM h.toS hy hsw hgs hsc
end Mine.Tactic
end
section
open PySem PySem.W PyProof.Rows PySem.Calls
set_option Elab.async false
set_option maxRecDepth 100000
namespace Mine.Tactic

noncomputable def EvL (G : Gx) (pos : Pos) (es : List Expr) (ρ : Rho) (σ : Led) (Q : List PV → Rho → Led → Prop) : Prop := Tr G relL (spliced (backTo pos (starEach es G.env))) ρ σ Q
theorem EvL.nil {G : Gx} {pos : Pos} {ρ : Rho} {σ : Led} {Q : List PV → Rho → Led → Prop} (h : Q [] ρ σ) : EvL G pos [] ρ σ Q := fun _ _ _ _ _ hS => spliced_nil (.now hS .nil h)
noncomputable abbrev KCons (p : PV) (Q : List PV → Rho → Led → Prop) : List PV → Rho → Led → Prop := fun ps ρ₂ σ₂ => Q (p :: ps) ρ₂ σ₂
noncomputable abbrev KEvL (G : Gx) (pos : Pos) (es : List Expr) (Q : List PV → Rho → Led → Prop) : PV → Rho → Led → Prop := fun p ρ₁ σ₁ => EvL G pos es ρ₁ σ₁ (KCons p Q)
theorem EvL.cons {G : Gx} {pos : Pos} {e : Expr} {es : List Expr} {ρ : Rho} {σ : Led} {Q : List PV → Rho → Led → Prop} (h : Ev G e ρ σ (KEvL G pos es Q))
    (he : starEach (e :: es) G.env = (false, eval e G.env) :: starEach es G.env := by rfl) : EvL G pos (e :: es) ρ σ Q := fun A bs im s hA hS => by
  rw [he]
  show wpAny _ _ (spliced ((false, eval e G.env) :: backTo pos (starEach es G.env))) _ _ _
  refine spliced_cons (wpAny_mono (h A bs im s hA hS) (fun v s₁ p => ?_) fun _ _ x => x)
  obtain ⟨im₁, r, ρ₁, σ₁, e₁, hr, hS₁, hC⟩ := p
  refine wpAny_mono (hC A bs im₁ s₁ hA hS₁) (fun vs s₂ p => ?_) fun _ _ x => x
  obtain ⟨im₂, rs, ρ₂, σ₂, e₂, hrs, hS₂, hD⟩ := p
  exact ⟨im₂, r :: rs, ρ₂, σ₂, e₁.trans e₂, .cons (hr.mono e₂.1) hrs, hS₂, hD⟩
noncomputable def EvK (G : Gx) (pos : Pos) (ks : List Keyword) (ρ : Rho) (σ : Led) (Q : List PV → Rho → Led → Prop) : Prop := Tr G relL (evalAll ((backToKw pos (keywordEach ks G.env)).map (·.2))) ρ σ Q
theorem EvK.nil {G : Gx} {pos : Pos} {ρ : Rho} {σ : Led} {Q : List PV → Rho → Led → Prop} (h : Q [] ρ σ) : EvK G pos [] ρ σ Q := fun _ _ _ _ _ hS => wpAny_evalAll_nil (.now hS .nil h)
noncomputable abbrev KEvK (G : Gx) (pos : Pos) (ks : List Keyword) (Q : List PV → Rho → Led → Prop) : PV → Rho → Led → Prop := fun p ρ₁ σ₁ => EvK G pos ks ρ₁ σ₁ (KCons p Q)
theorem EvK.cons {G : Gx} {pos p0 : Pos} {x : Option Str} {e : Expr} {ks : List Keyword} {ρ : Rho} {σ : Led} {Q : List PV → Rho → Led → Prop} (h : Ev G e ρ σ (KEvK G pos ks Q)) :
    EvK G pos (⟨x, e, p0⟩ :: ks) ρ σ Q := fun A bs im s hA hS => by
  show wpAny _ _ (evalAll ((do let v ← eval e G.env; standAt pos; pure v) :: (backToKw pos (keywordEach ks G.env)).map (·.2))) _ _ _
  refine wpAny_evalAll_cons (wpAny_bind (wpAny_mono (h A bs im s hA hS) (fun v s₁ p => wpAny_bind (wpAny_standAt (wpAny_pure ?_))) fun _ _ x => x))
  obtain ⟨im₁, r, ρ₁, σ₁, e₁, hr, hS₁, hC⟩ := p
  refine wpAny_mono (hC A bs im₁ s₁ hA hS₁) (fun vs s₂ p => ?_) fun _ _ x => x
  obtain ⟨im₂, rs, ρ₂, σ₂, e₂, hrs, hS₂, hD⟩ := p
  exact ⟨im₂, r :: rs, ρ₂, σ₂, e₁.trans e₂, .cons (hr.mono e₂.1) hrs, hS₂, hD⟩

theorem newTuple_run {G : Gx} {A : Around} {bs im : PM} {s : Shared} {ρ : Rho} {σ : Led} {ps : List PV} {vs : List Value} {Q : PV → Rho → Led → Prop} (hS : St G bs im s ρ σ) (hv : VRs im ps vs) (hl : ps.length ≤ 1000000) (h : Q (.tup ps) ρ σ) :
    wpAny G.C.M A (newTuple vs) (Post G VR bs im Q) Bot s := by
  refine wpAny_newObj_type ?_ (by show vs.toArray.size ≤ sizeLine; rw [List.size_toArray, hv.length, sizeLine_eq]; walk_at "zo")
  obtain ⟨e, hS'⟩ := hS.pushIm { cls := .type "tuple", data := .seq vs.toArray } rfl s.toks
  exact ⟨_, _, ρ, σ, e, .tup (PM.put_self ..) (hv.mono e.1), hS', h⟩
noncomputable abbrev KTup (Q : PV → Rho → Led → Prop) : List PV → Rho → Led → Prop := fun ps ρ₁ σ₁ => ps.length ≤ 1000000 ∧ Q (.tup ps) ρ₁ σ₁
noncomputable abbrev KLstM (Q : PV → Rho → Led → Prop) : List PV → Rho → Led → Prop := fun ps ρ₁ σ₁ => ps.length ≤ 1000000 ∧ ∀ D, Q (.ref D) ρ₁ ((D, .list ps) :: σ₁)
noncomputable abbrev KLst (Q : PV → Rho → Led → Prop) : List PV → Rho → Led → Prop := fun ps ρ₁ σ₁ => ps.length ≤ 1000000 ∧ Q (.lst ps) ρ₁ σ₁
theorem Ev.tuple {G : Gx} {es : List Expr} {k : Nat} {pos : Pos} {ρ : Rho} {σ : Led} {Q : PV → Rho → Led → Prop} (h : EvL G pos es ρ σ (KTup Q)) : Ev G (.Tuple es k pos) ρ σ Q :=
  fun A bs im s hA hS => Tuple_ (wpAny_mono (h A bs im s hA hS) (fun vs s₁ p => by
    obtain ⟨im₁, r, ρ₁, σ₁, e₁, hr, hS₁, hl, hC⟩ := p
    exact wpAny_mono (newTuple_run hS₁ hr hl hC) (fun _ _ q => q.ext e₁) fun _ _ x => x) fun _ _ x => x)
theorem Ev.listM {G : Gx} {es : List Expr} {pos : Pos} {ρ : Rho} {σ : Led} {Q : PV → Rho → Led → Prop} (h : EvL G pos es ρ σ (KLstM Q)) : Ev G (.List es pos) ρ σ Q :=
  fun A bs im s hA hS => List_ (wpAny_mono (h A bs im s hA hS) (fun vs s₁ p => by
    obtain ⟨im₁, r, ρ₁, σ₁, e₁, hr, hS₁, hl, hC⟩ := p
    refine wpAny_newObj_type ?_ (by show vs.toArray.size ≤ sizeLine; rw [List.size_toArray, VRs.length hr, sizeLine_eq]; walk_at "zo")
    have hS₂ := hS₁.pushLed { cls := .type "list", data := .seq vs.toArray } (.list r) s₁.toks ⟨vs, 0, Heap.get?_push_size _ rfl, hr⟩
    exact ⟨im₁, _, ρ₁, _, e₁, .ref, hS₂, hC _⟩) fun _ _ x => x)
theorem Ev.list {G : Gx} {es : List Expr} {pos : Pos} {ρ : Rho} {σ : Led} {Q : PV → Rho → Led → Prop} (h : EvL G pos es ρ σ (KLst Q)) : Ev G (.List es pos) ρ σ Q :=
  fun A bs im s hA hS => List_ (wpAny_mono (h A bs im s hA hS) (fun vs s₁ p => by
    obtain ⟨im₁, r, ρ₁, σ₁, e₁, hr, hS₁, hl, hC⟩ := p
    refine wpAny_newObj_type ?_ (by show vs.toArray.size ≤ sizeLine; rw [List.size_toArray, VRs.length hr, sizeLine_eq]; walk_at "zo")
    obtain ⟨e, hS'⟩ := hS₁.pushIm { cls := .type "list", data := .seq vs.toArray } rfl s₁.toks
    exact ⟨_, _, ρ₁, σ₁, e₁.trans e, .lst (PM.put_self ..) (hr.mono e.1), hS', hC⟩) fun _ _ x => x)

noncomputable def KwR (im : PM) (kw : List (String × PV)) (kvs : List (Str × Value)) : Prop := kvs.map (·.1) = kw.map (fun p => Str.ofString p.1) ∧ VRs im (kw.map (·.2)) (kvs.map (·.2))
theorem kvs1 {x : Str} {kvs : List (Str × Value)} (h : kvs.map (·.1) = [x]) : ∃ v, kvs = [(x, v)] := by
  cases kvs with
  | nil => cases h
  | cons a t =>
    injection h with h1 h2
    cases t with
    | nil => obtain ⟨k, v⟩ := a; subst h1; exact ⟨v, rfl⟩
    | cons b u => cases h2
theorem KwR.nil {im : PM} : KwR im [] [] := ⟨rfl, .nil⟩
noncomputable def Keeps? (M : Model) (h : Heap) (f : Value) : Prop := ∃ k, (k = Keeper.frame ∨ k = Keeper.machine ∨ k = Keeper.boundFrame) ∧ Looks M h (keeperOf f) k
theorem keeps_builtin {M : Model} {h : Heap} {id : String} : Keeps? M h (.builtin id) := ⟨.machine, .inr (.inl rfl), fun _ _ _ _ _ q => wpAny_pure q⟩
theorem keeps_type {M : Model} {h : Heap} {id : String} : Keeps? M h (.type id) := ⟨.machine, .inr (.inl rfl), fun _ _ _ _ _ q => wpAny_pure q⟩
theorem keeps_func {M : Model} {h : Heap} {a : Addr} {o : Obj} {fd : FuncData} (ho : h.get? a = some o) (hd : o.data = .func fd) : Keeps? M h (.ref a) :=
  ⟨.frame, .inl rfl, fun A Q E s k q => by
    unfold keeperOf
    refine wpAny_bind (wpAny_load (k _ _ ho) ?_)
    rw [hd]; exact wpAny_pure q⟩
theorem keeps_rec {M : Model} {h : Heap} {a : Addr} {o : Obj} {vs : Array Value} (ho : h.get? a = some o) (hc : o.cls = .type "builtin_function_or_method") (hd : o.data = .fields vs) : Keeps? M h (.ref a) :=
  ⟨.machine, .inr (.inl rfl), fun A Q E s k q => by
    unfold keeperOf
    refine wpAny_bind (wpAny_load (k _ _ ho) ?_)
    rw [hd, hc]
    exact wpAny_pure q⟩

noncomputable def CallP (G : Gx) (f : PV) (ps : List PV) (kw : List (String × PV)) (ρ : Rho) (σ : Led) (Q : PV → Rho → Led → Prop) : Prop :=
  ∀ A bs im s fv vs kvs, AOk G.n A → St G bs im s ρ σ → VR im f fv → VRs im ps vs → KwR im kw kvs → Keeps? G.C.M s.heap fv ∧ wpAny G.C.M A (call fv vs kvs) (Post G VR bs im Q) Bot s

theorem evalArgs_any {M : Model} {A : Around} {E : Value → Shared → Prop} {s : Shared} {f : Value} {l : List (Bool × Sem Value)} {Q : Args → Shared → Prop} (hst : l.any (·.1) = false)
    (h : wpAny M A (spliced l) (fun vs s' => Q ⟨vs, []⟩ s') E s) : wpAny M A (evalArgs f true l []) Q E s := by
  cases l with
  | nil =>
    unfold evalArgs
    show wpAny M A (spliced [] >>= _) Q E s
    refine wpAny_bind (wpAny_mono h (fun vs s' h' => ?_) fun _ _ x => x)
    exact wpAny_bind (wpAny_pure (wpAny_holding (wpAny_bind (wpAny_pure (wpAny_bind (wpAny_pure (wpAny_pure h')))))))
  | cons a r =>
    obtain ⟨b, t⟩ := a
    rw [List.any_cons, Bool.or_eq_false_iff] at hst
    have hb : b = false := hst.1
    subst hb
    exact evalArgs_plain h
theorem evalArgs_kws {M : Model} {A : Around} {E : Value → Shared → Prop} {s : Shared} {f : Value} {l : List (Bool × Sem Value)} {keywords : List (Option Str × Sem Value)} {Q : Args → Shared → Prop} (hst : l.any (·.1) = false) (hall : keywords.all (·.1.isSome) = true)
    (h : wpAny M A (spliced l) (fun vs s₁ => wpAny M A (evalAll (keywords.map (·.2))) (fun ks s₂ => Q ⟨vs, (keywords.filterMap (·.1)).zip ks⟩ s₂) E s₁) E s) : wpAny M A (evalArgs f true l keywords) Q E s := by
  cases l with
  | nil =>
    unfold evalArgs
    show wpAny M A (spliced [] >>= _) Q E s
    refine wpAny_bind (wpAny_mono h (fun vs s' h' => ?_) fun _ _ x => x)
    refine wpAny_bind (wpAny_pure (wpAny_holding ?_))
    simp only [hall, if_true]
    exact wpAny_bind (wpAny_mono h' (fun ks s₂ h₂ => wpAny_bind (wpAny_pure (wpAny_pure h₂))) fun _ _ x => x)
  | cons a r =>
    obtain ⟨b, t⟩ := a
    rw [List.any_cons, Bool.or_eq_false_iff] at hst
    have hb : b = false := hst.1
    subst hb
    exact evalArgs_kw hall h

noncomputable abbrev KCall (G : Gx) (f : PV) (ps₀ : List PV) (Q : PV → Rho → Led → Prop) : List PV → Rho → Led → Prop := fun ps ρ₁ σ₁ => CallP G f (ps₀ ++ ps) [] ρ₁ σ₁ Q
noncomputable abbrev KCall0 (G : Gx) (f : PV) (Q : PV → Rho → Led → Prop) : List PV → Rho → Led → Prop := fun ps ρ₁ σ₁ => CallP G f ps [] ρ₁ σ₁ Q
noncomputable abbrev KCallK' (G : Gx) (f : PV) (xs : List String) (ps : List PV) (Q : PV → Rho → Led → Prop) : List PV → Rho → Led → Prop := fun kps ρ₂ σ₂ => kps.length = xs.length ∧ CallP G f ps (xs.zip kps) ρ₂ σ₂ Q
noncomputable abbrev KCallK (G : Gx) (pos : Pos) (ks : List Keyword) (f : PV) (xs : List String) (ps₀ : List PV) (Q : PV → Rho → Led → Prop) : List PV → Rho → Led → Prop := fun ps ρ₁ σ₁ => EvK G pos ks ρ₁ σ₁ (KCallK' G f xs (ps₀ ++ ps) Q)
noncomputable abbrev KCallK0 (G : Gx) (pos : Pos) (ks : List Keyword) (f : PV) (xs : List String) (Q : PV → Rho → Led → Prop) : List PV → Rho → Led → Prop := fun ps ρ₁ σ₁ => EvK G pos ks ρ₁ σ₁ (KCallK' G f xs ps Q)
theorem callWith_run {G : Gx} {f : PV} {ps₀ : List PV} {pos pos' : Pos} {args : List Expr} {ρ : Rho} {σ : Led} {Q : PV → Rho → Led → Prop} (h : EvL G pos args ρ σ (fun ps ρ₁ σ₁ => CallP G f (ps₀ ++ ps) [] ρ₁ σ₁ Q))
    (hst : (backTo pos (starEach args G.env)).any (·.1) = false) {A : Around} {bs im : PM} {s : Shared} {fv : Value} {first : List Value} (hA : AOk G.n A) (hS : St G bs im s ρ σ) (hf : VR im f fv) (h0 : VRs im ps₀ first) :
    wpAny G.C.M A (callWith pos' fv first (backTo pos (starEach args G.env)) []) (Post G VR bs im Q) Bot s := by
  refine callWith_of (P := fun h => Keeps? G.C.M h fv) (by rw [hst]; rfl) (fun h k => k) (evalArgs_any hst (wpAny_mono (h A bs im s hA hS) (fun vs s₁ p => ?_) fun _ _ x => x))
  obtain ⟨im₁, r, ρ₁, σ₁, e₁, hr, hS₁, hC⟩ := p
  obtain ⟨k, w⟩ := hC A bs im₁ s₁ fv (first ++ vs) [] hA hS₁ (hf.mono e₁.1) ((h0.mono e₁.1).append hr) .nil
  exact ⟨k, wpAny_mono w (fun _ _ q => q.ext e₁) fun _ _ x => x⟩
theorem callWith_runK {G : Gx} {f : PV} {ps₀ : List PV} {pos pos' : Pos} {args : List Expr} {ks : List Keyword} {ρ : Rho} {σ : Led} {Q : PV → Rho → Led → Prop} (xs : List String)
    (h : EvL G pos args ρ σ (fun ps ρ₁ σ₁ => EvK G pos ks ρ₁ σ₁ (fun kps ρ₂ σ₂ => kps.length = xs.length ∧ CallP G f (ps₀ ++ ps) (xs.zip kps) ρ₂ σ₂ Q)))
    (hst : (backTo pos (starEach args G.env)).any (·.1) = false) (hx : (backToKw pos (keywordEach ks G.env)).map (·.1) = xs.map fun x => some (Str.ofString x)) {A : Around} {bs im : PM} {s : Shared} {fv : Value} {first : List Value} (hA : AOk G.n A) (hS : St G bs im s ρ σ) (hf : VR im f fv) (h0 : VRs im ps₀ first) :
    wpAny G.C.M A (callWith pos' fv first (backTo pos (starEach args G.env)) (backToKw pos (keywordEach ks G.env))) (Post G VR bs im Q) Bot s := by
  have e1 : (backToKw pos (keywordEach ks G.env)).all (·.1.isSome) = true := by
    rw [List.all_eq_true]; intro p hp
    have : p.1 ∈ (backToKw pos (keywordEach ks G.env)).map (·.1) := List.mem_map_of_mem hp
    rw [hx] at this
    obtain ⟨x, _, e⟩ := List.mem_map.mp this
    rw [← e]; rfl
  have e2 : (backToKw pos (keywordEach ks G.env)).any (·.1.isNone) = false := by
    rw [List.any_eq_false]; intro p hp
    have := List.all_eq_true.mp e1 p hp
    cases z : p.1 with
    | none => rw [z] at this; cases this
    | some x => simp
  have e3 : (backToKw pos (keywordEach ks G.env)).filterMap (·.1) = xs.map Str.ofString := by
    have : (backToKw pos (keywordEach ks G.env)).filterMap (·.1) = ((backToKw pos (keywordEach ks G.env)).map (·.1)).filterMap id := by rw [List.filterMap_map]; rfl
    rw [this, hx, List.filterMap_map]
    induction xs with
    | nil => rfl
    | cons x r ih => simp
  refine callWith_of (P := fun h => Keeps? G.C.M h fv) (by rw [hst, e2]; rfl) (fun h k => k) (evalArgs_kws hst e1 (wpAny_mono (h A bs im s hA hS) (fun vs s₁ p => ?_) fun _ _ x => x))
  obtain ⟨im₁, r, ρ₁, σ₁, e₁, hr, hS₁, hC⟩ := p
  refine wpAny_mono (hC A bs im₁ s₁ hA hS₁) (fun ks' s₂ p => ?_) fun _ _ x => x
  obtain ⟨im₂, kps, ρ₂, σ₂, e₂, hkps, hS₂, hlen, hD⟩ := p
  have e12 := e₁.trans e₂
  have hl1 := VRs.length hkps
  have hl2 : (xs.map Str.ofString).length = ks'.length := by rw [List.length_map]; walk_at "zo"
  have hl3 : xs.length = kps.length := by walk_at "zo"
  have hkw : KwR im₂ (xs.zip kps) ((xs.map Str.ofString).zip ks') := by
    refine ⟨?_, ?_⟩
    · rw [List.map_fst_zip (Nat.le_of_eq hl2)]
      rw [show (fun p : String × PV => Str.ofString p.1) = Str.ofString ∘ (·.1) from rfl, ← List.map_map, List.map_fst_zip (Nat.le_of_eq hl3)]
    · rw [List.map_snd_zip (Nat.le_of_eq hl2.symm), List.map_snd_zip (Nat.le_of_eq hl3.symm)]
      exact hkps
  rw [e3]
  obtain ⟨k, w⟩ := hD A bs im₂ s₂ fv (first ++ vs) _ hA hS₂ (hf.mono e12.1) ((h0.mono e12.1).append (VRs.mono e₂.1 _ _ hr)) hkw
  exact ⟨k, wpAny_mono w (fun _ _ q => q.ext e12) fun _ _ x => x⟩

theorem Ev.call {G : Gx} {x : String} {p0 pos : Pos} {args : List Expr} {ρ : Rho} {σ : Led} {Q : PV → Rho → Led → Prop} {f : PV} (hf : (x, f) ∈ ρ)
    (h : EvL G pos args ρ σ (KCall0 G f Q)) (hst : (backTo pos (starEach args G.env)).any (·.1) = false := by rfl) : Ev G (.Call (.Name (Str.ofString x) p0) args [] pos) ρ σ Q := fun A bs im s hA hS => by
  rw [arm_eval_Call_Name']
  obtain ⟨hp, hl⟩ := load_has (A := A) (E := Bot) hS hf (Qv := fun v s₁ => wpAny G.C.M A (callWith pos v [] (backTo pos (starEach args G.env)) []) (Post G VR bs im Q) Bot s₁) (fun v hv => callWith_run (ps₀ := []) h hst hA hS hv .nil)
  exact wpAny_bind (wpAny_Name hl hp.1)
theorem Ev.callK {G : Gx} {x : String} {p0 pos : Pos} {args : List Expr} {ks : List Keyword} {ρ : Rho} {σ : Led} {Q : PV → Rho → Led → Prop} {f : PV} (xs : List String) (hf : (x, f) ∈ ρ)
    (h : EvL G pos args ρ σ (KCallK0 G pos ks f xs Q))
    (hst : (backTo pos (starEach args G.env)).any (·.1) = false := by rfl) (hx : (backToKw pos (keywordEach ks G.env)).map (·.1) = xs.map (fun x => some (Str.ofString x)) := by rfl) : Ev G (.Call (.Name (Str.ofString x) p0) args ks pos) ρ σ Q := fun A bs im s hA hS => by
  rw [arm_eval_Call_Name']
  obtain ⟨hp, hl⟩ := load_has (A := A) (E := Bot) hS hf (Qv := fun v s₁ => wpAny G.C.M A (callWith pos v [] (backTo pos (starEach args G.env)) (backToKw pos (keywordEach ks G.env))) (Post G VR bs im Q) Bot s₁) (fun v hv => callWith_runK (ps₀ := []) xs h hst hx hA hS hv .nil)
  exact wpAny_bind (wpAny_Name hl hp.1)

noncomputable def MethP (G : Gx) (p : PV) (name : Str) (f : PV) (first : List PV) (ρ : Rho) (σ : Led) : Prop :=
  ∀ A bs im s v pl (Q : Value × List Value → Shared → Prop), AOk G.n A → St G bs im s ρ σ → VR im p v → (∀ fv fs tk, VR im f fv → VRs im first fs → Q (fv, fs) { s with toks := tk }) → wpAny G.C.M A (getMethod v name pl) Q Bot s
noncomputable abbrev KMeth (G : Gx) (name : Str) (pos : Pos) (args : List Expr) (Q : PV → Rho → Led → Prop) : PV → Rho → Led → Prop := fun p ρ₁ σ₁ => ∃ f first, MethP G p name f first ρ₁ σ₁ ∧ EvL G pos args ρ₁ σ₁ (KCall G f first Q)
noncomputable abbrev KMethK (G : Gx) (name : Str) (pos : Pos) (args : List Expr) (ks : List Keyword) (xs : List String) (Q : PV → Rho → Led → Prop) : PV → Rho → Led → Prop := fun p ρ₁ σ₁ => ∃ f first, MethP G p name f first ρ₁ σ₁ ∧ EvL G pos args ρ₁ σ₁ (KCallK G pos ks f xs first Q)
theorem meth_run {G : Gx} {o : Expr} {name : Str} {apos pos : Pos} {args : List Expr} {ks : List Keyword} {ρ : Rho} {σ : Led} {Q : PV → Rho → Led → Prop} {call : PV → List PV → Rho → Led → Prop}
    (h : Ev G o ρ σ (fun p ρ₁ σ₁ => ∃ f first, MethP G p name f first ρ₁ σ₁ ∧ call f first ρ₁ σ₁))
    (hcall : ∀ f first ρ σ, call f first ρ σ → ∀ {A : Around} {bs im : PM} {s : Shared} {fv : Value} {fs : List Value}, AOk G.n A → St G bs im s ρ σ → VR im f fv → VRs im first fs →
      wpAny G.C.M A (callWith pos fv fs (backTo pos (starEach args G.env)) (backToKw pos (keywordEach ks G.env))) (Post G VR bs im Q) Bot s)
    (hb : attributeBase o name G.env (eval o G.env) = eval o G.env) (hform : methodCallForm (args.length + ks.length) (backTo pos (starEach args G.env)) (backToKw pos (keywordEach ks G.env)) = true)
    (hl : (apos.endLine == pos.line) = true) : Ev G (.Call (.Attribute o name apos) args ks pos) ρ σ Q := fun A bs im s hA hS => by
  show wpAny _ _ (do
    let ov ← attributeBase o name G.env (eval o G.env)
    standAt apos.atName
    methodCall o name apos pos G.env ov (args.length + ks.length) (backTo pos (starEach args G.env)) (backToKw pos (keywordEach ks G.env))) _ _ _
  rw [hb]
  refine wpAny_bind (wpAny_mono (h A bs im s hA hS) (fun ov s₁ p => wpAny_bind (wpAny_standAt ?_)) fun _ _ x => x)
  obtain ⟨im₁, r, ρ₁, σ₁, e₁, hr, hS₁, f, first, hm, hc⟩ := p
  unfold methodCall
  rw [hform]
  refine wpAny_bind (wpAny_holding ?_)
  unfold calleeOf
  rw [if_pos rfl]
  refine wpAny_up (hm A bs im₁ s₁ ov _ _ hA hS₁ hr fun fv fs tk hf hfs htk => ?_)
  dsimp only at htk
  unfold methodCallPos
  rw [hl]
  simp only [Bool.not_true, Bool.false_or, if_true]
  exact wpAny_bind (wpAny_pure (wpAny_mono (hcall f first ρ₁ σ₁ hc hA (hS₁.toks tk) hf hfs) (fun _ _ q => q.ext e₁) fun _ _ x => x))
theorem Ev.meth {G : Gx} {o : Expr} {name : Str} {apos pos : Pos} {args : List Expr} {ρ : Rho} {σ : Led} {Q : PV → Rho → Led → Prop}
    (h : Ev G o ρ σ (KMeth G name pos args Q))
    (hst : (backTo pos (starEach args G.env)).any (·.1) = false := by rfl) (hb : attributeBase o name G.env (eval o G.env) = eval o G.env := by rfl) (hform : methodCallForm (args.length + 0) (backTo pos (starEach args G.env)) [] = true := by rfl)
    (hl : (apos.endLine == pos.line) = true := by rfl) : Ev G (.Call (.Attribute o name apos) args [] pos) ρ σ Q :=
  meth_run (call := fun f first ρ₁ σ₁ => EvL G pos args ρ₁ σ₁ (fun ps ρ₂ σ₂ => CallP G f (first ++ ps) [] ρ₂ σ₂ Q)) h (fun f first ρ σ hc A bs im s fv fs hA hS hf hfs => callWith_run hc hst hA hS hf hfs) hb hform hl
theorem Ev.methK {G : Gx} {o : Expr} {name : Str} {apos pos : Pos} {args : List Expr} {ks : List Keyword} {ρ : Rho} {σ : Led} {Q : PV → Rho → Led → Prop} (xs : List String)
    (h : Ev G o ρ σ (KMethK G name pos args ks xs Q))
    (hst : (backTo pos (starEach args G.env)).any (·.1) = false := by rfl) (hx : (backToKw pos (keywordEach ks G.env)).map (·.1) = xs.map (fun x => some (Str.ofString x)) := by rfl) (hb : attributeBase o name G.env (eval o G.env) = eval o G.env := by rfl)
    (hform : methodCallForm (args.length + ks.length) (backTo pos (starEach args G.env)) (backToKw pos (keywordEach ks G.env)) = true := by rfl)
    (hl : (apos.endLine == pos.line) = true := by rfl) : Ev G (.Call (.Attribute o name apos) args ks pos) ρ σ Q :=
  meth_run (call := fun f first ρ₁ σ₁ => EvL G pos args ρ₁ σ₁ (fun ps ρ₂ σ₂ => EvK G pos ks ρ₂ σ₂ (fun kps ρ₃ σ₃ => kps.length = xs.length ∧ CallP G f (first ++ ps) (xs.zip kps) ρ₃ σ₃ Q))) h (fun f first ρ σ hc A bs im s fv fs hA hS hf hfs => callWith_runK xs hc hst hx hA hS hf hfs) hb hform hl
end Mine.Tactic
end
section
open PySem PySem.W PyProof.Rows PySem.Calls
set_option Elab.async false
set_option maxRecDepth 100000
namespace Mine.Tactic

theorem StL.enter {C : Cx} {bs im : PM} {s : Shared} {σ : Led} (hS : StL C bs im s σ) {scope : Scope} {ns : Names} {cn : List String} {ρg : Rho} (n : Nat) (hk : CompOk scope [] ns cn [] (ρg.map (·.1))) (hg : ∀ p ∈ ρg, p ∈ C.gl) (t : Nat) (ht : s.toks ≤ t := by first | exact Nat.le_refl _ | exact Nat.le_succ _ | assumption | walk_at "zo") :
    ∃ κ' bs', (∀ env' : Env, env'.scope = scope → env'.locals = s.heap.objs.size → env'.globals = mainGlobals → env'.builtins = builtinsNs → env'.cells = cellsFrom (s.heap.objs.size + 1) scope.names [] →
      St ⟨C, env', κ', ns, cn, n⟩ bs' im { s with heap := pushCells (s.heap.push { cls := .type "frame", data := .dict #[] }) scope.names, toks := t } ρg σ) ∧
      (∀ b o, s.heap.get? b = some o → b ∉ σ.map (·.1) → bs'.f b = some o) := by
  have hn := get?_size_none s.heap
  generalize hC : s.heap.objs.size = L at *
  let κ' := cellsFrom (L + 1) scope.names []
  let h₁ := s.heap.push { cls := .type "frame", data := .dict #[] }
  let h₂ := pushCells h₁ scope.names
  have hk₁ : ∀ b o, s.heap.get? b = some o → h₁.get? b = some o := fun b o e => Heap.get?_push_of_some _ e
  have hk₂ : ∀ b o, s.heap.get? b = some o → h₂.get? b = some o := fun b o e => pushCells_keeps _ _ b o (hk₁ b o e)
  have hsz : h₁.objs.size = L + 1 := by rw [← hC]; exact Heap.size_push ..
  have cok := cellsFrom_ok scope.names h₁ (L + 1) [] ⟨fun _ _ hm => (nomatch hm), List.Pairwise.nil⟩ (by rw [hsz]; exact Nat.le_refl _)
  rw [hsz] at cok
  have fresh : ∀ a, L ≤ a → s.heap.get? a = none := fun a ha => by
    cases e : s.heap.get? a with
    | none => rfl
    | some o => have := Heap.lt_size e; rw [hC] at this; exact absurd this (Nat.not_lt.mpr ha)
  have κge : ∀ p ∈ κ', L + 1 ≤ p.2 ∧ (p.1, NameKind.cell) ∈ scope.names := fun p hp => cellsFrom_ge _ _ p hp
  have κnd : (κ'.map (·.1)).Nodup := cellsFrom_keys _ _ hk.nd
  let hid : List Addr := L :: κ'.map (·.2) ++ σ.map (·.1)
  let bs' : PM := ⟨fun b => if b ∈ hid then none else h₂.get? b, 0⟩
  have nhid : ∀ b o, s.heap.get? b = some o → b ∉ σ.map (·.1) → b ∉ hid := fun b o e hb hm => by
    rcases List.mem_append.mp hm with hm | hm
    · rcases List.mem_cons.mp hm with q | hm
      · rw [q, hn] at e; cases e
      · obtain ⟨p, hp, q⟩ := List.mem_map.mp hm
        rw [← q, fresh p.2 (Nat.le_of_succ_le (κge p hp).1)] at e; cases e
    · exact hb hm
  have hbs' : ∀ b o, s.heap.get? b = some o → b ∉ σ.map (·.1) → bs'.f b = some o := fun b o e hb => by
    show (if b ∈ hid then none else h₂.get? b) = _
    rw [if_neg (nhid b o e hb)]; exact hk₂ b o e
  have hidn : ∀ b, b ∈ hid → bs'.f b = none := fun b hb => by show (if b ∈ hid then none else h₂.get? b) = _; rw [if_pos hb]
  have inσ : ∀ b, b ∈ σ.map (·.1) → b ∈ hid := fun b hb => List.mem_append_right _ hb
  refine ⟨κ', bs', fun env' hs hl hgl hbi hce => ⟨⟨hS.os, hS.gens, fun a o e => ?_, fun b o e => ?_, fun b o e => hk₂ b o (hS.him b o e), fun p hp => ?_, hS.nd, hS.gok, Nat.le_trans hS.tk ht⟩,
    ⟨⟨fun _ => none, ?_, fun p hp => ?_⟩, hk.rn, hidn _ ?_, (by show im.f env'.locals = none; rw [hl]; exact hS.im_none hn), (by show env'.locals ∉ _; rw [hl]; exact hS.led_some hn), fun p hp => ?_, pushCells_apart _ _, fun x a hx => ?_, ?_, hgl, hbi, fun p hp => ?_, fun p hp hp2 => ?_, fun y hy => ?_⟩⟩, hbs'⟩
  · have := hS.cb a o e
    exact hbs' a o (hS.hbs _ _ this) fun hm => by rw [(hS.ledNe hm).1] at this; cases this
  · have e' : (if b ∈ hid then none else h₂.get? b) = some o := e
    split at e'
    · cases e'
    · exact e'
  · obtain ⟨a, b, d⟩ := hS.led p hp
    exact ⟨a.at fun o e => hk₂ _ o e, hidn _ (inσ _ (mem_map_fst hp)), d⟩
  · have := (Heap.Ns.new s.heap (.type "frame")).keeps (pushCells_keeps scope.names h₁)
    rw [hC, ← hl] at this; exact this
  · obtain ⟨hpn, v, hv, hgl⟩ := hS.gok p (hg p hp)
    refine ⟨v, hv im, hpn, .glob ?_ hgl⟩
    show env'.scope.names.lookup _ = _
    rw [hs]; exact hk.hrg p.1 (List.mem_map_of_mem hp)
  · show env'.locals ∈ hid
    rw [hl]; exact .head _
  · obtain ⟨h1, h2⟩ := cok.empty p.1 p.2 hp
    refine ⟨⟨_, h1⟩, hidn _ (List.mem_append_left _ (.tail _ (List.mem_map_of_mem hp))), hS.im_none (fresh _ (Nat.le_of_succ_le h2)), hS.led_some (fresh _ (Nat.le_of_succ_le h2)), ?_⟩
    show env'.cells.lookup _ = _
    rw [hce]; exact lookup_of_mem κnd hp
  · have hx' : env'.cells.lookup x = some a := hx
    rw [hce] at hx'
    exact .inl (mem_of_lookup hx')
  · show env'.scope.kind = _
    rw [hs]; exact hk.kind
  · obtain ⟨a, b, d⟩ := hk.hns p hp
    refine ⟨?_, d⟩
    show env'.scope.names.lookup _ = _
    rw [hs]; exact a
  · obtain ⟨a, b, d⟩ := hk.hns p hp
    rw [hp2] at a
    exact cellsFrom_mem _ _ _ (mem_of_lookup a)
  · rcases hk.hcn y hy with h | h
    · obtain ⟨z, hz, _⟩ := hk.caps _ (mem_of_lookup h)
      cases hz
    · refine ⟨.inl (by show env'.scope.names.lookup _ = _; rw [hs]; exact h), ?_⟩
      obtain ⟨a, ha⟩ := cellsFrom_mem scope.names (L + 1) _ (mem_of_lookup h)
      show ∃ c, env'.cells.lookup _ = _
      rw [hce, lookup_of_mem κnd ha]
      exact ⟨_, rfl⟩

noncomputable def FnSpec (C : Cx) (n : Nat) (f : PV) (ps : List PV) (kw : List (String × PV)) (σ : Led) (Q : PV → Led → Prop) : Prop :=
  ∀ A bs im s fv vs kvs, AOk n A → StL C bs im s σ → VR im f fv → VRs im ps vs → KwR im kw kvs →
    Keeps? C.M s.heap fv ∧ codeAny C.M A (.call fv ⟨vs, kvs⟩) (fun r s' => ∃ v, r = .ok (.ret v) ∧ ∃ im' p σ', Ext bs im im' ∧ VR im' p v ∧ StL C bs im' s' σ' ∧ Q p σ') s
theorem FnSpec.call {C : Cx} {n : Nat} {f : PV} {ps : List PV} {kw : List (String × PV)} {σ : Led} {Q : PV → Led → Prop} (h : FnSpec C n f ps kw σ Q) {A : Around} {bs im : PM} {s : Shared} {fv : Value} {vs : List Value} {kvs : List (Str × Value)}
    (hA : AOk n A) (hS : StL C bs im s σ) (hf : VR im f fv) (hv : VRs im ps vs) (hk : KwR im kw kvs) : Keeps? C.M s.heap fv ∧ wpAny C.M A (call fv vs kvs) (fun v s' => ∃ im' p σ', Ext bs im im' ∧ VR im' p v ∧ StL C bs im' s' σ' ∧ Q p σ') Bot s := by
  obtain ⟨a, b⟩ := h A bs im s fv vs kvs hA hS hf hv hk
  refine ⟨a, wpAny_call (codeAny_mono b fun r s' z => ?_)⟩
  obtain ⟨v, rfl, z⟩ := z
  exact z

theorem FnSpec.mono {C : Cx} {n : Nat} {f : PV} {ps : List PV} {kw : List (String × PV)} {σ : Led} {Q Q' : PV → Led → Prop} (h : FnSpec C n f ps kw σ Q) (k : ∀ p σ, Q p σ → Q' p σ) : FnSpec C n f ps kw σ Q' :=
  fun A bs im s fv vs kvs hA hS hf hv hk => let ⟨a, b⟩ := h A bs im s fv vs kvs hA hS hf hv hk; ⟨a, codeAny_mono b fun _ _ ⟨v, e, im', p, σ', x, y, z, q⟩ => ⟨v, e, im', p, σ', x, y, z, k _ _ q⟩⟩
theorem FnSpec.more {C : Cx} {n m : Nat} {f : PV} {ps : List PV} {kw : List (String × PV)} {σ : Led} {Q : PV → Led → Prop} (h : FnSpec C n f ps kw σ Q) (hm : n ≤ m) : FnSpec C m f ps kw σ Q :=
  fun A bs im s fv vs kvs hA => h A bs im s fv vs kvs (hA.mono hm)

theorem CallP.of {G : Gx} {f : PV} {ps : List PV} {kw : List (String × PV)} {ρ : Rho} {σ σ₁ φ : Led} {Q : PV → Rho → Led → Prop} {Q' : PV → Led → Prop} (h : FnSpec G.C G.n f ps kw σ₁ Q') (hsub : ∀ p ∈ φ ++ σ₁, p ∈ σ) (hnd : ((φ ++ σ₁).map (·.1)).Nodup ∨ φ ++ σ₁ = σ)
    (k : ∀ p σ', Q' p σ' → Q p ρ (φ ++ σ')) : CallP G f ps kw ρ σ Q := fun A bs im s fv vs kvs hA hS₀ hf hv hk => by
  have hnd' : ((φ ++ σ₁).map (·.1)).Nodup := hnd.elim id fun e => e ▸ hS₀.l.nd
  have hS : St G bs im s ρ (φ ++ σ₁) := hS₀.sub hsub hnd'
  have sub₁ : ∀ p ∈ σ₁, p ∈ φ ++ σ₁ := fun p hp => List.mem_append_right _ hp
  have nd₁ : (σ₁.map (·.1)).Nodup := by rw [List.map_append] at hnd'; exact (List.nodup_append.mp hnd').2.1
  have core : ∀ bs, St G bs im s ρ σ₁ → Keeps? G.C.M s.heap fv ∧ wpAny G.C.M A (call fv vs kvs) (Post G VR bs im (fun p ρ' σ' => ρ' = ρ ∧ Q' p σ')) Bot s := fun bs hS => by
    let bs' : PM := ⟨fun b => if b ∈ σ₁.map (·.1) then none else s.heap.get? b, 0⟩
    have hb : ∀ b o, s.heap.get? b = some o → ¬ b ∈ σ₁.map (·.1) → bs'.f b = some o := fun b o e q => by show (if b ∈ σ₁.map (·.1) then none else s.heap.get? b) = _; rw [if_neg q]; exact e
    have nb : ∀ b o, bs.f b = some o → ¬ b ∈ σ₁.map (·.1) := fun b o e q => by rw [(hS.l.ledNe q).1] at e; cases e
    have L : StL G.C bs' im s σ₁ := by
      refine ⟨hS.l.os, hS.l.gens, fun a o e => ?_, fun b o e => ?_, hS.l.him, fun p hp => ?_, hS.l.nd, hS.l.gok, hS.l.tk⟩
      · exact hb a o (hS.l.hbs _ _ (hS.l.cb a o e)) (nb _ _ (hS.l.cb a o e))
      · have e' : (if b ∈ σ₁.map (·.1) then none else s.heap.get? b) = some o := e
        split at e'
        · cases e'
        · exact e'
      · obtain ⟨a, _, c⟩ := hS.l.led p hp
        refine ⟨a, ?_, c⟩
        show (if p.1 ∈ σ₁.map (·.1) then none else s.heap.get? p.1) = _
        rw [if_pos (mem_map_fst hp)]
    obtain ⟨w1, w2⟩ := h.call hA L hf hv hk
    refine ⟨w1, wpAny_mono w2 (fun v s' hqx => ?_) fun _ _ e => e⟩
    obtain ⟨im', p, σ', e, hp, hL, hq⟩ := hqx
    obtain ⟨B1, B2⟩ := hS.back (fun b => b ∈ σ₁.map (·.1)) hL e hb fun b q => .inl q
    exact ⟨im', p, ρ, σ', B2, hp, B1, rfl, hq⟩
  refine ⟨(core bs (hS.sub sub₁ nd₁)).1, ?_⟩
  refine wpAny_mono (hS.frame fun bs' hS' => (core bs' hS').2) (fun v s' hqx => ?_) fun _ _ e => e
  obtain ⟨im', p, ρ', σ', e, hp, hS', hρ, hq⟩ := hqx
  subst hρ
  exact ⟨im', p, _, _, e, hp, hS', k _ _ hq⟩

structure FnAt (C : Cx) (a : Addr) (fd : FuncData) : Prop where
  obj : ∃ o, C.base.f a = some o ∧ o.data = .func fd
  code : ∀ h : Heap, (∀ b o, C.base.f b = some o → h.get? b = some o) → h.NoLimit ∧ h.CodeRec fd.code fd.qualname

theorem setR_end {x : String} {p : PV} : ∀ {ρ : Rho}, x ∉ ρ.map (·.1) → SetR x p ρ (ρ ++ [(x, p)])
  | [], _ => .nil
  | q :: r, h => by
    rw [List.map_cons, List.mem_cons, not_or] at h
    exact .tail (Ne.symm h.1) (setR_end h.2)

theorem layParams {G : Gx} {A : Around} {bs : PM} {σ : Led} : ∀ (params : List (String × PV)) (vals : List Value) {im : PM} {s : Shared} {ρ : Rho} {Q : PUnit → Shared → Prop}, AOk G.n A → St G bs im s ρ σ → VRs im (params.map (·.2)) vals →
    (∀ p ∈ params, (p.1, NameKind.local) ∈ G.ns ∨ (p.1, NameKind.cell) ∈ G.ns) → ((ρ ++ params).map (·.1)).Nodup →
    (∀ im' s', Ext bs im im' → St G bs im' s' (ρ ++ params) σ → Q () s') → wpAny G.C.M A (forIn ((params.map fun p => Str.ofString p.1).zip vals) PUnit.unit fun (p : Str × Value) (_ : PUnit) => do storeName G.env p.1 p.2; pure (ForInStep.yield PUnit.unit)) Q Bot s
  | [], vals, im, s, ρ, Q, hA, hS, hv, hns, hnd, h => by
    rw [show (([] : List (String × PV)).map fun p => Str.ofString p.1).zip vals = [] from rfl, List.forIn_nil]
    rw [List.append_nil] at h
    exact wpAny_pure (h im s .refl hS)
  | (x, p) :: r, vals, im, s, ρ, Q, hA, hS, hv, hns, hnd, h => by
    obtain ⟨v, vs', rfl, hp, hr⟩ := VRs.cons_inv hv
    rw [List.map_cons, List.zip_cons_cons, List.forIn_cons]
    have hx : x ∉ ρ.map (·.1) := fun q => by
      rw [List.map_append, List.map_cons] at hnd
      exact (List.nodup_append.mp hnd).2.2 x q x (.head _) rfl
    have st : Con G VR p (fun v => storeName G.env (Str.ofString x) v) relU ρ σ (fun _ ρ' σ' => ρ' = ρ ++ [(x, p)] ∧ σ' = σ) := by
      rcases hns (x, p) (.head _) with q | q
      · exact store_con q (setR_end hx) ⟨rfl, rfl⟩
      · exact storeC_con q (setR_end hx) ⟨rfl, rfl⟩
    refine wpAny_bind (wpAny_bind (wpAny_mono (st A bs im s v hA hS hp) (fun _ s₁ ⟨im₁, _, ρ₁, σ₁, e₁, _, hS₁, hρ, hσ⟩ => wpAny_pure ?_) fun _ _ e => e))
    subst hρ; subst hσ
    have e2 : ρ ++ [(x, p)] ++ r = ρ ++ (x, p) :: r := by simp
    exact layParams r vs' hA hS₁ (hr.mono e₁.1) (fun q hq => hns q (.tail _ hq)) (by rw [e2]; exact hnd) fun im' s' e' hS' => h im' s' (e₁.trans e') (by rw [← e2]; exact hS')

noncomputable def fnOk (sc : Scope) (params : List String) (ns : Names) (cn : List String) (rg : List String) : Bool :=
  compOk sc [] ns cn [] rg && (params.all fun x => ns.any fun p => p.1 == x && (p.2 == .local || p.2 == .cell)) && decide (rg ++ params).Nodup && !sc.isCoroutine && !sc.isGenerator

theorem FnSpec.ofG {C : Cx} {n : Nat} {a : Addr} {fd : FuncData} {body : List Stmt} {ps : List PV} {kw : List (String × PV)} {σ₀ : Led} {Q : PV → Led → Prop} (R : List PV → Led → Prop) (xs : List String) (ns : Names) (cn : List String) (ρg : Rho)
    {sc : Scope} (hf : FnAt C a fd) (hbody : fd.body = .stmts body) (hsc : fd.scope = sc) (hgl : fd.globals = mainGlobals) (hbi : fd.builtins = builtinsNs) (hcl : fd.closure = []) (hok : fnOk sc xs ns cn (ρg.map (·.1)) = true) (hg : ∀ p ∈ ρg, p ∈ C.gl)
    (hbind : ∀ (bs im : PM) (s : Shared) (vs : List Value) (kvs : List (Str × Value)), StL C bs im s σ₀ → VRs im ps vs → KwR im kw kvs → ∀ (M : Model) (A : Around) (E : Value → Shared → Prop) (Q' : List (Str × Value) → Shared → Prop),
      (∀ im₁ s₁ vals pv σ₁, R pv σ₁ → xs.length = pv.length → Ext bs im im₁ → StL C bs im₁ s₁ σ₁ → VRs im₁ pv vals → Q' ((xs.map Str.ofString).zip vals) s₁) → wpAny M A (bindArgs fd ⟨vs, kvs⟩) Q' E s)
    (h : ∀ env κ pv σ, env.code = fd.code → R pv σ → Ex ⟨C, env, κ, ns, cn, n⟩ body (ρg ++ xs.zip pv) σ (fun fl _ σ' => match fl with | .ret p => Q p σ' | .next => Q .none σ' | _ => False)) : FnSpec C (n + 1) (.ref a) ps kw σ₀ Q := fun A bs im₀ s₀ fv vs kvs hA hS₀ hfv hv hk => by
  have efv := VR.ref_i hfv
  subst efv
  obtain ⟨o, ho, hd⟩ := hf.obj
  have hbase : ∀ b o, C.base.f b = some o → s₀.heap.get? b = some o := fun b o e => hS₀.hbs _ _ (hS₀.cb _ _ e)
  have ho' := hbase _ _ ho
  obtain ⟨hlim, hcd⟩ := hf.code s₀.heap hbase
  unfold fnOk at hok
  subst hsc
  simp only [Bool.and_eq_true, Bool.not_eq_true', beq_iff_eq, List.all_eq_true, List.any_eq_true, Bool.or_eq_true, decide_eq_true_eq] at hok
  obtain ⟨⟨⟨⟨hck, hpar⟩, hnd⟩, hco⟩, hge⟩ := hok
  have hck := compOk_iff hck
  refine ⟨keeps_func ho' hd, ?_⟩
  refine codeAny_call_function (by have := hA.2.1; show A.depth < 1000; walk_at "zo") ho' hd hco hge hbody hcd (hbind bs im₀ s₀ vs kvs hS₀ hv hk _ _ _ _ fun im s vals pv σ hR hlen e₀ hS hvals => ?_)
  have hz : (xs.zip pv).map (·.1) = xs := List.map_fst_zip (Nat.le_of_eq hlen)
  have hz2 : (xs.zip pv).map (·.2) = pv := List.map_snd_zip (Nat.le_of_eq hlen.symm)
  simp only [newFunctionEnv, Option.isSome_none, Bool.false_eq_true, if_false]
  refine wpAny_bind (wpAny_alloc ?_)
  refine wpAny_bind (wpAny_layCells _ (fun name kind cells => by cases hkc : kind == NameKind.cell <;> simp [hkc]) _ _ _ _ ?_)
  rw [show ({ s with heap := s.heap.push { cls := .type "frame", data := .dict #[] } } : Shared).heap.objs.size = s.heap.objs.size + 1 from Heap.size_push .., hcl]
  generalize henv : ({ scope := fd.scope, locals := s.heap.objs.size, globals := fd.globals, cells := cellsFrom (s.heap.objs.size + 1) fd.scope.names [], qual := fd.qualname ++ ".<locals>.", func := some a, code := fd.code, frame := some s.heap.objs.size, builtins := fd.builtins } : Env) = env
  obtain ⟨κ', bs', hent, hbs'⟩ := hS.enter n hck hg s.toks
  have hS₁ := hent env (by rw [← henv]) (by rw [← henv]) (by rw [← henv]; exact hgl) (by rw [← henv]; exact hbi) (by rw [← henv])
  have sub : ∀ b o, bs.f b = some o → bs'.f b = some o := fun b o e => hbs' b o (hS.hbs _ _ e) fun q => by rw [(hS.ledNe q).1] at e; cases e
  have hA1 : AOk n A.in1 := hA.in1
  have ezip : (xs.map Str.ofString).zip vals = ((xs.zip pv).map fun p => Str.ofString p.1).zip vals := by
    rw [show ((xs.zip pv).map fun p => Str.ofString p.1) = ((xs.zip pv).map (·.1)).map Str.ofString by rw [List.map_map]; rfl, hz]
  rw [ezip]
  have hbot : ∀ {α : Type} {t : Sem α} {Q' : α → Shared → Prop} {E : Value → Shared → Prop} {s : Shared}, wpAny C.M A.in1 t Q' Bot s → wpAny C.M A.in1 t Q' E s := fun h => wpAny_mono h (fun _ _ x => x) fun _ _ e => e.elim
  refine wpAny_bind (hbot (layParams (G := ⟨C, env, κ', ns, cn, n⟩) (xs.zip pv) vals hA1 hS₁ (by rw [hz2]; exact hvals) (fun p hp => ?_) ?_ fun im' s' e' hS' => wpAny_pure ⟨?_, codeAny_func ?_⟩))
  · have : p.1 ∈ xs := by rw [← hz]; exact List.mem_map_of_mem hp
    obtain ⟨q, hq, e1, e2⟩ := hpar _ this
    obtain ⟨q1, q2⟩ := q
    cases e1
    rcases e2 with e2 | e2
    · cases e2; exact .inl hq
    · cases e2; exact .inr hq
  · rw [List.map_append, hz]; exact hnd
  · exact (hf.code _ fun b o e => hS'.l.hbs _ _ (hS'.l.cb _ _ e)).1
  · refine wpAny_mono (h env κ' pv σ (by rw [← henv]) hR (A.deeper env) bs' im' s' (hA.deeper env) hS') (fun fl s'' hqx => ?_) fun _ _ e => e.elim
    obtain ⟨im'', r, ρ'', σ'', e'', hr, hS'', hq⟩ := hqx
    have E := e₀.trans ((e'.trans e'').under sub)
    have L : StL C bs im'' s'' σ'' := ⟨hS''.l.os, hS''.l.gens, hS.cb, fun b o e => hS''.l.hbs _ _ (sub b o e), hS''.l.him, fun p hp => let ⟨x, y, z⟩ := hS''.l.led p hp; ⟨x, (by cases q : bs.f p.1 with | none => rfl | some o => (rw [sub _ _ q] at y; cases y)), z⟩, hS''.l.nd, hS''.l.gok, hS''.l.tk⟩
    cases r with
    | next => cases hr; exact ⟨_, rfl, im'', .none, σ'', E, .none, L, hq⟩
    | ret p => obtain ⟨v, rfl, hv⟩ := hr; exact ⟨_, rfl, im'', p, σ'', E, hv, L, hq⟩
    | brk => exact hq.elim
    | cont => exact hq.elim
theorem FnSpec.ofC {C : Cx} {n : Nat} {a : Addr} {fd : FuncData} {body : List Stmt} {ps : List PV} {kw : List (String × PV)} {σ : Led} {Q : PV → Led → Prop} (xs : List String) (pv : List PV) (ns : Names) (cn : List String) (ρg : Rho)
    {sc : Scope} (hf : FnAt C a fd) (hbody : fd.body = .stmts body) (hsc : fd.scope = sc) (hgl : fd.globals = mainGlobals) (hbi : fd.builtins = builtinsNs) (hcl : fd.closure = []) (hok : fnOk sc xs ns cn (ρg.map (·.1)) = true) (hg : ∀ p ∈ ρg, p ∈ C.gl) (hlen : xs.length = pv.length)
    (hbind : ∀ (im : PM) (s : Shared) (vs : List Value) (kvs : List (Str × Value)), (∀ b o, C.base.f b = some o → s.heap.get? b = some o) → VRs im ps vs → KwR im kw kvs → ∃ vals, VRs im pv vals ∧ BindsTo s fd ⟨vs, kvs⟩ ((xs.map Str.ofString).zip vals))
    (h : ∀ env κ, env.code = fd.code → Ex ⟨C, env, κ, ns, cn, n⟩ body (ρg ++ xs.zip pv) σ (fun fl _ σ' => match fl with | .ret p => Q p σ' | .next => Q .none σ' | _ => False)) : FnSpec C (n + 1) (.ref a) ps kw σ Q :=
  FnSpec.ofG (fun p s => p = pv ∧ s = σ) xs ns cn ρg hf hbody hsc hgl hbi hcl hok hg
    (fun bs im s vs kvs hS hv hk M A E Q' hQ => let ⟨vals, h1, h2⟩ := hbind im s vs kvs (fun b o e => hS.hbs _ _ (hS.cb _ _ e)) hv hk; h2 _ _ _ _ (hQ im s vals pv σ ⟨rfl, rfl⟩ hlen .refl hS h1))
    (fun env κ pv' σ' hc ⟨e1, e2⟩ => by subst e1 e2; exact h env κ hc)
theorem FnSpec.of {C : Cx} {n : Nat} {a : Addr} {fd : FuncData} {body : List Stmt} {ps : List PV} {kw : List (String × PV)} {σ : Led} {Q : PV → Led → Prop} (xs : List String) (pv : List PV) (ns : Names) (cn : List String) (ρg : Rho)
    {sc : Scope} (hf : FnAt C a fd) (hbody : fd.body = .stmts body) (hsc : fd.scope = sc) (hgl : fd.globals = mainGlobals) (hbi : fd.builtins = builtinsNs) (hcl : fd.closure = []) (hok : fnOk sc xs ns cn (ρg.map (·.1)) = true) (hg : ∀ p ∈ ρg, p ∈ C.gl) (hlen : xs.length = pv.length)
    (hbind : ∀ (im : PM) (s : Shared) (vs : List Value) (kvs : List (Str × Value)), (∀ b o, C.base.f b = some o → s.heap.get? b = some o) → VRs im ps vs → KwR im kw kvs → ∃ vals, VRs im pv vals ∧ BindsTo s fd ⟨vs, kvs⟩ ((xs.map Str.ofString).zip vals))
    (h : ∀ env κ, Ex ⟨C, env, κ, ns, cn, n⟩ body (ρg ++ xs.zip pv) σ (fun fl _ σ' => match fl with | .ret p => Q p σ' | .next => Q .none σ' | _ => False)) : FnSpec C (n + 1) (.ref a) ps kw σ Q :=
  FnSpec.ofC xs pv ns cn ρg hf hbody hsc hgl hbi hcl hok hg hlen hbind fun env κ _ => h env κ
end Mine.Tactic
end
section
open PySem PySem.W PyProof.Rows PySem.Calls
set_option Elab.async false
set_option maxRecDepth 100000
namespace Mine.Tactic

noncomputable abbrev S (l : List Nat) : Str := ⟨l.toArray⟩
theorem S_len (l : List Nat) : (S l).length = l.length := by show l.toArray.size = _; simp
theorem S_app (l m : List Nat) : S l ++ S m = S (l ++ m) := by show (⟨l.toArray ++ m.toArray⟩ : Str) = ⟨(l ++ m).toArray⟩; simp

section
variable {G : Gx} {ρ : Rho} {σ : Led} {Q : PV → Rho → Led → Prop}

theorem Op2.lib {f : Value → Value → Sem Value} {a b r : PV} (h : Q r ρ σ)
    (hp : ∀ (A : Around) (im : PM) (s : Shared) (v w : Value) (Qv : Value → Shared → Prop), AOk G.n A → (∀ x o, im.f x = some o → s.heap.get? x = some o) → VR im a v → VR im b w → (∀ v' tk, VR im r v' → Qv v' { s with toks := tk }) → wpAny G.C.M A (f v w) Qv Bot s) : Op2 G f a b ρ σ Q :=
  fun A bs im s v w hA hS hv hw => wpAny_up (hp A im s v w _ hA hS.l.him hv hw fun v' tk hr htk => .now (hS.toks tk) hr h)

theorem op_int {op : Operator} {a b c : Int} (h : Q (.int c) ρ σ) (hp : ∀ (prog : Program) (w : World) (A : Around) (E : Value → Shared → Prop) (s : Shared) (t u : Tok) (Qv : Value → Shared → Prop), (∀ t' tk, Qv (.int c t') { s with toks := tk }) → wpAny (model prog w) A (binaryOp op (.int a t) (.int b u)) Qv E s) :
    Op2 G (binaryOp op) (.int a) (.int b) ρ σ Q := .lib h fun A im s v w Qv hA hI hv hw k => by
  obtain ⟨t, rfl⟩ := hv.int_i
  obtain ⟨u, rfl⟩ := hw.int_i
  exact hp _ _ _ _ _ _ _ _ fun t' tk => k _ _ .int
theorem Op2.add {a b : Int} (h : Q (.int (a + b)) ρ σ) : Op2 G (binaryOp .Add) (.int a) (.int b) ρ σ Q := op_int h fun _ _ _ _ _ _ _ _ k => add_int (k _ _)
theorem Op2.sub {a b : Int} (h : Q (.int (a - b)) ρ σ) : Op2 G (binaryOp .Sub) (.int a) (.int b) ρ σ Q := op_int h fun _ _ _ _ _ _ _ _ k => sub_int (k _ _)
theorem Op2.mul {a b : Int} (h : Q (.int (a * b)) ρ σ) (hm : IntMulOk a b := by mul_fits) : Op2 G (binaryOp .Mult) (.int a) (.int b) ρ σ Q := op_int h fun _ _ _ _ _ _ _ _ k => mul_int (k _ _) hm
theorem Op2.fdiv {a b : Int} (hb : 0 < b) (hb2 : b < 1073741824) (h : Q (.int (a / b)) ρ σ) : Op2 G (binaryOp .FloorDiv) (.int a) (.int b) ρ σ Q := op_int h fun _ _ _ _ _ _ _ _ k =>
  floordiv_int (by walk_at "zo") (by rw [Int.fdiv_eq_ediv_of_nonneg _ (by walk_at "zo")]; exact k _ _) (.inl (PyProof.noPylong_small (by walk_at "zo")))
theorem Op2.fmod {a b : Int} (hb : 0 < b) (h : Q (.int (a % b)) ρ σ) : Op2 G (binaryOp .Mod) (.int a) (.int b) ρ σ Q := op_int h fun _ _ _ _ _ _ _ _ k =>
  mod_int (by walk_at "zo") (by rw [Int.fmod_eq_emod_of_nonneg _ (by walk_at "zo")]; exact k _ _)
theorem Op2.pow {a n : Int} (hn : 0 ≤ n) (hsz : (Builtin.Int.intBits a : Int) * n ≤ 2 ^ 27) (h : Q (.int (a ^ n.toNat)) ρ σ) : Op2 G (binaryOp .Pow) (.int a) (.int n) ρ σ Q := op_int h fun _ _ _ _ _ _ _ _ k => pow_int hn hsz (k _ _)
theorem Op2.shr {a n : Int} (hn : 0 ≤ n) (h : Q (.int (a / (2 ^ n.toNat))) ρ σ) : Op2 G (binaryOp .RShift) (.int a) (.int n) ρ σ Q := op_int h fun _ _ _ _ _ _ _ _ k =>
  rshift_int hn (by rw [Int.fdiv_eq_ediv_of_nonneg _ (Int.le_of_lt (Int.pow_pos (by walk_at "zo")))]; exact k _ _)

theorem cmp_int {op : CmpOp} {a b : Int} {c : Bool} (h : Q (.bool c) ρ σ) (hp : ∀ (prog : Program) (w : World) (A : Around) (E : Value → Shared → Prop) (s : Shared) (t u : Tok) (Qv : Value → Shared → Prop), Qv (.bool c) s → wpAny (model prog w) A (compareOp op (.int a t) (.int b u)) Qv E s) :
    Op2 G (compareOp op) (.int a) (.int b) ρ σ Q := .lib h fun A im s v w Qv hA hI hv hw k => by
  obtain ⟨t, rfl⟩ := hv.int_i
  obtain ⟨u, rfl⟩ := hw.int_i
  exact hp _ _ _ _ _ _ _ _ (k _ s.toks .bool)
theorem Op2.lt {a b : Int} (h : Q (.bool (decide (a < b))) ρ σ) : Op2 G (compareOp .Lt) (.int a) (.int b) ρ σ Q := cmp_int h fun _ _ _ _ _ _ _ _ k => lt_int k
theorem Op2.gt {a b : Int} (h : Q (.bool (decide (b < a))) ρ σ) : Op2 G (compareOp .Gt) (.int a) (.int b) ρ σ Q := cmp_int h fun _ _ _ _ _ _ _ _ k => gt_int k
theorem Op2.eq {a b : Int} (h : Q (.bool (a == b)) ρ σ) : Op2 G (compareOp .Eq) (.int a) (.int b) ρ σ Q := cmp_int h fun _ _ _ _ _ _ _ _ k => eq_int k
theorem Op2.ne {a b : Int} (h : Q (.bool (a != b)) ρ σ) : Op2 G (compareOp .NotEq) (.int a) (.int b) ρ σ Q := cmp_int h fun _ _ _ _ _ _ _ _ k => ne_int k
theorem Op1.neg {a : Int} (h : Q (.int (-a)) ρ σ) : Op1 G (unaryOp .USub) (.int a) ρ σ Q := fun A bs im s v hA hS hv => by
  obtain ⟨t, rfl⟩ := hv.int_i
  exact neg_int (.now (hS.toks _) .int h)

theorem S_beq (l m : List Nat) : (S l == S m) = (l == m) := by
  rw [Bool.eq_iff_iff, beq_iff_eq, beq_iff_eq]
  exact ⟨fun e => by injection e with e; simpa using congrArg Array.toList e, fun e => by rw [e]⟩
theorem Op2.eqS {l m : List Nat} (h : Q (.bool (l == m)) ρ σ) : Op2 G (compareOp .Eq) (.str l) (.str m) ρ σ Q := .lib h fun A im s v w Qv hA hI hv hw k => by
  obtain ⟨t, rfl⟩ := hv.str_i
  obtain ⟨u, rfl⟩ := hw.str_i
  exact eq_str (by rw [S_beq]; exact k _ s.toks .bool)
theorem Op2.neS {l m : List Nat} (h : Q (.bool (l != m)) ρ σ) : Op2 G (compareOp .NotEq) (.str l) (.str m) ρ σ Q := .lib h fun A im s v w Qv hA hI hv hw k => by
  obtain ⟨t, rfl⟩ := hv.str_i
  obtain ⟨u, rfl⟩ := hw.str_i
  exact ne_str (by show Qv (.bool (!(S l == S m))) s; rw [S_beq]; exact k _ s.toks .bool)
theorem Op2.addS {l m : List Nat} (hz : l.length + m.length ≤ 16000000) (h : Q (.str (l ++ m)) ρ σ) : Op2 G (binaryOp .Add) (.str l) (.str m) ρ σ Q := .lib h fun A im s v w Qv hA hI hv hw k => by
  obtain ⟨t, rfl⟩ := hv.str_i
  obtain ⟨u, rfl⟩ := hw.str_i
  refine add_str (fun t' tk => ?_) (by rw [S_len, S_len, sizeLine_eq]; walk_at "zo")
  rw [S_app]; exact k _ _ .str
theorem foldl_app (x : List Nat) : ∀ (n : Nat) (acc : Array Nat), (List.replicate n x.toArray).foldl (· ++ ·) acc = acc ++ (List.replicate n x).flatten.toArray
  | 0, acc => by simp
  | n + 1, acc => by rw [List.replicate_succ, List.foldl_cons, foldl_app x n, List.replicate_succ, List.flatten_cons]; simp
theorem txt_mul (l : List Nat) (n : Int) : Txt.mul (S l) n = S (List.replicate n.toNat l).flatten := by
  unfold Txt.mul
  split
  · rename_i h
    rw [show n.toNat = 0 by walk_at "zo"]; rfl
  · rename_i h
    split
    · rename_i h2
      simp only [Bool.or_eq_true, beq_iff_eq] at h2
      rcases h2 with e | e
      · subst e; show S l = S (List.replicate 1 l).flatten; simp
      · rw [S_len] at e
        have : l = [] := List.length_eq_zero_iff.mp e
        subst this
        show S [] = S (List.replicate n.toNat ([] : List Nat)).flatten
        have : ∀ k, (List.replicate k ([] : List Nat)).flatten = [] := fun k => by induction k with | zero => rfl | succ k ih => rw [List.replicate_succ, List.flatten_cons, ih]; rfl
        rw [this]
    · show (⟨(List.replicate n.toNat l.toArray).foldl (· ++ ·) #[]⟩ : Str) = _
      rw [foldl_app]; simp
theorem Op2.mulS {l : List Nat} {n : Int} (L N : Nat) (hl : l.length ≤ L) (hn : n ≤ (N : Int)) (hlo : -(2 ^ 63 : Int) ≤ n) (hN : N ≤ 16777216) (hLN : L * N ≤ 16777216) (h : Q (.str (List.replicate n.toNat l).flatten) ρ σ) : Op2 G (binaryOp .Mult) (.str l) (.int n) ρ σ Q := .lib h fun A im s v w Qv hA hI hv hw k => by
  obtain ⟨t, rfl⟩ := hv.str_i
  obtain ⟨u, rfl⟩ := hw.int_i
  refine SB.mul (mulOk_of L N (by rw [S_len]; exact hl) hn hlo hN hLN) fun t' tk => ?_
  rw [show Txt.mul ⟨l.toArray⟩ n = _ from txt_mul l n]; exact k _ _ .str
theorem Op2.inS {l m : List Nat} (h : Q (.bool (Txt.contains (S m) (S l))) ρ σ) : Op2 G (compareOp .In) (.str l) (.str m) ρ σ Q := .lib h fun A im s v w Qv hA hI hv hw k => by
  obtain ⟨t, rfl⟩ := hv.str_i
  obtain ⟨u, rfl⟩ := hw.str_i
  exact in_str (k _ s.toks .bool)

theorem Op2.isNone {a : PV} {c : Bool} (hc : ∀ im v, VR im a v → (v == .none) = c) (h : Q (.bool c) ρ σ) : Op2 G (compareOp .Is) a .none ρ σ Q := .lib h fun A im s v w Qv hA hI hv hw k => by
  rw [hw.none_i]
  exact is_none_gen (by rw [hc im v hv]; exact k _ s.toks .bool)
theorem Op2.isNotNone {a : PV} {c : Bool} (hc : ∀ im v, VR im a v → (v == .none) = c) (h : Q (.bool (!c)) ρ σ) : Op2 G (compareOp .IsNot) a .none ρ σ Q := .lib h fun A im s v w Qv hA hI hv hw k => by
  rw [hw.none_i]
  exact isnot_none_gen (by rw [hc im v hv]; exact k _ s.toks .bool)
theorem nn_str {l : List Nat} : ∀ im v, VR im (.str l) v → (v == .none) = false := fun im v h => by obtain ⟨t, rfl⟩ := h.str_i; rfl
theorem nn_none : ∀ im v, VR im .none v → (v == .none) = true := fun im v h => by rw [h.none_i]; rfl


theorem CallP.lib {id : String} {ps : List PV} {r : PV} (h : Q r ρ σ)
    (hp : ∀ (A : Around) (bs im : PM) (s : Shared) (vs : List Value) (Qv : Value → Shared → Prop), AOk G.n A → St G bs im s ρ σ → VRs im ps vs → (∀ v' h' tk, (∀ b o, s.heap.get? b = some o → h'.get? b = some o) → VR im r v' → Qv v' { s with heap := h', toks := tk }) → wpAny G.C.M A (call (.builtin id) vs []) Qv Bot s) :
    CallP G (.con (.builtin id)) ps [] ρ σ Q := fun A bs im s fv vs kvs hA hS hf hv hk => by
  rw [hf.con_i]
  have : kvs = [] := by have := hk.1; simpa using this
  subst this
  exact ⟨keeps_builtin, wpAny_up (hp A bs im s vs _ hA hS hv fun v' h' tk hkk hr htk => .now (hS.grow hkk tk) hr h)⟩
theorem one_v {im : PM} {p : PV} {vs : List Value} (h : VRs im [p] vs) : ∃ v, vs = [v] ∧ VR im p v := by
  obtain ⟨v, vs', rfl, hv, h'⟩ := h.cons_inv
  rw [h'.nil_inv]; exact ⟨v, rfl, hv⟩
theorem two_v {im : PM} {p q : PV} {vs : List Value} (h : VRs im [p, q] vs) : ∃ v w, vs = [v, w] ∧ VR im p v ∧ VR im q w := by
  obtain ⟨v, vs', rfl, hv, h'⟩ := h.cons_inv
  obtain ⟨w, rfl, hw⟩ := one_v h'
  exact ⟨v, w, rfl, hv, hw⟩
theorem three_v {im : PM} {p q r : PV} {vs : List Value} (h : VRs im [p, q, r] vs) : ∃ v w x, vs = [v, w, x] ∧ VR im p v ∧ VR im q w ∧ VR im r x := by
  obtain ⟨v, vs', rfl, hv, h'⟩ := h.cons_inv
  obtain ⟨w, x, rfl, hw, hx⟩ := two_v h'
  exact ⟨v, w, x, rfl, hv, hw, hx⟩
theorem CallP.lenS {l : List Nat} (hz : l.length ≤ 16777216) (h : Q (.int l.length) ρ σ) : CallP G (.con (.builtin "len")) [.str l] [] ρ σ Q := .lib h fun A bs im s vs Qv hA hS hv k => by
  obtain ⟨v, rfl, hv1⟩ := one_v hv
  obtain ⟨t, rfl⟩ := hv1.str_i
  refine len_str (by rw [show (⟨l.toArray⟩ : Str).length = _ from S_len l]; walk_at "zo") ?_
  rw [show (⟨l.toArray⟩ : Str).length = _ from S_len l]; exact k _ s.heap _ (fun _ _ e => e) .int
theorem St.atList (hS : St G bs im s ρ σ) {a : Addr} {l : List PV} (hm : (a, LO.list l) ∈ σ) : ∃ vs n, s.heap.get? a = some (lstO vs n) ∧ VRs im l vs := (hS.l.led _ hm).1
theorem isList_of {h : Heap} {a : Addr} {vs : List Value} {n : Nat} (e : h.get? a = some (lstO vs n)) : h.IsList a vs.toArray := ⟨_, e, rfl, n, rfl⟩
theorem CallP.lenM {a : Addr} {l : List PV} (hm : (a, LO.list l) ∈ σ) (hz : l.length ≤ 16777216) (h : Q (.int l.length) ρ σ) : CallP G (.con (.builtin "len")) [.ref a] [] ρ σ Q := .lib h fun A bs im s vs Qv hA hS hv k => by
  obtain ⟨v, rfl, hv1⟩ := one_v hv
  rw [hv1.ref_i]
  obtain ⟨vs, n, ho, hvs⟩ := hS.atList hm
  have e : vs.toArray.size = l.length := by rw [List.size_toArray, hvs.length]
  refine len_list (isList_of ho) (by rw [e]; walk_at "zo") ?_
  rw [e]; exact k _ s.heap _ (fun _ _ e => e) .int
theorem CallP.lenL {l : List PV} (hz : l.length ≤ 16777216) (h : Q (.int l.length) ρ σ) : CallP G (.con (.builtin "len")) [.lst l] [] ρ σ Q := .lib h fun A bs im s vs Qv hA hS hv k => by
  obtain ⟨v, rfl, hv1⟩ := one_v hv
  obtain ⟨a, vs, n, rfl, ho, hvs⟩ := hv1.lst_i
  have e : vs.toArray.size = l.length := by rw [List.size_toArray, hvs.length]
  refine len_list (isList_of (hS.l.him _ _ ho)) (by rw [e]; walk_at "zo") ?_
  rw [e]; exact k _ s.heap _ (fun _ _ e => e) .int
end
end Mine.Tactic
end
section
open PySem PySem.W PyProof.Rows PySem.Calls
set_option Elab.async false
set_option maxRecDepth 100000
namespace Mine.Tactic

noncomputable def clampI (n d : Nat) : Option Int → Nat
  | none => d
  | some i => if i < 0 then (i + n).toNat else min i.toNat n
noncomputable def pySl {α : Type} (l : List α) (lo hi : Option Int) : List α := (l.drop (clampI l.length 0 lo)).take (clampI l.length l.length hi - clampI l.length 0 lo)

theorem clamp_le (n d : Nat) (hd : d ≤ n) (x : Option Int) : clampI n d x ≤ n := by
  unfold clampI
  cases x with
  | none => exact hd
  | some i =>
    dsimp only; split
    · rename_i h; exact Int.toNat_le.mpr (Int.add_le_of_le_sub_right ((Int.sub_self (n : Int)).symm ▸ Int.le_of_lt h))
    · exact Nat.min_le_right _ _
theorem clamp_eq (n d : Nat) (hd : d ≤ n) (x : Option Int) : ((match x with | none => (d : Int) | some i => let i := if i < 0 then i + n else i; max 0 (min i n)) : Int) = (clampI n d x : Nat) := by
  unfold clampI
  cases x with
  | none => rfl
  | some i =>
    dsimp only; split
    · rename_i h
      rw [Int.min_eq_left (Int.add_le_of_le_sub_right ((Int.sub_self (n : Int)).symm ▸ Int.le_of_lt h)), Int.toNat_eq_max, Int.max_comm]
    · rename_i h
      obtain ⟨k, rfl⟩ := Int.eq_ofNat_of_zero_le (Int.not_lt.mp h)
      rw [Int.max_eq_right (Int.le_min.mpr ⟨Int.natCast_nonneg _, Int.natCast_nonneg _⟩)]
      show min (k : Int) n = (min k n : Nat)
      rcases Nat.le_total k n with h | h
      · rw [Nat.min_eq_left h]; exact Int.min_eq_left (Int.ofNat_le.mpr h)
      · rw [Nat.min_eq_right h]; exact Int.min_eq_right (Int.ofNat_le.mpr h)
theorem range_pick0 {α : Type} (l : List α) (a : Nat) : ∀ n, a + n ≤ l.length → ((List.range n).map (a + ·)).filterMap (l[·]?) = (l.drop a).take n
  | 0, _ => by simp
  | n + 1, h => by
    rw [List.range_succ, List.map_append, List.filterMap_append, range_pick0 l a n (by walk_at "zo"), List.take_add_one, List.getElem?_drop]
    rw [show ([n].map (a + ·)).filterMap (l[·]?) = l[a + n]?.toList from ?_]
    show [a + n].filterMap (l[·]?) = _
    rw [List.getElem?_eq_getElem (show a + n < l.length by walk_at "zo")]
    simp only [List.filterMap_cons, List.filterMap_nil, List.getElem?_eq_getElem (show a + n < l.length by walk_at "zo")]
    rfl
theorem range_pick {α : Type} (l : List α) (a b : Nat) (hb : b ≤ l.length) : ((List.range (b - a)).map (a + ·)).filterMap (l[·]?) = (l.drop a).take (b - a) := by
  by_cases h : a ≤ b
  · exact range_pick0 l a _ (by walk_at "zo")
  · rw [show b - a = 0 by walk_at "zo"]; simp
theorem sliceRange_nat (a b : Nat) : sliceRange (a : Int) (b : Int) 1 = (List.range (b - a)).map (a + ·) := by
  unfold sliceRange
  rw [if_pos (by decide)]
  have e : ((if (a : Int) < b then ((b : Int) - a + 1 - 1) / 1 else 0) : Int).toNat = b - a := by
    split
    · rw [Int.ediv_one]; walk_at "zo"
    · walk_at "zo"
  show (List.range ((if (a : Int) < b then ((b : Int) - a + 1 - 1) / 1 else 0) : Int).toNat).map _ = _
  rw [e]
  refine List.map_congr_left fun k _ => ?_
  walk_at "zo"
theorem slicePick_eq (vs : List Value) (lo hi : Option Int) : slicePick vs.toArray lo hi none = (pySl vs lo hi).toArray := by
  unfold slicePick pySl
  have e1 : (sliceBounds lo hi none vs.toArray.size).1 = (clampI vs.length 0 lo : Nat) := by
    unfold sliceBounds
    simp only [Option.getD_none, List.size_toArray, show (1 : Int) > 0 by decide, if_true]
    have := clamp_eq vs.length 0 (Nat.zero_le _) lo
    cases lo <;> exact this
  have e2 : (sliceBounds lo hi none vs.toArray.size).2.1 = (clampI vs.length vs.length hi : Nat) := by
    unfold sliceBounds
    simp only [Option.getD_none, List.size_toArray, show (1 : Int) > 0 by decide, if_true]
    have := clamp_eq vs.length vs.length (Nat.le_refl _) hi
    cases hi <;> exact this
  have e3 : (sliceBounds lo hi none vs.toArray.size).2.2 = 1 := rfl
  rw [e1, e2, e3, sliceRange_nat]
  have := range_pick vs (clampI vs.length 0 lo) (clampI vs.length vs.length hi) (clamp_le _ _ (Nat.le_refl _) _)
  rw [← this]
  simp
theorem sliceText_eq (l : List Nat) (lo hi : Option Int) : Txt.slice (S l) lo hi = S (pySl l lo hi) := by
  have e0 : (Builtin.Str.strSliceIndices lo hi 1 l.length) = (List.range (clampI l.length l.length hi - clampI l.length 0 lo)).map (clampI l.length 0 lo + ·) := by
    rw [← sliceRange_nat]
    unfold Builtin.Str.strSliceIndices
    simp only [show (1 : Int) > 0 by decide, if_true]
    have h1 := clamp_eq l.length 0 (Nat.zero_le _) lo
    have h2 := clamp_eq l.length l.length (Nat.le_refl _) hi
    rw [← h1, ← h2]
    cases lo <;> cases hi <;> rfl
  have hp := range_pick l (clampI l.length 0 lo) (clampI l.length l.length hi) (clamp_le _ _ (Nat.le_refl _) _)
  unfold Txt.slice
  rw [S_len, e0]
  split
  · rename_i h
    simp only [beq_self_eq_true, Bool.true_and, beq_iff_eq, List.length_map, List.length_range] at h
    have := clamp_le l.length l.length (Nat.le_refl _) hi
    have h0 : clampI l.length 0 lo = 0 ∨ l.length = 0 := by walk_at "zo"
    unfold pySl
    rcases h0 with h0 | h0
    · rw [h, h0]; simp
    · have : l = [] := List.length_eq_zero_iff.mp h0
      subst this; simp
  · unfold pySl
    rw [← hp]
    show (⟨(((List.range _).map _).filterMap fun x => l.toArray[x]?).toArray⟩ : Str) = _
    simp

section
variable {G : Gx} {ρ : Rho} {σ : Led} {Q : PV → Rho → Led → Prop}

theorem tail_own {prog : Program} {w : World} {A : Around} {E : Value → Shared → Prop} {s : Shared} {value slice : Expr} {o i : Value} {T id : String} {ops : List Value} {Q : Value → Shared → Prop} (hT : s.TypeIs o T)
    (hl : typeLookup (.type T) "__getitem__" = pure (some (.builtin id))) (h : wpAny (model prog w) A (getItem o i) Q E s)
    (hs : subscripted slice false o i = operate ops (getItem o i)) : wpAny (model prog w) A (subscriptTail value slice o i) Q E s := by
  unfold subscriptTail
  refine wpAny_bind ?_
  rw [getitemInPython_of_ne hT.not_modules]
  refine wpAny_bind (wpAny_specialOf hT hl ?_)
  have fin : wpAny (model prog w) A (subscripted slice false o i) (fun r s₃ => wpAny (model prog w) A (letTemporaryGo value o r >>= fun _ => pure r) Q E s₃) E s := by
    rw [hs]
    exact wpAny_operating (wpAny_mono h (fun r s₃ h₃ => wpAny_bind (wpAny_letTemporaryGo (wpAny_pure h₃))) fun _ _ x => x)
  first
    | exact wpAny_pure (wpAny_bind fin)
    | exact wpAny_bind (wpAny_pure (wpAny_bind fin))
    | exact wpAny_bind fin

theorem Ev.sub {value slice : Expr} {pos : Pos} (h : Ev G value ρ σ (KBin G slice (subscriptTail value slice) Q)) : Ev G (.Subscript value slice pos) ρ σ Q :=
  fun _ _ _ _ hA hS => Subscript_ (Ev.then2 h hA hS)
noncomputable abbrev SubOk (slice : Expr) : Prop := ∀ o i, subscripted slice false o i = operate [o, i] (getItem o i)
noncomputable def pyIx (i : Int) (n : Nat) : Nat := if i < 0 then (i + n).toNat else i.toNat
theorem seqIx {i : Int} {n : Nat} (h1 : -(n : Int) ≤ i) (h2 : i < n) : seqIndex? i n = some (pyIx i n) := by
  unfold seqIndex? pyIx
  split
  · rw [if_pos (by simp only [Bool.and_eq_true, decide_eq_true_eq]; walk_at "zo")]
  · rw [if_pos (by simp only [Bool.and_eq_true, decide_eq_true_eq]; walk_at "zo")]
theorem Op2.itemS {value slice : Expr} {l : List Nat} {i : Int} {c : Nat} (h1 : -(l.length : Int) ≤ i) (h2 : i < l.length) (hz : l.length ≤ 16777216) (hc : l[pyIx i l.length]? = some c) (h : Q (.str [c]) ρ σ)
    (hs : SubOk slice := by intro _ _; rfl) : Op2 G (subscriptTail value slice) (.str l) (.int i) ρ σ Q := .lib h fun A im s v w Qv hA hI hv hw k => by
  obtain ⟨t, rfl⟩ := hv.str_i
  obtain ⟨u, rfl⟩ := hw.int_i
  refine tail_own (typeIs_str _ _ _) F.slot_str_getitem.lookup (getItem_str (c := c) ?_ ?_ (k _ _ .str)) (hs _ _)
  · simp only [Bool.or_eq_false_iff, decide_eq_false_iff_not]; walk_at "zo"
  · rw [show (⟨l.toArray⟩ : Str).length = _ from S_len l, seqIx h1 h2]
    show l.toArray[pyIx i l.length]? = _
    simpa using hc
theorem getItem_own {prog : Program} {w : World} {A : Around} {E : Value → Shared → Prop} {s : Shared} {a : Addr} {vs : List Value} {n : Nat} {i : Int} {t : Tok} {x : Value} {Q : Value → Shared → Prop} (ho : s.heap.get? a = some (lstO vs n))
    (h1 : -(vs.length : Int) ≤ i) (h2 : i < vs.length) (hz : vs.length ≤ 16777216) (hx : vs[pyIx i vs.length]? = some x) (h : Q x s) : wpAny (model prog w) A (getItem (.ref a) (.int i t)) Q E s := by
  unfold pyIx at hx
  split at hx
  · exact wpAny_getItem_list_neg (isList_of ho) (by walk_at "zo") (by simpa using h1) (by walk_at "zo") (by simpa using hx) h
  · exact wpAny_getItem_list (isList_of ho) (by walk_at "zo") (by walk_at "zo") (by simpa using hx) h
theorem item_run {value slice : Expr} {A : Around} {bs im : PM} {s : Shared} {a : Addr} {vs : List Value} {n : Nat} {l : List PV} {i : Int} {u : Tok} {p : PV} (hS : St G bs im s ρ σ) (ho : s.heap.get? a = some (lstO vs n)) (hvs : VRs im l vs) (h1 : -(l.length : Int) ≤ i) (h2 : i < l.length) (hz : l.length ≤ 16777216)
    (hp : l[pyIx i l.length]? = some p) (h : Q p ρ σ) (hs : SubOk slice) : wpAny G.C.M A (subscriptTail value slice (.ref a) (.int i u)) (Post G VR bs im Q) Bot s := by
  obtain ⟨x, hx, hr⟩ := hvs.get hp
  have e := hvs.length
  exact tail_own (isList_of ho).typeIs list_getitem_lookup (getItem_own ho (by rw [e]; exact h1) (by rw [e]; exact h2) (by rw [e]; exact hz) (by rw [e]; exact hx) (.now hS hr h)) (hs _ _)
theorem Op2.itemM {value slice : Expr} {a : Addr} {l : List PV} {i : Int} {p : PV} (hm : (a, LO.list l) ∈ σ) (h1 : -(l.length : Int) ≤ i) (h2 : i < l.length) (hz : l.length ≤ 16777216) (hp : l[pyIx i l.length]? = some p) (h : Q p ρ σ)
    (hs : SubOk slice := by intro _ _; rfl) : Op2 G (subscriptTail value slice) (.ref a) (.int i) ρ σ Q := fun A bs im s v w hA hS hv hw => by
  rw [hv.ref_i]
  obtain ⟨u, rfl⟩ := hw.int_i
  obtain ⟨vs, n, ho, hvs⟩ := hS.atList hm
  exact item_run hS ho hvs h1 h2 hz hp h hs
theorem Op2.itemL {value slice : Expr} {l : List PV} {i : Int} {p : PV} (h1 : -(l.length : Int) ≤ i) (h2 : i < l.length) (hz : l.length ≤ 16777216) (hp : l[pyIx i l.length]? = some p) (h : Q p ρ σ)
    (hs : SubOk slice := by intro _ _; rfl) : Op2 G (subscriptTail value slice) (.lst l) (.int i) ρ σ Q := fun A bs im s v w hA hS hv hw => by
  obtain ⟨a, vs, n, rfl, ho, hvs⟩ := hv.lst_i
  obtain ⟨u, rfl⟩ := hw.int_i
  exact item_run hS (hS.l.him _ _ ho) hvs h1 h2 hz hp h hs

theorem typeIs_push {s : Shared} {v : Value} {T : String} {o : Obj} (h : s.TypeIs v T) : Shared.TypeIs { s with heap := s.heap.push o } v T := by
  cases v with
  | ref a => obtain ⟨p, h1, h2⟩ := h; exact ⟨p, Heap.get?_push_of_some _ h1, h2⟩
  | _ => exact h
noncomputable def OptEv (G : Gx) : Option Expr → Rho → Led → (Option Int → Rho → Led → Prop) → Prop
  | none, ρ, σ, Q => Q none ρ σ
  | some e, ρ, σ, Q => Ev G e ρ σ fun p ρ₁ σ₁ => ∃ i, p = .int i ∧ Q (some i) ρ₁ σ₁
noncomputable def relPart (_ : PM) (x : Option Int) (v : Value) : Prop := IsPart v x
theorem optEv_run {G : Gx} {e : Option Expr} {ρ : Rho} {σ : Led} {Q : Option Int → Rho → Led → Prop} (h : OptEv G e ρ σ Q) : Tr G relPart (valueOrNone (evalOpt e G.env)) ρ σ Q := fun A bs im s hA hS => by
  cases e with
  | none => exact wpAny_pure (.now hS IsPart.none h)
  | some e =>
    show wpAny _ _ (eval e G.env) _ _ _
    refine wpAny_mono (h A bs im s hA hS) (fun v s₁ hqx => ?_) fun _ _ x => x
    obtain ⟨im₁, p, ρ₁, σ₁, e₁, hr, hS₁, i, hi, hq⟩ := hqx
    subst hi
    obtain ⟨t, rfl⟩ := hr.int_i
    exact ⟨im₁, some i, ρ₁, σ₁, e₁, .int i t, hS₁, hq⟩
noncomputable abbrev sliO (vl vu : Value) : Obj := { cls := .type "slice", data := .fields #[vl, vu, .none] }
noncomputable def SliceP (G : Gx) (a : PV) (x y : Option Int) (ρ : Rho) (σ : Led) (Q : PV → Rho → Led → Prop) : Prop :=
  ∀ A bs im s v vl vu, AOk G.n A → St G bs im s ρ σ → VR im a v → IsPart vl x → IsPart vu y → ∃ T id, s.TypeIs v T ∧ (typeLookup (.type T) "__getitem__" = pure (some (.builtin id))) ∧
    wpAny G.C.M A (getItem v (.ref s.heap.objs.size)) (Post G VR bs im Q) Bot { s with heap := s.heap.push (sliO vl vu) }
noncomputable abbrev KSl3 (G : Gx) (a : PV) (x : Option Int) (Q : PV → Rho → Led → Prop) : Option Int → Rho → Led → Prop := fun y ρ₃ σ₃ => SliceP G a x y ρ₃ σ₃ Q
noncomputable abbrev KSl2 (G : Gx) (hi : Option Expr) (a : PV) (Q : PV → Rho → Led → Prop) : Option Int → Rho → Led → Prop := fun x ρ₂ σ₂ => OptEv G hi ρ₂ σ₂ (KSl3 G a x Q)
noncomputable abbrev KSl1 (G : Gx) (lo hi : Option Expr) (Q : PV → Rho → Led → Prop) : PV → Rho → Led → Prop := fun a ρ₁ σ₁ => OptEv G lo ρ₁ σ₁ (KSl2 G hi a Q)
theorem Ev.slice {value : Expr} {lo hi : Option Expr} {p0 pos : Pos} (h : Ev G value ρ σ (KSl1 G lo hi Q)) :
    Ev G (.Subscript value (.Slice lo hi Option.none p0) pos) ρ σ Q := fun A bs im s hA hS => by
  refine Subscript_ (wpAny_mono (h A bs im s hA hS) (fun v s₁ hqx => ?_) fun _ _ x => x)
  obtain ⟨im₁, a, ρ₁, σ₁, e₁, hr, hS₁, h1⟩ := hqx
  show wpAny _ _ (do
    let l ← valueOrNone (evalOpt lo G.env)
    let u ← holding [l] (valueOrNone (evalOpt hi G.env))
    let s ← holding [l, u] (valueOrNone (evalOpt Option.none G.env))
    newFields "slice" [l, u, s]) _ _ _
  refine wpAny_bind (wpAny_mono (optEv_run h1 A bs im₁ s₁ hA hS₁) (fun vl s₂ hqx => ?_) fun _ _ x => x)
  obtain ⟨im₂, x, ρ₂, σ₂, e₂, hx, hS₂, h2⟩ := hqx
  refine wpAny_bind (wpAny_holding (wpAny_mono (optEv_run h2 A bs im₂ s₂ hA hS₂) (fun vu s₃ hqx => ?_) fun _ _ x => x))
  obtain ⟨im₃, y, ρ₃, σ₃, e₃, hy, hS₃, h3⟩ := hqx
  refine wpAny_bind (wpAny_holding (wpAny_pure ?_))
  show wpAny _ _ (newObj (.type "slice") (.fields #[vl, vu, .none])) _ _ _
  refine wpAny_newObj_type ?_
  obtain ⟨T, id, hT, hl, hg⟩ := h3 A bs im₃ s₃ v vl vu hA hS₃ ((hr.mono e₂.1).mono e₃.1) hx hy
  refine tail_own (T := T) (id := id) ?_ hl (wpAny_mono hg (fun _ _ q => q.ext (e₁.trans (e₂.trans e₃))) fun _ _ x => x) rfl
  exact typeIs_push hT
theorem SliceP.str {l : List Nat} {x y : Option Int} (hz : l.length ≤ 16777216) (h : Q (.str (pySl l x y)) ρ σ) : SliceP G (.str l) x y ρ σ Q := fun A bs im s v vl vu hA hS hv hx hy => by
  obtain ⟨t, rfl⟩ := hv.str_i
  refine ⟨"str", _, typeIs_str _ _ _, F.slot_str_getitem.lookup, ?_⟩
  have hk : KeptH fun h' => ∀ b o, s.heap.get? b = some o → h'.get? b = some o := fun h' ob k b o e => Heap.get?_push_of_some _ (k b o e)
  have fin : ∀ h' t' k, (∀ b o, s.heap.get? b = some o → h'.get? b = some o) → (fun (a : Value) (s' : Shared) => s.toks ≤ s'.toks → Post G VR bs im Q a s') (.str (Txt.slice (S l) x y) t') { s with heap := h', toks := k } := fun h' t' k kk htk => by
    rw [sliceText_eq]; exact .now (hS.grow kk k) .str h
  have hz' : (S l).length ≤ sizeLine := by rw [S_len, sizeLine_eq]; exact hz
  cases hx with
  | none => cases hy with
    | none => obtain ⟨_, _, _, _, hg⟩ := SBH.sliceItem_nn (prog := G.C.prog) (w := G.C.w) (A := A) (E := Bot) (s := s) (t := t) (Q := fun a s' => s.toks ≤ s'.toks → Post G VR bs im Q a s') hk (fun _ _ e => e) fin hz'; exact wpAny_up hg
    | int j u => obtain ⟨_, _, _, _, hg⟩ := SBH.sliceItem_ns (prog := G.C.prog) (w := G.C.w) (A := A) (E := Bot) (s := s) (t := t) (Q := fun a s' => s.toks ≤ s'.toks → Post G VR bs im Q a s') (uj := u) hk (fun _ _ e => e) fin hz'; exact wpAny_up hg
  | int i u => cases hy with
    | none => obtain ⟨_, _, _, _, hg⟩ := SBH.sliceItem_sn (prog := G.C.prog) (w := G.C.w) (A := A) (E := Bot) (s := s) (t := t) (Q := fun a s' => s.toks ≤ s'.toks → Post G VR bs im Q a s') (ui := u) hk (fun _ _ e => e) fin hz'; exact wpAny_up hg
    | int j u' => obtain ⟨_, _, _, _, hg⟩ := SBH.sliceItem_ss (prog := G.C.prog) (w := G.C.w) (A := A) (E := Bot) (s := s) (t := t) (Q := fun a s' => s.toks ≤ s'.toks → Post G VR bs im Q a s') (ui := u) (uj := u') hk (fun _ _ e => e) fin hz'; exact wpAny_up hg
theorem VRs.pySl {im : PM} {ps : List PV} {vs : List Value} (h : VRs im ps vs) (x y : Option Int) : VRs im (pySl ps x y) (pySl vs x y) := by
  unfold Mine.Tactic.pySl
  rw [h.length]
  exact (h.drop _).take _
theorem slice_run {A : Around} {bs im : PM} {s : Shared} {a : Addr} {vs : List Value} {n : Nat} {l : List PV} {x y : Option Int} {vl vu : Value} (hS : St G bs im s ρ σ) (ho : s.heap.get? a = some (lstO vs n)) (hvs : VRs im l vs) (hz : l.length ≤ 16000000) (hx : IsPart vl x) (hy : IsPart vu y)
    (h : Q (.lst (pySl l x y)) ρ σ) : wpAny G.C.M A (getItem (.ref a) (.ref s.heap.objs.size)) (Post G VR bs im Q) Bot { s with heap := s.heap.push (sliO vl vu) } := by
  refine wpAny_getItem_list_slice (isList_of (Heap.get?_push_of_some _ ho)) (Heap.IsSliceOf.new ..) hx hy .none (by simp) ?_ (by rw [List.size_toArray, hvs.length, sizeLine_eq]; walk_at "zo")
  have hS₁ : St G bs im { s with heap := s.heap.push (sliO vl vu) } ρ σ := hS.grow (fun b o e => Heap.get?_push_of_some _ e) s.toks
  obtain ⟨e, hS₂⟩ := hS₁.pushIm (lstO (pySl vs x y) 0) rfl s.toks
  rw [slicePick_eq]
  exact ⟨_, _, ρ, σ, e, .lst (PM.put_self ..) ((hvs.pySl x y).mono e.1), hS₂, h⟩
theorem SliceP.lst {l : List PV} {x y : Option Int} (hz : l.length ≤ 16000000) (h : Q (.lst (pySl l x y)) ρ σ) : SliceP G (.lst l) x y ρ σ Q := fun A bs im s v vl vu hA hS hv hx hy => by
  obtain ⟨a, vs, n, rfl, ho, hvs⟩ := hv.lst_i
  exact ⟨"list", _, (isList_of (hS.l.him _ _ ho)).typeIs, list_getitem_lookup, slice_run hS (hS.l.him _ _ ho) hvs hz hx hy h⟩
theorem SliceP.led {a : Addr} {l : List PV} {x y : Option Int} (hm : (a, LO.list l) ∈ σ) (hz : l.length ≤ 16000000) (h : Q (.lst (Mine.Tactic.pySl l x y)) ρ σ) : SliceP G (.ref a) x y ρ σ Q := fun A bs im s v vl vu hA hS hv hx hy => by
  rw [hv.ref_i]
  obtain ⟨vs, n, ho, hvs⟩ := hS.atList hm
  exact ⟨"list", _, (isList_of ho).typeIs, list_getitem_lookup, slice_run hS ho hvs hz hx hy h⟩
end
end Mine.Tactic
end
section
open PySem PySem.W PyProof.Rows PySem.Calls
set_option Elab.async false
set_option maxRecDepth 100000
namespace Mine.Tactic

section
variable {G : Gx} {ρ : Rho} {σ : Led} {Q : PV → Rho → Led → Prop}

theorem upd_list {A : Around} {bs im : PM} {s : Shared} {σ' : Led} {a : Addr} {vs : List Value} {n : Nat} {l : List PV} {f : Array Value → Array Value} {vs' : List Value} {l' : List PV} (hS : St G bs im s ρ σ) (u : Upd a (.list l) (.list l') σ σ') (ho : s.heap.get? a = some (lstO vs n))
    (hf : f vs.toArray = vs'.toArray) (hr : VRs im l' vs') (t : Nat) (ht : s.toks ≤ t := by first | exact Nat.le_refl _ | exact Nat.le_succ _ | assumption | walk_at "zo") : St G bs im { s with heap := s.heap.update a (Obj.mapSeq f), toks := t } ρ σ' := by
  refine hS.upd u t (Heap.SameBut.update ..) ?_ ht
  have := IsL.update (items := vs.toArray) (n := n) ho f
  rw [hf] at this
  exact ⟨vs', _, this, hr⟩
noncomputable def SetP (G : Gx) (a b p : PV) (ρ : Rho) (σ : Led) (Q : Rho → Led → Prop) : Prop :=
  ∀ A bs im s v w x, AOk G.n A → St G bs im s ρ σ → VR im a v → VR im b w → VR im p x → wpAny G.C.M A (setItem v w x) (Post G relU bs im (fun _ ρ' σ' => Q ρ' σ')) Bot s
noncomputable abbrev KSet3 (G : Gx) (a p : PV) (Q : Fl → Rho → Led → Prop) : PV → Rho → Led → Prop := fun b ρ₃ σ₃ => SetP G a b p ρ₃ σ₃ (Q .next)
noncomputable abbrev KSet2 (G : Gx) (i : Expr) (p : PV) (Q : Fl → Rho → Led → Prop) : PV → Rho → Led → Prop := fun a ρ₂ σ₂ => Ev G i ρ₂ σ₂ (KSet3 G a p Q)
noncomputable abbrev KSet1 (G : Gx) (o i : Expr) (Q : Fl → Rho → Led → Prop) : PV → Rho → Led → Prop := fun p ρ₁ σ₁ => Ev G o ρ₁ σ₁ (KSet2 G i p Q)
theorem Ex1.setItem {o i value : Expr} {p' pos : Pos} {Q : Fl → Rho → Led → Prop} (h : Ev G value ρ σ (KSet1 G o i Q))
    (hs : swapsWith value (some (.Subscript o i p')) pos.line G.env = pure false := by rfl) : Ex1 G (.Assign [.Subscript o i p'] value pos) ρ σ Q := fun A bs im s hA hS => by
  refine wpAny_Assign_Subscript (wpAny_mono (h A bs im s hA hS) (fun x s₁ hqx => ?_) fun _ _ x => x) hs
  obtain ⟨im₁, p, ρ₁, σ₁, e₁, hr, hS₁, h1⟩ := hqx
  refine wpAny_mono (h1 A bs im₁ s₁ hA hS₁) (fun v s₂ hqx => ?_) fun _ _ x => x
  obtain ⟨im₂, a, ρ₂, σ₂, e₂, ha, hS₂, h2⟩ := hqx
  refine wpAny_mono (h2 A bs im₂ s₂ hA hS₂) (fun w s₃ hqx => ?_) fun _ _ x => x
  obtain ⟨im₃, b, ρ₃, σ₃, e₃, hb, hS₃, h3⟩ := hqx
  refine wpAny_mono (h3 A bs im₃ s₃ v w x hA hS₃ (ha.mono e₃.1) hb ((hr.mono e₂.1).mono e₃.1)) (fun _ s₄ hqx => ?_) fun _ _ x => x
  obtain ⟨im₄, _, ρ₄, σ₄, e₄, _, hS₄, hq⟩ := hqx
  exact ⟨im₄, Fl.next, ρ₄, σ₄, e₁.trans (e₂.trans (e₃.trans e₄)), rfl, hS₄, hq⟩
theorem setItem_run {prog : Program} {w : World} {A : Around} {E : Value → Shared → Prop} {s : Shared} {l : Addr} {vs : List Value} {n : Nat} {k : Nat} {i : Int} {t : Tok} {v : Value} {Q : Unit → Shared → Prop} (ho : s.heap.get? l = some (lstO vs n))
    (hi : i = (k : Int)) (hk : k < vs.length) (hz : vs.length ≤ 16777216) (h : Q () { s with heap := s.heap.update l (Obj.mapSeq (·.setIfInBounds k v)) }) : wpAny (model prog w) A (setItem (.ref l) (.int i t) v) Q E s := by
  have hl := isList_of ho
  have hfit : Builtin.List.listFitsIndex i = true := fitsIndex_of (by walk_at "zo") (by walk_at "zo")
  clear hz
  unfold setItem
  try with_reducible refine wpAny_holding ?_
  first | refine wpAny_bind (wpAny_pure ?_) | skip
  refine wpAny_bind (wpAny_sequenceKey hl.typeIs (by decide) ?_)
  refine wpAny_bind (wpAny_callSpecial?_slot (name := Str.ofString "__setitem__") hl.typeIs slot_list_setitem
    (wpAny_call_entry slot_list_setitem hl.typeIs entry_list_setitem ?_ (args_list_setitem _ _ _)))
  show wpAny _ _ (Builtin.List.listSubscript? (.int i t) >>= _) _ _ s
  refine wpAny_bind (wpAny_listSubscript_int hfit ?_)
  clear hfit
  subst hi
  have hx' : vs.toArray[k]? = some vs[k] := by simp [hk]
  show wpAny _ _ ((seqItemAt l k >>= fun r => pure (r.map (k, ·))) >>= _) _ _ s
  refine wpAny_bind (wpAny_bind (wpAny_seqItemAt ho rfl (wpAny_pure ?_)))
  rw [hx']
  show wpAny _ _ (setSeqItemAt l k v >>= _) _ _ s
  refine wpAny_bind (wpAny_setSeqItemAt ho rfl ?_)
  first
    | exact wpAny_bind (wpAny_pure (wpAny_pure ⟨.none, rfl, wpAny_pure h⟩))
    | exact wpAny_pure ⟨.none, rfl, wpAny_pure h⟩
theorem SetP.led {a : Addr} {l : List PV} {k : Nat} {p : PV} {σ' : Led} {Q : Rho → Led → Prop} (u : Upd a (.list l) (.list (l.set k p)) σ σ') (hk : k < l.length) (hz : l.length ≤ 16777216) (h : Q ρ σ') : SetP G (.ref a) (.int k) p ρ σ Q := fun A bs im s v w x hA hS ha hb hp => by
  rw [ha.ref_i]
  obtain ⟨t, rfl⟩ := hb.int_i
  obtain ⟨vs, n, ho, hvs⟩ := hS.atList u.mem
  have e := hvs.length
  exact setItem_run ho rfl (by rw [e]; exact hk) (by rw [e]; exact hz) (.now (r := ()) (upd_list (A := A) hS u ho (by simp) (hvs.set hp) s.toks) trivial h)
theorem CallP.self {id : String} {ps : List PV} (hp : ∀ (A : Around) (bs im : PM) (s : Shared) (vs : List Value), AOk G.n A → St G bs im s ρ σ → VRs im ps vs → wpAny G.C.M A (call (.builtin id) vs []) (Post G VR bs im Q) Bot s) :
    CallP G (.con (.builtin id)) ps [] ρ σ Q := fun A bs im s fv vs kvs hA hS hf hv hk => by
  rw [hf.con_i]
  have : kvs = [] := by have := hk.1; simpa using this
  subst this
  exact ⟨keeps_builtin, hp A bs im s vs hA hS hv⟩
theorem append_run {A : Around} {bs im : PM} {s : Shared} {σ' : Led} {a : Addr} {l : List PV} {p : PV} {x : Value} (hS : St G bs im s ρ σ) (u : Upd a (.list l) (.list (l ++ [p])) σ σ') (hx : VR im p x) (hz : l.length ≤ 16000000) (h : Q .none ρ σ') :
    wpAny G.C.M A (call (.builtin "list.append") [.ref a, x] []) (Post G VR bs im Q) Bot s := by
  obtain ⟨vs, n, ho, hvs⟩ := hS.atList u.mem
  refine call_meets F.slot_list_append ⟨_, ho, rfl⟩ F.entry_list_append (F.args_list_append_2 _ _) (list_append a vs.toArray n x (by rw [List.size_toArray, hvs.length, sizeLine_eq]; walk_at "zo")) ⟨ho, ?_⟩
  exact .now (upd_list (A := A) hS u ho (vs' := vs ++ [x]) (by simp) (hvs.append (.cons hx .nil)) s.toks) .none h
theorem CallP.append {a : Addr} {l : List PV} {p : PV} {σ' : Led} (u : Upd a (.list l) (.list (l ++ [p])) σ σ') (hz : l.length ≤ 16000000) (h : Q .none ρ σ') : CallP G (.con (.builtin "list.append")) [.ref a, p] [] ρ σ Q := .self fun A bs im s vs hA hS hv => by
  obtain ⟨v, x, rfl, ha, hx⟩ := two_v hv
  rw [ha.ref_i]
  exact append_run hS u hx hz h
theorem checkBound_append {M : Model} {A : Around} {E : Value → Shared → Prop} {s : Shared} {a : Addr} {vs : List Value} {n : Nat} {x : Value} {Q : Unit → Shared → Prop} (ho : s.heap.get? a = some (lstO vs n)) (h : Q () s) : wpAny M A (checkBoundCall "list.append" ⟨[.ref a, x], []⟩) Q E s := by
  have f1 : isSubtype (.type "list") (.type "module") = pure false := by rw [isSubtype_type]; kernel_rfl
  have hT : s.TypeIs (.ref a) "list" := ⟨_, ho, rfl⟩
  unfold checkBoundCall
  repeat (any_goals (first | assumption | with_reducible refine wpAny_loadPart' ho ?_ | wp_step))
theorem CallP.appendB {a : Addr} {l : List PV} {p : PV} {σ' : Led} (u : Upd a (.list l) (.list (l ++ [p])) σ σ') (hz : l.length ≤ 16000000) (h : Q .none ρ σ') : CallP G (.bm "list.append" a) [p] [] ρ σ Q := fun A bs im s fv vs kvs hA hS hf hv hk => by
  obtain ⟨b, rfl, hb⟩ := hf.bm_i
  have : kvs = [] := by have := hk.1; simpa using this
  subst this
  obtain ⟨x, rfl, hx⟩ := one_v hv
  have hb' := hS.l.him _ _ hb
  refine ⟨keeps_rec hb' rfl rfl, wpAny_call (codeAny_of_tree ?_)⟩
  obtain ⟨vs, n, ho, hvs⟩ := hS.atList u.mem
  show wpAny _ _ (callAny (.ref b) _) _ _ _
  unfold callAny
  refine wpAny_bind (wpAny_load hb' ?_)
  have fin : wpAny G.C.M (A.under (.call (.ref b) ⟨[x], []⟩)) (checkBoundCall "list.append" ⟨[.ref a, x], []⟩ >>= fun _ => again (.builtin "list.append" ⟨[.ref a, x], []⟩)) (fun fin s' => match fin with | .done f => (match (Except.ok f : Result) with | .ok (.ret v) => Post G VR bs im Q v s' | .ok _ => False | .error e => Bot e s') | .again c' => c'.quiet = true ∧ codeAny G.C.M A c' (fun r s' => match r with | .ok (.ret v) => Post G VR bs im Q v s' | .ok _ => False | .error e => Bot e s') s') (fun e s' => Bot e s') s := by
    refine wpAny_bind (checkBound_append ho (wpAny_pure ⟨plainId_quiet F.slot_list_append.plain _, ?_⟩))
    refine codeAny_builtin F.entry_list_append ?_
    rw [Around.under_plainId F.slot_list_append.plain _]
    exact list_append a vs.toArray n x (by rw [List.size_toArray, hvs.length, sizeLine_eq]; walk_at "zo") G.C.prog G.C.w A (wants (Post G VR bs im Q) Bot) s ⟨ho, Post.now (rel := VR) (Q := Q) (upd_list (A := A) hS u ho (vs' := vs ++ [x]) (by simp) (hvs.append (.cons hx .nil)) s.toks) VR.none h⟩
  exact fin
theorem popLast {α : Type} (vs : List α) : vs.toArray.eraseIdxIfInBounds (vs.length - 1) = vs.dropLast.toArray := by
  unfold Array.eraseIdxIfInBounds
  split
  · rename_i h
    have h' : vs.length - 1 < vs.length := by simpa using h
    simp only [List.eraseIdx_toArray]
    rw [List.eraseIdx_length_sub_one]
  · rename_i h
    have : vs.length = 0 := by simp at h; walk_at "zo"
    have : vs = [] := List.length_eq_zero_iff.mp this
    subst this; rfl
theorem VRs.dropLast {im : PM} {ps : List PV} {vs : List Value} (h : VRs im ps vs) : VRs im ps.dropLast vs.dropLast := by
  rw [List.dropLast_eq_take, List.dropLast_eq_take, h.length]; exact h.take _
theorem CallP.pop {a : Addr} {l : List PV} {p : PV} {σ' : Led} (hp : l[l.length - 1]? = some p) (u : Upd a (.list l) (.list l.dropLast) σ σ') (hz : l.length ≤ 16000000) (h : Q p ρ σ') : CallP G (.con (.builtin "list.pop")) [.ref a] [] ρ σ Q := .self fun A bs im s vs hA hS hv => by
  obtain ⟨v, rfl, ha⟩ := one_v hv
  rw [ha.ref_i]
  obtain ⟨vs, n, ho, hvs⟩ := hS.atList u.mem
  obtain ⟨x, hx, hr⟩ := hvs.get hp
  refine call_meets F.slot_list_pop ⟨_, ho, rfl⟩ F.entry_list_pop (F.args_list_pop_1 _) (MeetsSeq.list_pop_last a vs.toArray n x (by rw [List.size_toArray, hvs.length]; simpa using hx) (by rw [List.size_toArray, hvs.length, sizeLine_eq]; walk_at "zo")) ⟨ho, ?_⟩
  exact .now (upd_list (A := A) hS u ho (vs' := vs.dropLast) (by rw [List.size_toArray]; exact popLast vs) hvs.dropLast s.toks) hr h

theorem MethP.str {l : List Nat} {name : Str} {id : String} (slot : Slot "str" name id) (ty : typeOf (.builtin id) = pure (.type "method_descriptor")) : MethP G (.str l) name (.con (.builtin id)) [.str l] ρ σ := fun A bs im s v pl Qv hA hS hv k => by
  obtain ⟨t, rfl⟩ := hv.str_i
  exact GM.of _ (typeIs_str _ _ _) slot ty GM.noRef (k _ _ s.toks .con (.cons .str .nil))
theorem MethP.led {a : Addr} {l : List PV} {name : Str} {id : String} (hm : (a, LO.list l) ∈ σ) (slot : Slot "list" name id) (ty : typeOf (.builtin id) = pure (.type "method_descriptor")) : MethP G (.ref a) name (.con (.builtin id)) [.ref a] ρ σ := fun A bs im s v pl Qv hA hS hv k => by
  rw [hv.ref_i]
  obtain ⟨vs, n, ho, hvs⟩ := hS.atList hm
  exact getMethod_builtin (isList_of ho).typeIs F.plainAttrs_list slot ty (fun b e => by cases e; exact ⟨_, ho, rfl⟩) (k _ _ s.toks .con (.cons .ref .nil))

theorem CallP.range1 {n : Int} (h : Q (.rng 0 n 1) ρ σ) : CallP G (.con (.type "range")) [.int n] [] ρ σ Q := fun A bs im s fv vs kvs hA hS hf hv hk => by
  rw [hf.con_i]
  have : kvs = [] := by have := hk.1; simpa using this
  subst this
  obtain ⟨v, rfl, hv1⟩ := one_v hv
  obtain ⟨t, rfl⟩ := hv1.int_i
  refine ⟨keeps_type, call_range_1 ?_⟩
  obtain ⟨e, hS'⟩ := hS.pushIm { cls := .type "range", data := .fields #[.int 0 s.toks, .int n t, .int 1 (s.toks + 1)] } rfl (s.toks + 1 + 1)
  exact ⟨_, _, ρ, σ, e, .rng (PM.put_self ..), hS', h⟩
theorem CallP.range2 {a n : Int} (h : Q (.rng a n 1) ρ σ) : CallP G (.con (.type "range")) [.int a, .int n] [] ρ σ Q := fun A bs im s fv vs kvs hA hS hf hv hk => by
  rw [hf.con_i]
  have : kvs = [] := by have := hk.1; simpa using this
  subst this
  obtain ⟨v, w, rfl, hv1, hw1⟩ := two_v hv
  obtain ⟨t, rfl⟩ := hv1.int_i
  obtain ⟨u, rfl⟩ := hw1.int_i
  refine ⟨keeps_type, call_range_2 ?_⟩
  obtain ⟨e, hS'⟩ := hS.pushIm { cls := .type "range", data := .fields #[.int a t, .int n u, .int 1 s.toks] } rfl (s.toks + 1)
  exact ⟨_, _, ρ, σ, e, .rng (PM.put_self ..), hS', h⟩
end
end Mine.Tactic
end
section
open PySem PySem.W PyProof.Rows PySem.Calls
set_option Elab.async false
set_option maxRecDepth 100000
namespace Mine.Tactic
theorem md_get : typeLookup (.type "method_descriptor") "__get__" = pure (some (.builtin "method_descriptor.__get__")) := by rw [typeLookup_type, builtinLookup_eq_fast]; kernel_rfl
theorem md_set : typeLookup (.type "method_descriptor") "__set__" = pure none := by rw [typeLookup_type, builtinLookup_eq_fast]; kernel_rfl
theorem md_del : typeLookup (.type "method_descriptor") "__delete__" = pure none := by rw [typeLookup_type, builtinLookup_eq_fast]; kernel_rfl
theorem slot_md_get : Slot "method_descriptor" "__get__" "method_descriptor.__get__" :=
  .of (owner := "method_descriptor") (n := "__get__") (by rw [typeLookup_type, builtinLookup_eq_fast]; kernel_rfl) (by decide +kernel) (by decide +kernel) (by decide +kernel)
    (by first | exact .inl (by decide +kernel) | exact .inr (by decide +kernel)) (by rw [isSubtype_type]; kernel_rfl)
theorem entry_md_get : entryFor table "method_descriptor.__get__" = some Builtin.«method_descriptor.__get__» := entryFor_of_tree (by kernel_rfl)
theorem args_md_get (a b c : Value) : argsOk "method_descriptor.__get__" ⟨[a, b, c], []⟩ := by unfold argsOk; kernel_rfl
set_option maxHeartbeats 2000000 in
theorem ga_append (a : Addr) (vs : List Value) (n : Nat) (u : Tok) :
    Meets (Builtin.«object.__getattribute__» ⟨[.ref a, .str (Str.ofString "append") u], []⟩) (fun A R s => s.heap.get? a = some (lstO vs n) ∧ ∀ tk, R (.ok (.ret (.ref s.heap.objs.size))) { s with heap := s.heap.push (bmO "list.append" a), toks := tk }) :=
  Meets.of_wp fun prog w A R s hs => by
    obtain ⟨hp, g, d, tk, os⟩ := s
    obtain ⟨hx, hs⟩ := hs
    have hT : (⟨hp, g, d, tk, os⟩ : Shared).TypeIs (.ref a) "list" := ⟨_, hx, rfl⟩
    have f1 := F.slot_list_append.lookup
    have f2 := F.type_list_append
    have f3 := md_get
    have f4 := md_set
    have f5 := md_del
    unfold Builtin.«object.__getattribute__»
    repeat (any_goals (first | assumption | with_reducible refine wpAny_loadPart' hx ?_ | wp_step))
    refine codeAny_call_builtin slot_md_get.plain entry_md_get (slot_md_get.check _ _ _ _ _ _ _ _ F.type_list_append (args_md_get _ _ _) ?_)
    have g0 : ".".intercalate ("list.append".cutAt '.').dropLast = "list" := by decide +kernel
    have g1 : isSubtype (Value.type "list") (Value.type (".".intercalate ("list.append".cutAt '.').dropLast)) = pure true := by rw [g0]; exact F.sub_list_list
    unfold Builtin.«method_descriptor.__get__»
    repeat (any_goals (first | assumption | with_reducible refine wpAny_loadPart' hx ?_ | wp_step))
    exact ⟨_, rfl, hs _⟩
theorem getattr_append {prog : Program} {w : World} {A : Around} {E : Value → Shared → Prop} {s : Shared} {a : Addr} {vs : List Value} {n : Nat} {ex : Bool} {Q : Value → Shared → Prop} (ho : s.heap.get? a = some (lstO vs n))
   (h : ∀ tk, Q (.ref s.heap.objs.size) { s with heap := s.heap.push (bmO "list.append" a), toks := tk }) : wpAny (model prog w) A (getAttr (.ref a) (Str.ofString "append") ex) Q E s := by
  obtain ⟨hp, g, d, tk, os⟩ := s
  have hT : ∀ tk', (⟨hp, g, d, tk', os⟩ : Shared).TypeIs (.ref a) "list" := fun _ => ⟨_, ho, rfl⟩
  have f3 := F.slot_list_getattribute.lookup
  have f4 := F.slot_list_getattribute.bind (.ref a)
  have f5 := am_list_getattr_none
  unfold getAttr getAttrBy
  repeat (any_goals (first | assumption | exact hT _ | with_reducible refine wpAny_loadPart' ho ?_ | ((with_reducible show wpAny _ _ (call (Value.builtin "list.__getattribute__") _ _) _ _ _); refine call_meets F.slot_list_getattribute (hT _) am_entry_list_getattribute (F.args_list_getattribute_2 _ _) (ga_append a vs n _) ⟨ho, fun tk => ?_⟩) | wp_step))
  have e0 : ¬ (ex && onTheHeap (Value.builtin "list.__getattribute__")) = true := by cases ex <;> decide
  rw [if_neg e0]
  unfold boundAndCalled
  repeat (any_goals (first | assumption | exact hT _ | with_reducible refine wpAny_loadPart' ho ?_ | ((with_reducible show wpAny _ _ (call (Value.builtin "list.__getattribute__") _ _) _ _ _); refine call_meets F.slot_list_getattribute (hT _) am_entry_list_getattribute (F.args_list_getattribute_2 _ _) (ga_append a vs n _) ⟨ho, fun tk => ?_⟩) | wp_step))
  show wpAny _ _ (handedOut (.ref _)) _ _ _
  exact handed_on rfl (h _)
end Mine.Tactic
end
section
open PySem PySem.W PyProof.Rows PySem.Calls
set_option Elab.async false
set_option maxRecDepth 100000
namespace Mine.Tactic

section
variable {G : Gx} {ρ : Rho} {σ : Led} {Q : PV → Rho → Led → Prop} {bs im : PM} {s : Shared}

theorem Ev.attr {value : Expr} {name : Str} {pos : Pos} (h : Ev G value ρ σ (KOp1 G (fun v => getAttr v name true) Q))
    (he : eval (.Attribute value name pos) G.env = (do
      let o ← eval value G.env
      standAt pos.atName
      let r ← holding [o] (getAttr o name true)
      letTemporaryGo value o r
      pure r) := by rfl) : Ev G (.Attribute value name pos) ρ σ Q :=
  fun _ _ _ _ hA hS => Attribute_any_ (Tr.then h hA hS) he
theorem Op1.boundAppend {a : Addr} {l : List PV} (hm : (a, LO.list l) ∈ σ) (h : Q (.bm "list.append" a) ρ σ) : Op1 G (fun v => getAttr v (Str.ofString "append") true) (.ref a) ρ σ Q := fun A bs im s v hA hS hv => by
  rw [hv.ref_i]
  obtain ⟨vs, n, ho, hvs⟩ := hS.atList hm
  refine wpAny_up (getattr_append ho fun tk htk => ?_)
  dsimp only at htk
  obtain ⟨e, hS'⟩ := hS.pushIm (bmO "list.append" a) rfl tk
  exact ⟨_, _, ρ, σ, e, .bm (PM.put_self ..), hS', h⟩

theorem TrueOf.led {a : Addr} {l : List PV} {Q : Bool → Rho → Led → Prop} (hm : (a, LO.list l) ∈ σ) (hz : l.length ≤ 16777216) (h : Q (!l.isEmpty) ρ σ) : TrueOf G (.ref a) ρ σ Q := fun A bs im s v hA hS hv => by
  rw [hv.ref_i]
  obtain ⟨vs, n, ho, hvs⟩ := hS.atList hm
  have e := hvs.length
  refine wpAny_truthy_list (isList_of ho) (by rw [List.size_toArray, e]; walk_at "zo") ?_
  refine .now (r := !l.isEmpty) (hS.toks _) ?_ h
  show _ = _
  cases l with
  | nil => rw [hvs.nil_inv]; rfl
  | cons p l => obtain ⟨v, vs', rfl, _⟩ := hvs.cons_inv; rfl
theorem ne_empty_run {A : Around} {bs im : PM} {s : Shared} {a b : Addr} {vs : List Value} {n m : Nat} {l : List PV} (hA : AOk G.n A) (hS : St G bs im s ρ σ) (ho : s.heap.get? a = some (lstO vs n)) (hb : s.heap.get? b = some (lstO [] m)) (hvs : VRs im l vs) (h : Q (.bool (!l.isEmpty)) ρ σ) :
    wpAny G.C.M A (compareOp .NotEq (.ref a) (.ref b)) (Post G VR bs im Q) Bot s := by
  have hu : A.units < cLine := by have := hA.2.2; show A.units < 9900; walk_at "zo"
  cases l with
  | nil =>
    have e := hvs.nil_inv
    subst e
    exact SeqAt.RcNeAt.lists (e := fun _ => true) (isList_of ho) (isList_of hb) rfl hu (fun j h1 h2 => absurd h1 (by simp)) G.C.prog G.C.w _ _ (.now hS .bool h)
  | cons p l =>
    obtain ⟨v, vs', e, _⟩ := hvs.cons_inv
    subst e
    exact SeqAt.RcNeAt.lists_lengths (isList_of ho) (isList_of hb) (by simp) hu G.C.prog G.C.w _ _ (.now hS .bool h)
theorem Op2.neEmpty {a : Addr} {l : List PV} (hm : (a, LO.list l) ∈ σ) (h : Q (.bool (!l.isEmpty)) ρ σ) : Op2 G (compareOp .NotEq) (.ref a) (.lst []) ρ σ Q := fun A bs im s v w hA hS hv hw => by
  rw [hv.ref_i]
  obtain ⟨b, ws, m, rfl, hb, hws⟩ := hw.lst_i
  have e := hws.nil_inv
  subst e
  obtain ⟨vs, n, ho, hvs⟩ := hS.atList hm
  exact ne_empty_run hA hS ho (hS.l.him _ _ hb) hvs h
theorem Op2.isNotSame {a : Addr} (h : Q (.bool false) ρ σ) : Op2 G (compareOp .IsNot) (.ref a) (.ref a) ρ σ Q := fun A bs im s v w hA hS hv hw => by
  rw [hv.ref_i, hw.ref_i]
  exact isnot_ref_same (.now hS .bool h)
theorem isSame_refs {M : Model} {A : Around} {E : Value → Shared → Prop} {s : Shared} {a : Addr} {Q : Bool → Shared → Prop} (h : Q true s) : wpAny M A (isSame (.ref a) (.ref a)) Q E s := by
  unfold isSame
  simp only [beq_self_eq_true, if_true]
  exact wpAny_pure h
theorem Op2.isSameR {a : Addr} (h : Q (.bool true) ρ σ) : Op2 G (compareOp .Is) (.ref a) (.ref a) ρ σ Q := fun A bs im s v w hA hS hv hw => by
  rw [hv.ref_i, hw.ref_i]
  show wpAny _ _ (isSame (.ref a) (.ref a) >>= fun b => pure (Value.bool b)) _ _ _
  exact wpAny_bind (isSame_refs (wpAny_pure (.now hS .bool h)))
theorem Op2.isNotStrRef {l : List Nat} {a : Addr} (h : Q (.bool true) ρ σ) : Op2 G (compareOp .IsNot) (.str l) (.ref a) ρ σ Q := fun A bs im s v w hA hS hv hw => by
  obtain ⟨t, rfl⟩ := hv.str_i
  rw [hw.ref_i]
  show wpAny _ _ (isSame (.str ⟨l.toArray⟩ t) (.ref a) >>= fun b => pure (Value.bool (!b))) _ _ _
  exact wpAny_bind (wpAny_pure (wpAny_pure (.now hS .bool h)))
theorem Op2.isType {x y : String} (h : Q (.bool (Value.type x == Value.type y)) ρ σ) : Op2 G (compareOp .Is) (.con (.type x)) (.con (.type y)) ρ σ Q := fun A bs im s v w hA hS hv hw => by
  rw [hv.con_i, hw.con_i]
  show wpAny _ _ (isSame (.type x) (.type y) >>= fun b => pure (Value.bool b)) _ _ _
  exact wpAny_bind (wpAny_pure (wpAny_pure (.now hS .bool h)))
theorem Op2.isNotType {x y : String} (h : Q (.bool (!(Value.type x == Value.type y))) ρ σ) : Op2 G (compareOp .IsNot) (.con (.type x)) (.con (.type y)) ρ σ Q := fun A bs im s v w hA hS hv hw => by
  rw [hv.con_i, hw.con_i]
  exact isnot_type (.now hS .bool h)

theorem typeIs_led (hS : St G bs im s ρ σ) {a : Addr} {l : List PV} (hm : (a, LO.list l) ∈ σ) : s.TypeIs (.ref a) "list" := by
  obtain ⟨vs, n, ho, _⟩ := hS.atList hm
  exact ⟨_, ho, rfl⟩
theorem CallP.typeOf {p : PV} {T : String} (hT : ∀ bs im s v, St G bs im s ρ σ → VR im p v → s.TypeIs v T) (hn : (Value.type T == Value.type "builtin_function_or_method") = false) (h : Q (.con (.type T)) ρ σ) : CallP G (.con (.type "type")) [p] [] ρ σ Q := fun A bs im s fv vs kvs hA hS hf hv hk => by
  rw [hf.con_i]
  have : kvs = [] := by have := hk.1; simpa using this
  subst this
  obtain ⟨v, rfl, hv1⟩ := one_v hv
  exact ⟨keeps_type, call_type_of (hT _ _ _ _ hS hv1) hn (.now hS .con h)⟩
theorem CallP.typeStr {l : List Nat} (h : Q (.con (.type "str")) ρ σ) : CallP G (.con (.type "type")) [.str l] [] ρ σ Q :=
  .typeOf (fun _ _ _ _ _ hv => by obtain ⟨t, rfl⟩ := hv.str_i; exact typeIs_str _ _ _) (by decide) h
theorem CallP.typeLed {a : Addr} {l : List PV} (hm : (a, LO.list l) ∈ σ) (h : Q (.con (.type "list")) ρ σ) : CallP G (.con (.type "type")) [.ref a] [] ρ σ Q :=
  .typeOf (fun _ _ _ _ hS hv => by rw [hv.ref_i]; exact typeIs_led hS hm) (by decide) h
theorem CallP.isStr {l : List Nat} (h : Q (.bool true) ρ σ) : CallP G (.con (.builtin "isinstance")) [.str l, .con (.type "str")] [] ρ σ Q := .self fun A bs im s vs hA hS hv => by
  obtain ⟨v, w, rfl, hv1, hw1⟩ := two_v hv
  obtain ⟨t, rfl⟩ := hv1.str_i
  rw [hw1.con_i]
  exact call_isinstance_yes (typeIs_str _ _ _) rfl isSubtype_str_str (.now hS .bool h)
end
end Mine.Tactic
end
section
open PySem PySem.W PyProof.Rows PySem.Calls
set_option Elab.async false
set_option maxRecDepth 100000
namespace Mine.Tactic

section
variable {G : Gx} {ρ : Rho} {σ : Led} {Q : PV → Rho → Led → Prop}

theorem CallP.lower {l m : List Nat} (e : Txt.lower (S l) = S m) (hz : l.length ≤ 5000000) (h : Q (.str m) ρ σ) : CallP G (.con (.builtin "str.lower")) [.str l] [] ρ σ Q := .self fun A bs im s vs hA hS hv => by
  obtain ⟨v, rfl, hv1⟩ := one_v hv
  obtain ⟨t, rfl⟩ := hv1.str_i
  exact wpAny_up (KXw.lower e (fit_lower (by rw [S_len]; walk_at "zo")) fun t' k htk => .now (hS.toks k) .str h)

noncomputable def pyJoin (sep : List Nat) : List (List Nat) → List Nat
  | [] => []
  | x :: r => r.foldl (fun acc p => acc ++ sep ++ p) x
theorem glue_eq (sep : List Nat) : ∀ (r : List (List Nat)) (x : List Nat), (r.map S).foldl (fun (acc : Array Nat) (p : Str) => acc ++ (S sep).cps ++ p.cps) x.toArray = (r.foldl (fun acc p => acc ++ sep ++ p) x).toArray
  | [], x => rfl
  | p :: r, x => by
    rw [List.map_cons, List.foldl_cons, List.foldl_cons, ← glue_eq sep r]
    congr 1
    show x.toArray ++ sep.toArray ++ p.toArray = _
    simp
theorem txt_join (sep : List Nat) (ls : List (List Nat)) : Txt.join (S sep) (ls.map S) = S (pyJoin sep ls) := by
  unfold Txt.join Builtin.Str.glued
  cases ls with
  | nil => rfl
  | cons x r =>
    show (⟨((x :: r).map S |>.drop 1).foldl _ _⟩ : Str) = _
    rw [List.map_cons]
    show (⟨(r.map S).foldl _ x.toArray⟩ : Str) = _
    rw [glue_eq]; rfl
theorem strsAre_of {im : PM} : ∀ (ls : List (List Nat)) (vs : List Value), VRs im (ls.map PV.str) vs → StrsAre vs (ls.map S)
  | [], vs, h => by rw [h.nil_inv]; exact .nil
  | m :: ms, vs, h => by
    obtain ⟨v, vs', rfl, h1, h2⟩ := VRs.cons_inv h
    obtain ⟨t, rfl⟩ := h1.str_i
    exact .cons _ _ (strsAre_of ms vs' h2)
theorem join_ok {sep : List Nat} {ls : List (List Nat)} (hz : (ls.map List.length).sum + ls.length * sep.length ≤ 16777216) : ((ls.map S).map (·.length)).sum + (ls.map S).length * (S sep).length ≤ 16777216 := by
  rw [List.map_map, List.length_map, S_len]
  have : (ls.map ((fun x : Str => x.length) ∘ S)) = ls.map List.length := List.map_congr_left fun x _ => S_len x
  rw [this]; exact hz
theorem CallP.joinL {sep : List Nat} {ls : List (List Nat)} {ps : List PV} (hp : ps = ls.map .str) (hz : (ls.map List.length).sum + ls.length * sep.length ≤ 16777216) (h : Q (.str (pyJoin sep ls)) ρ σ) : CallP G (.con (.builtin "str.join")) [.str sep, .lst ps] [] ρ σ Q := .self fun A bs im s vs hA hS hv => by
  subst hp
  obtain ⟨v, w, rfl, hv1, hw1⟩ := two_v hv
  obtain ⟨t, rfl⟩ := hv1.str_i
  obtain ⟨a, ws, n, rfl, ho, hws⟩ := hw1.lst_i
  refine wpAny_up (join_list (isList_of (hS.l.him _ _ ho)) (strsAre_of ls _ hws) (join_ok hz) fun t' k htk => ?_)
  dsimp only at htk
  rw [show (⟨sep.toArray⟩ : Str) = S sep from rfl, txt_join]
  exact .now (hS.toks k) .str h
theorem CallP.joinM {sep : List Nat} {ls : List (List Nat)} {ps : List PV} {a : Addr} (hm : (a, LO.list ps) ∈ σ) (hp : ps = ls.map .str) (hz : (ls.map List.length).sum + ls.length * sep.length ≤ 16777216) (h : Q (.str (pyJoin sep ls)) ρ σ) : CallP G (.con (.builtin "str.join")) [.str sep, .ref a] [] ρ σ Q := .self fun A bs im s vs hA hS hv => by
  subst hp
  obtain ⟨v, w, rfl, hv1, hw1⟩ := two_v hv
  obtain ⟨t, rfl⟩ := hv1.str_i
  rw [hw1.ref_i]
  obtain ⟨ws, n, ho, hws⟩ := hS.atList hm
  refine wpAny_up (join_list (isList_of ho) (strsAre_of ls _ hws) (join_ok hz) fun t' k htk => ?_)
  dsimp only at htk
  rw [show (⟨sep.toArray⟩ : Str) = S sep from rfl, txt_join]
  exact .now (hS.toks k) .str h
theorem CallP.addL {a b : List PV} (hz : a.length + b.length ≤ 16000000) (h : Q (.lst (a ++ b)) ρ σ) : Op2 G (binaryOp .Add) (.lst a) (.lst b) ρ σ Q := fun A bs im s v w hA hS hv hw => by
  obtain ⟨x, vs, n, rfl, ho, hvs⟩ := hv.lst_i
  obtain ⟨y, ws, m, rfl, hb, hws⟩ := hw.lst_i
  refine P.add_list (hS.l.him _ _ ho) (hS.l.him _ _ hb) ?_ (by rw [List.size_toArray, List.size_toArray, hvs.length, hws.length, sizeLine_eq]; walk_at "zo")
  obtain ⟨e, hS'⟩ := hS.pushIm (lstO (vs ++ ws) 0) rfl s.toks
  rw [show vs.toArray ++ ws.toArray = (vs ++ ws).toArray by simp]
  exact ⟨_, _, ρ, σ, e, .lst (PM.put_self ..) ((hvs.append hws).mono e.1), hS', h⟩

noncomputable def JP (G : Gx) (out : List Nat) (es : List Expr) (ρ : Rho) (σ : Led) (Q : List Nat → Rho → Led → Prop) : Prop :=
  Tr G (fun _ (l : List Nat) (v : Value) => ∃ t, v = .str ⟨l.toArray⟩ t) (joinParts (S out) (evalEach es G.env)) ρ σ Q
theorem JP.nil {out : List Nat} {Q : List Nat → Rho → Led → Prop} (hz : out.length ≤ 16777216) (h : Q out ρ σ) : JP G out [] ρ σ Q := fun A bs im s hA hS =>
  joinParts_nil (.now (r := out) (hS.toks _) ⟨_, rfl⟩ h) (by rw [S_len, sizeLine_eq]; exact hz)
noncomputable abbrev KJp (G : Gx) (out : List Nat) (es : List Expr) (Q : List Nat → Rho → Led → Prop) : PV → Rho → Led → Prop := fun p ρ₁ σ₁ => ∃ l, p = .str l ∧ out.length + l.length ≤ 16777216 ∧ JP G (out ++ l) es ρ₁ σ₁ Q
noncomputable abbrev KStr (Q : PV → Rho → Led → Prop) : List Nat → Rho → Led → Prop := fun l ρ₁ σ₁ => Q (.str l) ρ₁ σ₁
noncomputable abbrev KFv (Q : PV → Rho → Led → Prop) : PV → Rho → Led → Prop := fun p ρ₁ σ₁ => ∃ l, p = .str l ∧ l.length ≤ 16777216 ∧ Q (.str l) ρ₁ σ₁
theorem JP.cons {out : List Nat} {e : Expr} {es : List Expr} {Q : List Nat → Rho → Led → Prop} (h : Ev G e ρ σ (KJp G out es Q)) : JP G out (e :: es) ρ σ Q := fun A bs im s hA hS => by
  refine joinParts_cons (wpAny_mono (h A bs im s hA hS) (fun v s₁ hqx => ?_) fun _ _ x => x)
  obtain ⟨im₁, p, ρ₁, σ₁, e₁, hr, hS₁, l, hp, hz, hJ⟩ := hqx
  subst hp
  obtain ⟨t, rfl⟩ := hr.str_i
  dsimp only
  rw [show (S out ++ (⟨l.toArray⟩ : Str)) = S (out ++ l) from S_app out l]
  exact ⟨by rw [S_len, List.length_append, sizeLine_eq]; exact hz, wpAny_mono (hJ A bs im₁ s₁ hA hS₁) (fun _ _ q => q.ext e₁) fun _ _ x => x⟩
theorem Ev.fstr {v₁ v₂ : Expr} {rest : List Expr} {pos : Pos} (h : JP G [] (v₁ :: v₂ :: rest) ρ σ (KStr Q)) : Ev G (.JoinedStr (v₁ :: v₂ :: rest) pos) ρ σ Q := fun A bs im s hA hS => by
  refine JoinedStr_many (wpAny_mono (h A bs im s hA hS) (fun v s₁ hqx => ?_) fun _ _ x => x)
  obtain ⟨im₁, l, ρ₁, σ₁, e₁, ⟨t, ht⟩, hS₁, hq⟩ := hqx
  subst ht
  exact ⟨im₁, _, ρ₁, σ₁, e₁, .str, hS₁, hq⟩
theorem Ev.fval {value : Expr} {pos : Pos} (h : Ev G value ρ σ (KFv Q)) : Ev G (.FormattedValue value (-1) Option.none pos) ρ σ Q := fun A bs im s hA hS => by
  refine FormattedValue_plain (wpAny_mono (h A bs im s hA hS) (fun v s₁ hqx => ?_) fun _ _ x => x)
  obtain ⟨im₁, p, ρ₁, σ₁, e₁, hr, hS₁, l, hp, hz, hq⟩ := hqx
  subst hp
  obtain ⟨t, rfl⟩ := hr.str_i
  exact wpAny_up <| formatField_str (fun t' tk htk => ⟨im₁, _, ρ₁, σ₁, e₁, .str, hS₁.toks tk, hq⟩) (by rw [show (⟨l.toArray⟩ : Str).length = _ from S_len l, sizeLine_eq]; exact hz)
end
end Mine.Tactic
end
section
open PySem PySem.W PyProof.Rows PySem.Calls
set_option Elab.async false
set_option maxRecDepth 100000
namespace Mine.Tactic

noncomputable def isStarE : Expr → Bool
  | .Starred .. => true
  | _ => false
noncomputable def swapOk2 (x y : Str) (px py : Pos) (vs : List Expr) : Bool :=
  py.line == px.line && [x, y].eraseDups.length == 2 && vs.length == 2 && !(vs.any isStarE) && !(vs.all (foldedForSure 8)) && !(vs.all (constantsAlone 8))
theorem swapped2 {env : Env} {x y : Str} {px py tpos p' : Pos} {k k' : Nat} {vs : List Expr} (hk : env.scope.kind = .function) (kx : env.kindOf x = some .local) (ky : env.kindOf y = some .local) (ok : swapOk2 x y px py vs = true) :
    swappedStores [.Tuple [.Name x px, .Name y py] k tpos] (.Tuple vs k' p') env = pure (some [x, y]) := by
  unfold swapOk2 at ok
  simp only [Bool.and_eq_true, beq_iff_eq, Bool.not_eq_true'] at ok
  obtain ⟨⟨⟨⟨⟨h1, h2⟩, h3⟩, h4⟩, h5⟩, h6⟩ := ok
  have hb : env.blockKind = .function := by unfold Env.blockKind; rw [hk]; rfl
  have hst : ∀ f : Expr → Bool, (∀ e, f e = isStarE e) → vs.any f = false := fun f hf => by rw [show f = isStarE from funext hf]; exact h4
  have hn : ∀ f : Expr → Option Str, f (.Name x px) = some x → f (.Name y py) = some y → [Expr.Name x px, Expr.Name y py].filterMap f = [x, y] := fun f h1 h2 => by
    rw [List.filterMap_cons, h1]; dsimp only; rw [List.filterMap_cons, h2]; rfl
  unfold swappedStores
  dsimp only
  rw [h3, hb]
  simp only [List.length_cons, List.length_nil]
  rw [if_neg (by decide)]
  rw [hst _ (fun e => by cases e <;> rfl), if_neg (by decide)]
  have e0 : ([Expr.Name x px, Expr.Name y py].head?.map (·.pos.line)).getD 0 = px.line := rfl
  rw [hn _ (by dsimp only; rw [e0, kx]; simp) (by dsimp only; rw [e0, ky, h1]; simp), h2, h5, h6]
  rfl

section
variable {G : Gx} {ρ : Rho} {σ : Led}
noncomputable def AsL (G : Gx) : List Expr → List PV → Rho → Led → (Rho → Led → Prop) → Prop
  | [], [], ρ, σ, Q => Q ρ σ
  | t :: ts, p :: ps, ρ, σ, Q => As G t p ρ σ fun ρ' σ' => AsL G ts ps ρ' σ' Q
  | _, _, _, _, _ => False
theorem asL_run {G : Gx} : ∀ (ts : List Expr) (ps : List PV) {ρ : Rho} {σ : Led} {Q : Rho → Led → Prop} {A : Around} {bs im : PM} {s : Shared} {vs : List Value}, AsL G ts ps ρ σ Q → AOk G.n A → St G bs im s ρ σ → VRs im ps vs → ts.all (fun t => !isStarE t) = true →
    wpAny G.C.M A (assignInOrder ((assignEach ts G.env).map (·.2)) vs) (Post G relU bs im (fun _ ρ' σ' => Q ρ' σ')) Bot s
  | [], [], ρ, σ, Q, A, bs, im, s, vs, h, hA, hS, hv, _ => by rw [hv.nil_inv]; exact assignInOrder_nil (.now (r := ()) hS trivial h)
  | [], _ :: _, _, _, _, _, _, _, _, _, h, _, _, _, _ => h.elim
  | _ :: _, [], _, _, _, _, _, _, _, _, h, _, _, _, _ => h.elim
  | t :: ts, p :: ps, ρ, σ, Q, A, bs, im, s, vs, h, hA, hS, hv, hst => by
    obtain ⟨v, vs', rfl, h1, h2⟩ := hv.cons_inv
    rw [List.all_cons, Bool.and_eq_true] at hst
    have e : (assignEach (t :: ts) G.env).map (·.2) = (fun v => assign t G.env v) :: (assignEach ts G.env).map (·.2) := by
      cases t <;> first | rfl | exact Bool.noConfusion (show false = true from hst.1)
    rw [e]
    refine assignInOrder_cons (wpAny_mono (h A bs im s v hA hS h1) (fun _ s₁ hqx => ?_) fun _ _ x => x)
    obtain ⟨im₁, _, ρ₁, σ₁, e₁, _, hS₁, hq⟩ := hqx
    exact wpAny_mono (asL_run ts ps hq hA hS₁ (h2.mono e₁.1) hst.2) (fun _ _ q => q.ext e₁) fun _ _ x => x
theorem assignEach_len : ∀ (ts : List Expr) (env : Env), (assignEach ts env).length = ts.length
  | [], _ => rfl
  | t :: ts, env => by
    have : (assignEach (t :: ts) env).length = (assignEach ts env).length + 1 := by cases t <;> rfl
    rw [this, assignEach_len ts env]; rfl
theorem assignEach_star : ∀ (ts : List Expr) (env : Env), ts.all (fun t => !isStarE t) = true → (assignEach ts env).findIdx? (·.1) = none
  | [], _, _ => rfl
  | t :: ts, env, h => by
    rw [List.all_cons, Bool.and_eq_true] at h
    have e : ∃ f, assignEach (t :: ts) env = (false, f) :: assignEach ts env := by
      cases t <;> first | exact ⟨_, rfl⟩ | exact Bool.noConfusion (show false = true from h.1)
    obtain ⟨f, e⟩ := e
    rw [e, List.findIdx?_cons]
    simp [assignEach_star ts env h.2]
theorem unpack_any {prog : Program} {w : World} {A : Around} {E : Value → Shared → Prop} {s : Shared} {a : Addr} {vs : List Value} {n : Nat} {ts : List Expr} {env : Env} {k : Nat} {pos : Pos} {Q : Unit → Shared → Prop} (hh : A.handled = none) (ho : s.heap.get? a = some (lstO vs n) ∨ s.heap.get? a = some (tupO vs n))
    (hl : ts.length = vs.length) (hst : ts.all (fun t => !isStarE t) = true)
    (h : ∀ h', (∀ b o, s.heap.get? b = some o → h'.get? b = some o) → wpAny (model prog w) A (assignInOrder ((assignEach ts env).map (·.2)) vs) Q E { s with heap := h' }) : wpAny (model prog w) A (assign (.Tuple ts k pos) env (.ref a)) Q E s := by
  have hlen : (assignEach ts env).length = vs.toArray.size := by rw [assignEach_len, hl]; simp
  have kk : ∀ h', Heap.ExtBut s.heap.objs.size s.heap h' → ∀ b o, s.heap.get? b = some o → h'.get? b = some o := fun h' he b o e => he b o (Nat.ne_of_lt (Heap.lt_size e)) e
  show wpAny _ _ (do standAt pos; unpack (.ref a) (assignEach ts env)) _ _ _
  refine wpAny_bind (wpAny_standAt ?_)
  unfold unpack
  rw [hlen, assignEach_star ts env hst]
  rcases ho with ho | ho
  · refine wpAny_bind (wpAny_holding (kun_itemsOf hh (isList_of ho) fun h' he => ?_))
    have := h h' (kk h' he); simpa using this
  · refine wpAny_bind (wpAny_holding (unpackItems_tuple hh ⟨_, ho, rfl, n, rfl⟩ fun h' he => ?_))
    have := h h' (kk h' he); simpa using this
theorem As.tup {ts : List Expr} {ps : List PV} {k : Nat} {pos : Pos} {Q : Rho → Led → Prop} (h : AsL G ts ps ρ σ Q) (hl : ts.length = ps.length) (hst : ts.all (fun t => !isStarE t) = true) : As G (.Tuple ts k pos) (.tup ps) ρ σ Q := fun A bs im s v hA hS hv => by
  obtain ⟨a, vs, n, rfl, ho, hvs⟩ := hv.tup_i
  refine unpack_any hA.1 (.inr (hS.l.him _ _ ho)) (by rw [hl, hvs.length]) hst fun h' hk => ?_
  exact asL_run ts ps h hA (hS.grow hk s.toks) hvs hst
theorem Ex1.asgTup {ts : List Expr} {k : Nat} {tpos pos : Pos} {value : Expr} {Q : Fl → Rho → Led → Prop} (h : Ev G value ρ σ (KAs G (.Tuple ts k tpos) Q))
    (hw : ∀ bs im s, St G bs im s ρ σ → swappedStores [.Tuple ts k tpos] value G.env = pure none) (hs : swapsWithSole [.Tuple ts k tpos] value pos.line G.env = pure false := by rfl) : Ex1 G (.Assign [.Tuple ts k tpos] value pos) ρ σ Q := fun A bs im s hA hS => by
  refine Assign_Tuple (wpAny_mono (Tr.then (f := fun v => assign (.Tuple ts k tpos) G.env v) (rel' := relU) (Q := fun _ ρ' σ' => Q .next ρ' σ') h hA hS) (fun v s₁ h₁ => wpAny_mono h₁ (fun _ s₂ ⟨im₂, _, ρ₂, σ₂, e₂, _, hS₂, hq⟩ => ⟨im₂, Fl.next, ρ₂, σ₂, e₂, rfl, hS₂, hq⟩) fun _ _ x => x) fun _ _ x => x) hs (hw _ _ _ hS)
theorem Ex1.asgSwap {x y : String} {px py tpos pos p' : Pos} {k k' : Nat} {vs : List Expr} {Q : Fl → Rho → Led → Prop} (hx : (x, NameKind.local) ∈ G.ns) (hy : (y, NameKind.local) ∈ G.ns)
    (h : Ev G (.Tuple vs k' p') ρ σ (fun r ρ₁ σ₁ => ∃ p q ρ₂ ρ₃, r = .tup [p, q] ∧ SetR y q ρ₁ ρ₂ ∧ SetR x p ρ₂ ρ₃ ∧ Q .next ρ₃ σ₁)) (ok : swapOk2 (Str.ofString x) (Str.ofString y) px py vs = true)
    (hs : swapsWithSole [.Tuple [.Name (Str.ofString x) px, .Name (Str.ofString y) py] k tpos] (.Tuple vs k' p') pos.line G.env = pure false := by rfl) :
    Ex1 G (.Assign [.Tuple [.Name (Str.ofString x) px, .Name (Str.ofString y) py] k tpos] (.Tuple vs k' p') pos) ρ σ Q := fun A bs im s hA hS => by
  refine Assign_Tuple_swapped (names := [Str.ofString x, Str.ofString y]) ?_ hs (swapped2 hS.f.kind (hS.f.kn _ hx).1 (hS.f.kn _ hy).1 ok)
  refine wpAny_mono (h A bs im s hA hS) (fun v s₁ hqx => ?_) fun _ _ x => x
  obtain ⟨im₁, r, ρ₁, σ₁, e₁, hr, hS₁, p, q, ρ₂, ρ₃, hpq, u2, u3, hQ⟩ := hqx
  subst hpq
  obtain ⟨a, ws, n, rfl, ho, hws⟩ := hr.tup_i
  obtain ⟨vp, vq, rfl, hp, hq⟩ := two_v hws
  have hlen : [Str.ofString x, Str.ofString y].length = ([vp, vq] : List Value).toArray.size := rfl
  rw [hlen]
  refine unpackItems_tuple hA.1 ⟨_, hS₁.l.him _ _ ho, rfl, n, rfl⟩ fun h' he => ?_
  have hS₂ : St G bs im₁ { s₁ with heap := h' } ρ₁ σ₁ := hS₁.grow (fun b o e => he b o (Nat.ne_of_lt (Heap.lt_size e)) e) s₁.toks
  show wpAny _ _ (assignInOrder [fun v => bindName G.env (Str.ofString y) v, fun v => bindName G.env (Str.ofString x) v] [vq, vp]) _ _ _
  refine assignInOrder_cons (wpAny_bindName (wpAny_mono (store_con (Q := fun ρ' σ' => ρ' = ρ₂ ∧ σ' = σ₁) hy u2 ⟨rfl, rfl⟩ A bs im₁ _ vq hA hS₂ hq) (fun _ s₃ hqx => ?_) fun _ _ x => x))
  obtain ⟨im₃, _, ρ', σ', e₃, _, hS₃, hρ, hσ⟩ := hqx
  subst hρ; subst hσ
  refine assignInOrder_cons (wpAny_bindName (wpAny_mono (store_con (Q := fun ρ' σ'' => ρ' = ρ₃ ∧ σ'' = σ') hx u3 ⟨rfl, rfl⟩ A bs im₃ _ vp hA hS₃ (hp.mono e₃.1)) (fun _ s₄ hqx => ?_) fun _ _ x => x))
  obtain ⟨im₄, _, ρ'', σ'', e₄, _, hS₄, hρ, hσ⟩ := hqx
  subst hρ; subst hσ
  exact assignInOrder_nil ⟨im₄, Fl.next, _, _, e₁.trans (e₃.trans e₄), rfl, hS₄, hQ⟩
end
end Mine.Tactic
end
section
open PySem PySem.W PyProof.Rows PySem.Calls
set_option Elab.async false
set_option maxRecDepth 100000
namespace Mine.Tactic

noncomputable def clsOkB (K : Frag) (C : Addr) : Bool :=
  makesIn K C && (findIn K (.ref C) "__getattribute__" == some (some (.builtin "object.__getattribute__"))) && (findIn K (.ref C) "__getattr__" == some none) && (findIn K (.ref C) "__setattr__" == some (some (.builtin "object.__setattr__"))) && plainOver K C && hasDictIn K C
structure ClsOk (K : Frag) (C : Addr) : Prop where
  makes : makesIn K C = true
  ga : findIn K (.ref C) "__getattribute__" = some (some (.builtin "object.__getattribute__"))
  gt : findIn K (.ref C) "__getattr__" = some none
  sa : findIn K (.ref C) "__setattr__" = some (some (.builtin "object.__setattr__"))
  over : plainOver K C = true
  hd : hasDictIn K C = true
theorem clsOk_iff {K : Frag} {C : Addr} (h : clsOkB K C = true) : ClsOk K C := by
  unfold clsOkB at h
  simp only [Bool.and_eq_true, beq_iff_eq] at h
  obtain ⟨⟨⟨⟨⟨a, b⟩, c⟩, d⟩, e⟩, f⟩ := h
  exact ⟨a, b, c, d, e, f⟩
theorem StL.K {C : Cx} {bs im : PM} {s : Shared} {σ : Led} (x : StL C bs im s σ) : C.K.In s.heap := fun a o e => x.hbs a o (x.cb a o e)
theorem ins_at {h : Heap} {x d C : Addr} {es : List DictEntry} {n : Nat} (h1 : h.get? x = some (insO C d)) (h2 : h.get? d = some (dicO es n)) : InstAt h x (insO C d) C (some (dicO es n)) := ⟨h1, rfl, rfl, h2⟩
theorem lookIn_head (x : String) (hh : Int) (t : Tok) (v : Value) (es : List DictEntry) (n : Nat) : lookIn (Str.ofString x) (dicO (⟨hh, .str (Str.ofString x) t, v⟩ :: es) n) = some (some v) := by
  have : (Value.str (Str.ofString x) t).isStr (Str.ofString x) = true := by show (Str.ofString x == Str.ofString x) = true; simp
  unfold lookIn
  simp only [dicO, List.find?_cons, this]
noncomputable def handsOk : PV → Bool
  | .ref _ | .none | .bool _ | .int _ | .str _ | .tup _ | .lst _ => true
  | _ => false
theorem hands_ok {im : PM} {p : PV} {v : Value} (h : handsOk p = true) (hv : VR im p v) : handedIn v = true := by
  cases p with
  | ref a => rw [hv.ref_i]; rfl
  | none => rw [hv.none_i]; rfl
  | bool b => rw [hv.bool_i]; rfl
  | int i => obtain ⟨t, rfl⟩ := hv.int_i; rfl
  | str l => obtain ⟨t, rfl⟩ := hv.str_i; rfl
  | tup l => obtain ⟨_, _, _, rfl, _⟩ := hv.tup_i; rfl
  | lst l => obtain ⟨_, _, _, rfl, _⟩ := hv.lst_i; rfl
  | _ => cases h

section
variable {G : Gx} {ρ : Rho} {σ : Led} {Q : PV → Rho → Led → Prop}
theorem Op1.field {C : Addr} {x : String} {p : PV} {l : List (String × PV)} (hc : ClsOk G.C.K C) (hn : findIn G.C.K (.ref C) (Str.ofString x) = some none) (hp : handsOk p = true) (h : Q p ρ σ) : Op1 G (fun v => getAttr v (Str.ofString x) true) (.obj C ((x, p) :: l)) ρ σ Q := fun A bs im s v hA hS hv => by
  obtain ⟨a, d, es, n, rfl, h1, h2, h3⟩ := hv.obj_i
  obtain ⟨hh, t, w, es', rfl, hw, _⟩ := h3.cons_inv
  have I := ins_at (hS.l.him _ _ h1) (hS.l.him _ _ h2)
  exact get_value hS.l.K I hc.ga (findObj_own hc.hd hn rfl (lookIn_head ..)) (hands_ok hp hw) (.now (hS.toks _) hw h)
theorem MethP.obj {C f : Addr} {x : String} {p : PV} {name : Str} (hc : ClsOk G.C.K C) (hf : findIn G.C.K (.ref C) name = some (some (.ref f))) (ht : typeIn G.C.K (.ref f) = some (.type "function")) (hx : (Str.ofString x == name) = false) : MethP G (.obj C [(x, p)]) name (.ref f) [.obj C [(x, p)]] ρ σ := fun A bs im s v pl Qv hA hS hv k => by
  obtain ⟨a, d, es, n, rfl, h1, h2, h3⟩ := id hv.obj_i
  obtain ⟨hh, t, w, es', rfl, hw, h4⟩ := h3.cons_inv
  have e := h4.nil_inv
  subst e
  have I := ins_at (hS.l.him _ _ h1) (hS.l.him _ _ h2)
  refine method_fn hS.l.K I hc.ga hc.gt hf ht ?_ (k _ _ s.toks .ref (.cons hv .nil))
  have e : (Value.str (Str.ofString x) t).isStr name = false := hx
  unfold shadowIn lookIn
  simp only [dicO, List.find?_cons, e, List.find?_nil]
  rfl
end

theorem setattr_new {prog : Program} {w : World} {A : Around} {E : Value → Shared → Prop} {s : Shared} {K : Frag} {C x d : Addr} {n : Nat} {name : Str} {v : Value} {Q : Unit → Shared → Prop} (X : K.In s.heap) (hc : ClsOk K C) (ht : takerIn K C name = some none)
    (hx : s.heap.get? x = some (insO C d)) (hd : s.heap.get? d = some (dicO [] n))
    (h : ∀ h' tk hh t m, Heap.SameBut d s.heap h' → h'.get? d = some (dicO [⟨hh, .str name t, v⟩] m) → Q () { s with heap := h', toks := tk }) : wpAny (model prog w) A (setAttr (.ref x) name v) Q E s := by
  have I := ins_at hx hd
  refine set_plain X I hc.sa (osa_open (s := { s with toks := s.toks + 1 }) X I hc.over ht fun b => ?_)
  obtain ⟨cd, hc1, hd'⟩ := any_some hc.hd
  refine wpAny_bind (wpAny_pure (wpAny_bind (wpAny_bind (wpAny_loadPart hx (wpAny_bind (looks_clsIn X hc1 _ _ _ _ (fun _ _ e => e) ?_))))))
  rw [hd']
  refine wpAny_pure (a := some d) (wpAny_bind (wpAny_pure (wpAny_bind ?_)))
  unfold nsSet
  refine wpAny_bind (wpAny_bind (wpAny_askSetting (wpAny_pure (wpAny_bind (wpAny_mkText (wpAny_bind (wpAny_loadPart hd ?_)))))))
  have hput : ∀ k key, Obj.putName name k key v (dicO [] n) = dicO [⟨k, key, v⟩] (n + 1) := fun k key => by simp [Obj.putName_eq, Obj.putNameByArray]
  dsimp only
  rw [show aRefKeyMayBeTheName name [].toArray = false by rw [aRefKeyMayBeTheName_at]; simp]
  rw [if_neg (by decide)]
  refine wpAny_updatePart hd ?_
  have D' := Heap.get?_update_self (Obj.putName name (PyData.keyHash w.params name) (.str name (s.toks + 1)) v) hd (by rw [hput]; rfl)
  rw [hput] at D'
  refine wpAny_bind (wpAny_lookBehind D' (pastItsLine_dict (by rw [List.size_toArray, sizeLine_eq]; simp)) ?_)
  exact wpAny_pure (h _ _ _ _ _ (Heap.SameBut.update ..) D')

section
variable {G : Gx} {ρ : Rho} {σ : Led}
theorem Ex1.setField {o value : Expr} {y : String} {p' pos : Pos} {Q : Fl → Rho → Led → Prop} (h : Ev G value ρ σ (fun p ρ₁ σ₁ => Ev G o ρ₁ σ₁ (fun a ρ₂ σ₂ => ∃ C x d σ₃, a = .ref x ∧ ClsOk G.C.K C ∧ takerIn G.C.K C (Str.ofString y) = some none ∧ (x, LO.ins C d) ∈ σ₂ ∧ Upd d (.att []) (.att [(y, p)]) σ₂ σ₃ ∧ Q .next ρ₂ σ₃)))
    (hs : swapsWith value (some (.Attribute o (Str.ofString y) p')) pos.line G.env = pure false := by rfl) : Ex1 G (.Assign [.Attribute o (Str.ofString y) p'] value pos) ρ σ Q := fun A bs im s hA hS => by
  refine plainObj_wpAny_Assign_Attribute (wpAny_mono (h A bs im s hA hS) (fun v s₁ hqx => ?_) fun _ _ x => x) hs
  obtain ⟨im₁, p, ρ₁, σ₁, e₁, hr, hS₁, h1⟩ := hqx
  refine wpAny_mono (h1 A bs im₁ s₁ hA hS₁) (fun w s₂ hqx => ?_) fun _ _ x => x
  obtain ⟨im₂, a, ρ₂, σ₂, e₂, ha, hS₂, C, x, d, σ₃, hax, hc, ht, hx, u, hq⟩ := hqx
  subst hax
  rw [ha.ref_i]
  obtain ⟨hx', _⟩ := hS₂.l.led _ hx
  obtain ⟨⟨es, n, hd, hes⟩, _⟩ := hS₂.l.led _ u.mem
  have e := hes.nil_inv
  subst e
  refine wpAny_up (setattr_new hS₂.l.K hc ht hx' hd fun h' tk hh t m hsb hd' htk => ?_)
  dsimp only at htk
  have hS₃ := hS₂.upd u tk hsb ⟨_, _, hd', .cons (hr.mono e₂.1) .nil⟩
  exact ⟨im₂, Fl.next, ρ₂, σ₃, e₁.trans e₂, rfl, hS₃, hq⟩

theorem units_make (C : Addr) (vals : List Value) (kw : List (Str × Value)) : (Code.builtin "type.__call__" ⟨.ref C :: vals, kw⟩).cUnits = 1 := rfl
theorem AOk.make {n : Nat} {A : Around} (h : AOk (n + 1) A) (C : Addr) (vals : List Value) : AOk n (A.under (.builtin "type.__call__" ⟨.ref C :: vals, []⟩)) := ⟨h.1, by have := h.2.1; rw [depth_under_make]; walk_at "zo", by
  have := h.2.2
  have e : (A.under (.builtin "type.__call__" ⟨.ref C :: vals, []⟩)).units ≤ A.units + 8 := by
    show A.units + (Code.builtin "type.__call__" ⟨.ref C :: vals, []⟩).cUnits ≤ _
    have := units_make C vals []
    walk_at "zo"
  walk_at "zo"⟩
theorem StL.pushLed {C : Cx} {bs im : PM} {s : Shared} {σ : Led} (x : StL C bs im s σ) (o : Obj) (lo : LO) (t : Nat) (hr : LR im (s.heap.push o) s.heap.objs.size lo) (ht : s.toks ≤ t := by first | exact Nat.le_refl _ | exact Nat.le_succ _ | assumption | walk_at "zo") :
    StL C bs im { s with heap := s.heap.push o, toks := t } ((s.heap.objs.size, lo) :: σ) := by
  have hn := get?_size_none s.heap
  have y := x.grow (fun b p e => Heap.get?_push_of_some o e) t ht
  refine ⟨y.os, y.gens, y.cb, y.hbs, y.him, fun p hp => ?_, ?_, y.gok, y.tk⟩
  · rcases List.mem_cons.mp hp with rfl | hp
    · exact ⟨hr, x.bs_none hn, x.im_none hn⟩
    · exact y.led p hp
  · rw [List.map_cons]; exact List.nodup_cons.mpr ⟨x.led_some hn, x.nd⟩
theorem StL.freezeObj {C : Cx} {bs im : PM} {s : Shared} {σ : Led} {D : Addr} {lo : LO} {o : Obj} (hS : StL C bs im s ((D, lo) :: σ)) (ho : s.heap.get? D = some o) : Ext bs im (im.put D o) ∧ StL C bs (im.put D o) s σ := by
  obtain ⟨_, hb, hi⟩ := hS.led (D, lo) (.head _)
  have hput := PM.put_keep hi o
  have hnd := hS.nd
  rw [List.map_cons, List.nodup_cons] at hnd
  refine ⟨⟨hput, fun a e => ?_⟩, ⟨hS.os, hS.gens, hS.cb, hS.hbs, fun a p e => ?_, fun p hp => ?_, hnd.2, hS.gok, hS.tk⟩⟩
  · by_cases q : a = D
    · subst q; exact .inr hb
    · rw [PM.put_ne q] at e; exact .inl e
  · rw [PM.put_at] at e; split at e
    · rename_i q; cases e; rw [q]; exact ho
    · exact hS.him a p e
  · obtain ⟨a, b, c⟩ := hS.led p (.tail _ hp)
    exact ⟨a.mono hput, b, by rw [PM.put_ne (fun q => hnd.1 (List.mem_map.mpr ⟨p, hp, q⟩))]; exact c⟩
theorem FnSpec.make {C : Cx} {n : Nat} {cl fI : Addr} {ps : List PV} {σ : Led} {Q : PV → Led → Prop} (hc : ClsOk C.K cl) (hi : findIn C.K (.ref cl) "__init__" = some (some (.ref fI))) (hf : typeIn C.K (.ref fI) = some (.type "function")) (hkeep : keepIn C.K (.ref cl) = true)
    (h : ∀ x d, FnSpec C n (.ref fI) (.ref x :: ps) [] ((x, .ins cl d) :: (d, .att []) :: σ) (fun r σ' => r = .none ∧ ∃ l σ'', σ' = (x, .ins cl d) :: (d, .att l) :: σ'' ∧ Q (.obj cl l) σ'')) :
    FnSpec C (n + 1) (.ref cl) ps [] σ Q := fun A bs im s fv vs kvs hA hS hfv hv hk => by
  rw [hfv.ref_i]
  have : kvs = [] := by have := hk.1; simpa using this
  subst this
  have hM := makes_of (M := C.M) hS.K hc.makes
  refine ⟨keeps_K hkeep _ hS.K, ?_⟩
  have S1 := hS.pushLed emptyDict (.att []) s.toks ⟨[], 0, Heap.get?_push_size _ rfl, .nil⟩
  have S2 := S1.pushLed (instObj cl s.heap.objs.size) (.ins cl s.heap.objs.size) s.toks (Heap.get?_push_size _ rfl)
  dsimp only at S2
  rw [Heap.size_push] at S2
  obtain ⟨hh, g, dr, t, os⟩ := s
  refine make_core hM (looks_findIn hS.K hi) (fun self => bind_fn hS.K self hf) (.inl rfl) ?_
  obtain ⟨_, H⟩ := h (hh.objs.size + 1) hh.objs.size _ bs im _ (.ref fI) (.ref (hh.objs.size + 1) :: vs) [] (hA.make cl vs) S2 .ref (.cons .ref hv) .nil
  refine codeAny_mono H fun r s' hqx => ?_
  obtain ⟨v, hr, im', p, σ', e, hp, hL, hpn, l, σ'', hσ, hq⟩ := hqx
  subst hr; subst hσ; subst hpn
  have hx := (hL.led _ (.head _)).1
  obtain ⟨es, m, hd, hes⟩ := (hL.led _ (.tail _ (.head _))).1
  obtain ⟨e1, L1⟩ := hL.freezeObj (o := insO cl hh.objs.size) hx
  obtain ⟨e2, L2⟩ := L1.freezeObj hd
  refine ⟨hp.none_i, _, rfl, _, _, _, e.trans (e1.trans e2), .obj (e2.1.1 _ _ (PM.put_self ..)) (PM.put_self ..) ((hes.mono e1.1).mono e2.1), L2, hq⟩
end
end Mine.Tactic
end
section
open PySem PySem.W PyProof.Rows PySem.Calls
set_option Elab.async false
set_option maxRecDepth 100000
namespace Mine.Tactic
theorem mro_object : mroOf (.type "object") = pure [.type "object"] := by kernel_rfl
theorem lookup_object_new : typeLookup (.type "object") "__new__" = pure (some (.builtin "object.__new__")) := by rw [typeLookup_type, builtinLookup_eq_fast]; kernel_rfl
theorem lookup_object_init : typeLookup (.type "object") "__init__" = pure (some (.builtin "object.__init__")) := by rw [typeLookup_type, builtinLookup_eq_fast]; kernel_rfl
theorem made_object : Bind.madeBy (.type "object") = pure (some "object.__new__") := madeBy_type mro_object lookup_object_new (by decide +kernel)
theorem typeCall_object : checkTypeCall "object" ⟨[], []⟩ = pure () := by kernel_rfl
theorem newCall_object : checkBuiltinCall "object.__new__" ⟨[.type "object"], []⟩ = pure () := by kernel_rfl
theorem create_object : ((Manifest.find? "object").bind (·.mro.findSome? fun t => (Manifest.find? t).bind fun b => if b.noNew then some true else if b.attrs.any (·.1 == "__new__") then some false else none)).getD false = false := by decide +kernel
theorem sub_object : isSubtype (.type "object") (.type "object") = pure true := by rw [isSubtype_type]; kernel_rfl
theorem on_eq : Builtin.«object.__new__» ⟨[.type "object"], []⟩ = (newObj (.type "object") .plain none >>= ret) := by kernel_rfl
set_option maxHeartbeats 1000000 in
theorem call_object {prog : Program} {w : World} {A : Around} {E : Value → Shared → Prop} {s : Shared} {Q : Value → Shared → Prop}
   (h : ∀ tk, Q (.ref s.heap.objs.size) { s with heap := s.heap.push { cls := .type "object", data := .plain }, toks := tk }) : wpAny (model prog w) A (call (.type "object") []) Q E s := by
  obtain ⟨hp, g, d, tk, os⟩ := s
  have f1 := mro_object
  have f2 := lookup_object_new
  have f3 := lookup_object_init
  have f4 := made_object
  have f5 := typeCall_object
  have f6 := newCall_object
  have f7 := create_object
  have f8 := sub_object
  refine wpAny_call (codeAny_of_tree ?_)
  show wpAny _ _ (callAny (.type "object") _) _ _ _
  refine wpAny_pure ⟨Code.quiet_builtin _ (by decide +kernel), codeAny_builtin F.entry_type_call ?_⟩
  rw [Around.under_plain (weight_type_call_type "object" [] []) rfl]
  repeat (any_goals (first | assumption | wp_step))
  refine codeAny_of_tree ?_
  show wpAny _ A.in1.in1 (do checkBuiltinCall "object.__new__" ⟨[.type "object"], []⟩; again (.builtin "object.__new__" ⟨[.type "object"], []⟩)) _ _ _
  refine wpAny_bind (wpAny_of_eq newCall_object (wpAny_pure ⟨Code.quiet_builtin _ F.objNew.quiet, codeAny_builtin F.objNew.entry ?_⟩))
  rw [on_eq]
  refine wpAny_bind (wpAny_newObj_type ?_)
  refine wpAny_pure ?_
  have hT : ∀ tk', (⟨hp.push { cls := .type "object", data := .plain }, g, d, tk', os⟩ : Shared).TypeIs (.ref hp.objs.size) "object" := fun _ => ⟨_, Heap.get?_push_size _ rfl, rfl⟩
  have hx : (hp.push { cls := .type "object", data := .plain }).get? hp.objs.size = some { cls := .type "object", data := .plain } := Heap.get?_push_size _ rfl
  have f9 : bindSpecial (.builtin "object.__init__") (.ref hp.objs.size) = pure (.builtin "object.__init__", [.ref hp.objs.size]) := oi_bind _
  dsimp only
  clear f4 f5 f6 f7
  repeat (any_goals (first | assumption | exact hT _ | with_reducible refine wpAny_loadPart' hx ?_ | wp_step))
  refine codeAny_call_builtin oi_plain entry_oi (F.slot_object_init.check _ _ _ _ _ _ _ _ (hT _) (oi_args _) ?_)
  show wpAny _ _ (Builtin.«object.__init__» ⟨[.ref hp.objs.size], []⟩) _ _ _
  rw [oi_run]
  refine wpAny_pure ?_
  refine wpAny_pure ?_
  exact wpAny_pure (h _)
open Builtin.Re
theorem slot_search : Slot "re.Pattern" "search" "re.Pattern.search" :=
  .of (owner := "re.Pattern") (n := "search") (by rw [typeLookup_type, builtinLookup_eq_fast]; kernel_rfl) (by decide +kernel) (by decide +kernel) (by decide +kernel)
    (by first | exact .inl (by decide +kernel) | exact .inr (by decide +kernel)) (by rw [isSubtype_type]; kernel_rfl)
theorem entry_search : entryFor table "re.Pattern.search" = some Builtin.«re.Pattern.search» := entryFor_of_tree (by kernel_rfl)
theorem args_search (a b : Value) : argsOk "re.Pattern.search" ⟨[a, b], []⟩ := by unfold argsOk; kernel_rfl
theorem type_search : typeOf (.builtin "re.Pattern.search") = pure (.type "method_descriptor") := by show builtinType _ = _; rw [builtinType_eq_fast]; kernel_rfl
noncomputable def reFin : Nat → Sre.M → Option Sre.M
  | 0, _ => none
  | k + 1, m => if (m.runFor reTurnSteps).outcome.isSome then some (m.runFor reTurnSteps) else reFin k (m.runFor reTurnSteps)
section
variable {M : Model} {A : Around} {E : Value → Shared → Prop} {s : Shared}
theorem drive_run {Q : Sre.M → Shared → Prop} {m' : Sre.M} (h : Q m' s) : ∀ (k turns : Nat) (m : Sre.M), reFin k m = some m' → k ≤ turns → wpAny M A (reDrive turns m) Q E s
  | 0, _, _, e, _ => by cases e
  | k + 1, 0, _, _, hk => absurd hk (by walk_at "zo")
  | k + 1, turns + 1, m, e, hk => by
    unfold reFin at e
    unfold reDrive
    dsimp only
    split at e
    · rename_i hs
      cases e
      rw [if_pos hs]; exact wpAny_pure h
    · rename_i hs
      rw [if_neg hs]
      exact wpAny_bind (wpAny_rule (drive_run h k turns _ e (by walk_at "zo")))
theorem rules_run {m : Sre.M} {Q : PUnit → Shared → Prop} (h : Q PUnit.unit s) : ∀ (l : List Nat), wpAny M A (forIn l PUnit.unit fun i _ => if m.seen.has i = true then (rule (Sre.names.getD i "") >>= fun _ => pure (ForInStep.yield PUnit.unit)) else pure (ForInStep.yield PUnit.unit)) Q E s
  | [] => wpAny_pure h
  | i :: r => by
    rw [List.forIn_cons]
    refine wpAny_bind ?_
    have k := rules_run (m := m) h r
    split
    · exact wpAny_bind (wpAny_rule (wpAny_pure k))
    · exact wpAny_pure k
theorem toEnd_failed {m m' : Sre.M} {Q : Option Sre.M → Shared → Prop} (k : Nat) (hk : k ≤ 2 ^ 64) (e : reFin k m = some m') (ho : m'.outcome = some .failed) (h : Q none s) : wpAny M A (reRunToEnd m) Q E s := by
  unfold reRunToEnd
  refine wpAny_bind (drive_run ?_ k _ m e hk)
  refine wpAny_bind ?_
  refine wpAny_mono (rules_run (m := m') (Q := fun _ s' => s' = s) rfl (List.range Sre.names.size)) (fun _ s' e => ?_) fun _ _ x => x
  subst e
  rw [ho]
  exact wpAny_pure h
end
set_option maxHeartbeats 1000000 in
theorem search_run {prog : Program} {w : World} {A : Around} {E : Value → Shared → Prop} {s : Shared} {a ca : Addr} {o oc : Obj} {fs items : Array Value} {n : Nat} {x : Str} {t : Tok} {Q : Value → Shared → Prop} {m' : Sre.M} (k : Nat) (ho : s.heap.get? a = some o) (hcl : o.cls = .type "re.Pattern") (hd : o.data = .fields fs)
    (h6 : reRawNat (fs.getD 6 .none) = 0) (h5 : fs.getD 5 .none = .ref ca) (hca : s.heap.get? ca = some oc) (hcd : oc.data = .seq items n) (hx : x.cps.size < 2 ^ 60) (hk : k ≤ 2 ^ 64)
    (e : reFin k (Sre.forSearch ((items.map reRawOf).map (·.toNat)) x.cps (reRawNat (fs.getD 2 .none)) 0 x.cps.size false) = some m') (hf : m'.outcome = some .failed) (h : Q .none s) :
    wpAny (model prog w) A (call (.builtin "re.Pattern.search") [.ref a, .str x t]) Q E s := by
  refine wpAny_call_entry slot_search ⟨_, ho, hcl⟩ entry_search ?_ (args_search _ _)
  obtain ⟨hp, g, d, tk, os⟩ := s
  unfold Builtin.«re.Pattern.search» reTarget
  have hcl' : ∀ i : Nat, min (2 ^ 63 - 1 : Int).toNat i = min 9223372036854775807 i := fun i => rfl
  refine wpAny_bind ?_
  have named : reNamed "re.Pattern.search" "search" ["string", "pos", "endpos"] 1 [.str x t] [] = pure [some (.str x t), none, none] := by kernel_rfl
  dsimp only
  rw [named]
  refine wpAny_bind (wpAny_pure ?_)
  dsimp only
  refine wpAny_bind (wpAny_pure ?_)
  refine wpAny_bind (wpAny_pure ?_)
  have text : reTextOf (.str x t) = pure (x.cps, 0) := by unfold reTextOf; rfl
  refine wpAny_bind ?_
  unfold fieldsOf
  refine wpAny_bind (wpAny_loadPart ho ?_)
  rw [hd]
  refine wpAny_pure ?_
  rw [text]
  refine wpAny_bind (wpAny_pure ?_)
  dsimp only
  rw [h6, if_neg (by decide), if_neg (by decide)]
  have hno : reNoCollectionInside (.str x t) 0 = pure () := rfl
  rw [hno]
  refine wpAny_bind (wpAny_pure (wpAny_bind ?_))
  unfold reRawItems
  rw [h5]
  refine wpAny_bind (wpAny_seqItems hca hcd (wpAny_pure ?_))
  refine wpAny_pure ?_
  unfold reAnswer
  dsimp only
  have e1 : min (Int.toNat 0) x.cps.size = 0 := by simp
  have e2 : min (2 ^ 63 - 1 : Int).toNat x.cps.size = x.cps.size := by
    rw [show (2 ^ 63 - 1 : Int).toNat = 9223372036854775807 from rfl]; walk_at "zo"
  rw [e1, e2]
  refine wpAny_bind (toEnd_failed k hk ?_ hf ?_)
  · exact e
  · exact wpAny_pure ⟨_, rfl, h⟩

theorem plainAttrs_re : PlainAttrs "re.Pattern" :=
  ⟨⟨"object.__getattribute__", by rw [typeLookup_type, builtinLookup_eq_fast]; kernel_rfl, by decide +kernel⟩, by rw [typeLookup_type, builtinLookup_eq_fast]; kernel_rfl⟩

section
variable {G : Gx} {ρ : Rho} {σ : Led} {Q : PV → Rho → Led → Prop}
theorem CallP.object (h : ∀ a, Q (.ref a) ρ σ) : CallP G (.con (.type "object")) [] [] ρ σ Q := fun A bs im s fv vs kvs hA hS hf hv hk => by
  rw [hf.con_i, hv.nil_inv]
  have : kvs = [] := by have := hk.1; simpa using this
  subst this
  exact ⟨keeps_type, wpAny_up (call_object fun tk htk => .now (hS.grow (fun b o e => Heap.get?_push_of_some _ e) tk) .ref (h _))⟩
structure ReAt (K : Frag) (a : Addr) (code : Array Nat) : Prop where
  it : ∃ o fs ca oc items n, K.lookup a = some o ∧ o.cls = .type "re.Pattern" ∧ o.dict = none ∧ o.data = .fields fs ∧ reRawNat (fs.getD 6 .none) = 0 ∧ fs.getD 5 .none = .ref ca ∧ reRawNat (fs.getD 2 .none) = 0 ∧ K.lookup ca = some oc ∧ oc.data = .seq items n ∧ (items.map reRawOf).map (·.toNat) = code
noncomputable def missB (code : Array Nat) (l : List Nat) : Bool := match reFin 100 (Sre.forSearch code l.toArray 0 0 l.toArray.size false) with
  | some m => (match m.outcome with | some .failed => true | _ => false)
  | none => false
theorem MethP.search {a : Addr} {code : Array Nat} (hr : ReAt G.C.K a code) : MethP G (.con (.ref a)) (Str.ofString "search") (.con (.builtin "re.Pattern.search")) [.con (.ref a)] ρ σ := fun A bs im s v pl Qv hA hS hv k => by
  rw [hv.con_i]
  obtain ⟨o, fs, ca, oc, items, n, h1, h2, h3, _⟩ := hr.it
  have ho := hS.l.K _ _ h1
  exact getMethod_builtin ⟨_, ho, h2⟩ plainAttrs_re slot_search type_search (fun b e => by cases e; exact ⟨_, ho, h3⟩) (k _ _ s.toks .con (.cons .con .nil))
theorem CallP.search {a : Addr} {code : Array Nat} {l : List Nat} (hr : ReAt G.C.K a code) (hm : missB code l = true) (hz : l.length ≤ 16777216) (h : Q .none ρ σ) : CallP G (.con (.builtin "re.Pattern.search")) [.con (.ref a), .str l] [] ρ σ Q := .self fun A bs im s vs hA hS hv => by
  obtain ⟨v, w, rfl, hv1, hw1⟩ := two_v hv
  rw [hv1.con_i]
  obtain ⟨t, rfl⟩ := hw1.str_i
  obtain ⟨o, fs, ca, oc, items, n, h1, h2, h3, h4, h5, h6, h7, h8, h9, h10⟩ := hr.it
  unfold missB at hm
  cases e : reFin 100 (Sre.forSearch code l.toArray 0 0 l.toArray.size false) with
  | none => rw [e] at hm; cases hm
  | some m =>
    rw [e] at hm
    have ho : m.outcome = some .failed := by
      dsimp only at hm
      revert hm
      generalize m.outcome = z
      intro q
      rcases z with _ | (_ | _ | _) <;> first | rfl | cases q
    refine search_run 100 (hS.l.K _ _ h1) h2 h4 h5 h6 (hS.l.K _ _ h8) h9 (by show l.toArray.size < _; rw [List.size_toArray]; walk_at "zo") (by walk_at "zo") ?_ ho (.now hS .none h)
    rw [h10, h7]; exact e
end
end Mine.Tactic
end
section
open PySem PySem.W PyProof.Rows PySem.Calls
set_option Elab.async false
set_option maxRecDepth 100000
namespace Mine.Tactic
open Builtin Builtin.Str
structure TabK (K : Frag) (d : Addr) (es : List DictEntry) (n : Nat) : Prop where
  it : K.lookup d = some (dicO es n)
  ne : (d == sysModules) = false
noncomputable def intEntry (e : DictEntry) : Bool := match e.key with | .int i _ => e.hash == hashInt i | _ => false
noncomputable def tabFind (es : List DictEntry) (c : Int) : Option Value := (es.find? fun e => e.key.isInt c).map (·.val)
theorem mapOf_tab {prog : Program} {w : World} {h : Heap} {d : Addr} {es : List DictEntry} {n : Nat} (ho : h.get? d = some (dicO es n)) (he : es.all intEntry = true) : h.MapOf (intKind prog w) d (tabFind es) := by
  refine ⟨_, _, _, ho, ⟨rfl, rfl, rfl⟩, rfl, fun e hm => ?_, fun k => ?_⟩
  · have := List.all_eq_true.mp he e (by simpa using hm)
    unfold intEntry at this
    split at this
    · rename_i i t hk
      refine ⟨i, by simp [intKind, Value.isInt, hk], ?_⟩
      have e1 : (intKind prog w).hash = hashInt := rfl
      rw [e1]; exact beq_iff_eq.mp this
    · cases this
  · have e1 : (intKind prog w).is = Value.isInt := rfl
    unfold findBy tabFind
    rw [e1]
    simp
section
variable {prog : Program} {w : World} {A : Around} {E : Value → Shared → Prop} {s : Shared} {d : Addr} {es : List DictEntry} {n : Nat}
theorem sub_KeyError : isSubtype (.type "KeyError") (.type "LookupError") = pure true := by rw [isSubtype_type]; kernel_rfl
theorem tab_miss {c : Nat} {Q : Mapped → Shared → Prop} (hh : A.handled = none) (ho : s.heap.get? d = some (dicO es n)) (he : es.all intEntry = true) (hd : (d == sysModules) = false) (hf : tabFind es (c : Int) = none)
    (h : ∀ h' tk, (∀ b o, s.heap.get? b = some o → h'.get? b = some o) → Q .keep { s with heap := h', toks := tk }) : wpAny (model prog w) A (tableLookup (.ref d) c) Q E s := by
  unfold tableLookup
  refine wpAny_bind (wpAny_attempt (wpAny_bind (wpAny_mkInt ?_)))
  refine wpAny_getItem_missing_of (knd := intKind prog w) (k := (c : Int)) (f := tabFind es) (by simp [intKind, Value.isInt]) hd hh (mapOf_tab (h := s.heap) ho he) hf fun h' e hx => ?_
  obtain ⟨ob, t, h1, h2, h3⟩ := hx.there
  refine wpAny_bind (wpAny_isInstance (T := "KeyError") (b := true) ⟨_, h1, h2⟩ sub_KeyError ?_)
  exact wpAny_bind (wpAny_rule (wpAny_pure (h _ _ hx.keeps)))
theorem tab_hit {c : Nat} {x : Str} {t : Tok} {Q : Mapped → Shared → Prop} (ho : s.heap.get? d = some (dicO es n)) (he : es.all intEntry = true) (hf : tabFind es (c : Int) = some (.str x t))
    (h : ∀ tk, Q (.text x) { s with toks := tk }) : wpAny (model prog w) A (tableLookup (.ref d) c) Q E s := by
  unfold tableLookup
  refine wpAny_bind (wpAny_attempt (wpAny_bind (wpAny_mkInt ?_)))
  refine wpAny_getItem_of (knd := intKind prog w) (k := (c : Int)) (f := tabFind es) (by simp [intKind, Value.isInt]) (mapOf_tab (h := s.heap) ho he) hf ?_
  exact wpAny_bind (wpAny_pure (wpAny_bind (wpAny_pure (wpAny_pure (h _)))))
theorem trans_run {c : Nat} {r : List Nat} {t : Tok} {Q : Value → Shared → Prop} (hc : c < 128) (hh : A.handled = none) (ho : s.heap.get? d = some (dicO es n)) (he : es.all intEntry = true) (hd : (d == sysModules) = false)
    (hf : (tabFind es (c : Int) = none ∧ r = [c]) ∨ ∃ x t, tabFind es (c : Int) = some (.str x t) ∧ x = S r ∧ r.length = 2)
    (h : ∀ h' tk t', (∀ b o, s.heap.get? b = some o → h'.get? b = some o) → Q (.str (S r) t') { s with heap := h', toks := tk }) :
    wpAny (model prog w) A (call (.builtin "str.translate") [.str (S [c]) t, .ref d]) Q E s := by
  refine wpAny_call_entry F.slot_str_translate (typeIs_str _ _ _) F.entry_str_translate ?_ (F.args_str_translate_2 _ _)
  unfold Builtin.«str.translate»
  have one : strOneArg "translate" ⟨[.str (S [c]) t, .ref d], []⟩ = pure (.str (S [c]) t, S [c], .ref d) := by rfl
  rw [one]
  refine wpAny_bind (wpAny_pure ?_)
  dsimp only
  rw [if_neg (by simp [S_len])]
  have key : ∀ {β : Type} (b : β) (f : Nat → β → Sem (ForInStep β)), forIn #[c] b f = (f c b >>= fun r => match r with | .done b => pure b | .yield b => pure b) := fun b f => by
    rw [show (#[c] : Array Nat) = [c].toArray from rfl, List.forIn_toArray, List.forIn_cons]
    rfl
  have hall : (#[c].all fun x => decide (x < 128)) = true := by simp [hc]
  refine wpAny_bind ?_
  rw [hall, key]
  refine wpAny_bind ?_
  dsimp only
  have t0 : tooLong 0 = false := by decide
  rw [t0, if_neg (by decide)]
  rw [if_pos rfl]
  have l0 : List.lookup c ([] : List (Nat × Option Nat)) = none := rfl
  rw [l0]
  dsimp only
  rcases hf with ⟨hf, hr⟩ | ⟨x, t, hf, hx, hr⟩
  · refine wpAny_bind (m := tableLookup (.ref d) c) (tab_miss (A := A.in1) hh ho he hd hf fun h' tk hk => ?_)
    dsimp only
    refine wpAny_bind (wpAny_pure (wpAny_pure (wpAny_pure ?_)))
    dsimp only
    rw [show tooLong (0 + 1) = false by decide, if_neg (by decide)]
    subst hr
    refine wpAny_bind (wpAny_mkStr (wpAny_pure ⟨_, rfl, ?_⟩) (by show ([] ++ [c]).toArray.size ≤ _; rw [sizeLine_eq]; simp))
    exact h _ _ _ hk
  · refine wpAny_bind (m := tableLookup (.ref d) c) (tab_hit (A := A.in1) ho he hf fun tk => ?_)
    subst hx
    have hl : ((S r).length == 1 && (S r).cps.all fun x => decide (x < 128)) = false := by rw [S_len, hr]; rfl
    dsimp only
    rw [hl]
    refine wpAny_bind (wpAny_pure ?_)
    refine wpAny_bind (wpAny_rule ?_)
    rw [if_neg (by decide)]
    refine wpAny_bind (m := tableLookup (.ref d) c) (tab_hit (A := A.in1) ho he hf fun tk' => ?_)
    refine wpAny_pure (wpAny_pure ?_)
    show wpAny _ _ (if tooLong (0 + (S r).length) = true then _ else _) _ _ _
    rw [show tooLong (0 + (S r).length) = false by rw [S_len, hr]; decide, if_neg (by decide)]
    refine wpAny_bind (wpAny_mkStr (wpAny_pure ⟨_, rfl, ?_⟩) (by show (#[] ++ r.toArray).size ≤ _; rw [sizeLine_eq]; simp [hr]))
    have e : (⟨List.foldl (fun acc p => acc ++ p.cps) #[] [S r].reverse⟩ : Str) = S r := by show (⟨#[] ++ r.toArray⟩ : Str) = _; simp
    rw [e]
    exact h _ _ _ (fun _ _ e => e)
end
section
variable {G : Gx} {ρ : Rho} {σ : Led} {Q : PV → Rho → Led → Prop}
theorem CallP.transl {c : Nat} {r : List Nat} {d : Addr} {es : List DictEntry} {n : Nat} (T : TabK G.C.K d es n) (he : es.all intEntry = true) (hc : c < 128)
    (hf : (tabFind es (c : Int) = none ∧ r = [c]) ∨ ∃ x t, tabFind es (c : Int) = some (.str x t) ∧ x = S r ∧ r.length = 2) (h : Q (.str r) ρ σ) : CallP G (.con (.builtin "str.translate")) [.str [c], .con (.ref d)] [] ρ σ Q := .self fun A bs im s vs hA hS hv => by
  obtain ⟨v, w, rfl, hv1, hw1⟩ := two_v hv
  obtain ⟨t, rfl⟩ := hv1.str_i
  rw [hw1.con_i]
  exact wpAny_up (trans_run hc hA.1 (hS.l.K _ _ T.it) he T.ne hf fun h' tk t' hk htk => .now (hS.grow hk tk) .str h)
end
end Mine.Tactic
end
section
open PySem PySem.W PyProof.Rows PySem.Calls
set_option Elab.async false
set_option maxRecDepth 100000
namespace Mine.Tactic
open Builtin.Range (rangeSize rangeFitsLong rangeFields)
noncomputable abbrev rngO (a b c : Int) (t u v : Tok) : Obj := { cls := .type "range", dict := none, data := .fields #[.int a t, .int b u, .int c v], slots := #[] }
noncomputable abbrev ritO (a n c : Int) : Obj := { cls := .type "range_iterator", dict := none, data := .fields #[rawInt a, rawInt n, rawInt c], slots := #[] }
theorem sub_ri_reversed : isSubtype (.type "range_iterator") (.type "reversed") = pure false := by rw [isSubtype_type]; kernel_rfl
noncomputable def revSmall (a b c : Int) : Bool := rangeFitsLong a && rangeFitsLong b && rangeFitsLong c && rangeFitsLong (-c) && rangeFitsLong (a - c) && rangeFitsLong (rangeSize a b c)
section
variable {prog : Program} {w : World} {A : Around} {E : Value → Shared → Prop} {s : Shared}
theorem rev_range {r : Addr} {a b c : Int} {t u v : Tok} {Q : Value → Shared → Prop} (ho : s.heap.get? r = some (rngO a b c t u v)) (hs : revSmall a b c = true)
    (h : Q (.ref s.heap.objs.size) { s with heap := s.heap.push (ritO (a + (rangeSize a b c - 1) * c) (rangeSize a b c) (-c)) }) : wpAny (model prog w) A (call (.builtin "range.__reversed__") [.ref r]) Q E s := by
  refine wpAny_call_entry F.slot_range_reversed ⟨_, ho, rfl⟩ F.entry_range_reversed ?_ (F.args_range_reversed_1 _)
  unfold Builtin.«range.__reversed__»
  refine wpAny_bind (wpAny_of_eq (a := Value.ref r) rfl ?_)
  refine wpAny_bind ?_
  unfold rangeFields
  refine wpAny_bind (wpAny_field ho rfl (x := .int a t) rfl (wpAny_bind (wpAny_pure ?_)))
  refine wpAny_bind (wpAny_field ho rfl (x := .int b u) rfl (wpAny_bind (wpAny_pure ?_)))
  refine wpAny_bind (wpAny_field ho rfl (x := .int c v) rfl (wpAny_bind (wpAny_pure (wpAny_pure ?_))))
  dsimp only
  have hs' := hs
  unfold revSmall at hs'
  rw [hs']
  rw [if_neg (by decide)]
  exact wpAny_bind (wpAny_newObj_type (wpAny_pure ⟨_, rfl, h⟩))
theorem code_rev {r : Addr} {a b c : Int} {t u v : Tok} {Q₁ : Value → Shared → Prop} (ho : s.heap.get? r = some (rngO a b c t u v)) (hs : revSmall a b c = true)
    (h : Q₁ (.ref s.heap.objs.size) { s with heap := s.heap.push (ritO (a + (rangeSize a b c - 1) * c) (rangeSize a b c) (-c)) }) :
    codeAny (model prog w) A (.call (.builtin "reversed.__new__") ⟨[.type "reversed", .ref r], []⟩) (wants Q₁ E) s := by
  have hT : s.TypeIs (.ref r) "range" := ⟨_, ho, rfl⟩
  refine codeAny_of_tree ?_
  show wpAny _ A.in1 (do checkBuiltinCall "reversed.__new__" ⟨[.type "reversed", .ref r], []⟩; again (.builtin "reversed.__new__" ⟨[.type "reversed", .ref r], []⟩)) _ _ s
  refine wpAny_bind (wpAny_of_eq (F.newCall_reversed_1 _) (wpAny_pure ⟨plainId_quiet F.plain_reversed_new _, codeAny_builtin F.entry_reversed_new ?_⟩))
  rw [Around.under_plainId F.plain_reversed_new _]
  unfold Builtin.«reversed.__new__»
  refine wpAny_bind (wpAny_of_eq (newClass_reversed _) ?_)
  try dsimp only
  refine wpAny_bind (wpAny_of_eq (a := ()) (by first | rfl | kernel_rfl) ?_)
  refine wpAny_bind (wpAny_of_eq (a := ()) (by first | rfl | kernel_rfl) ?_)
  try dsimp only
  refine wpAny_bind (wpAny_specialOf hT F.slot_range_reversed.lookup ?_)
  try dsimp only
  refine wpAny_bind (wpAny_of_eq (F.slot_range_reversed.bind _) ?_)
  try dsimp only
  first
  | rw [if_neg (show ¬ ((Value.builtin "range.__reversed__" == Value.none) = true) from Bool.false_ne_true)]
  | (show wpAny _ _ (if (Value.builtin "range.__reversed__" == Value.none) = true then _ else _) _ _ _; rw [if_neg (show ¬ ((Value.builtin "range.__reversed__" == Value.none) = true) from Bool.false_ne_true)])
  refine wpAny_bind (wpAny_rule ?_)
  refine wpAny_bind (m := runValue (.call (.builtin "range.__reversed__") ⟨[.ref r], []⟩)) (show wpAny _ _ (call (.builtin "range.__reversed__") [.ref r]) _ _ _ from rev_range ho hs ?_)
  first
  | exact wpAny_pure h
  | exact wpAny_bind (wpAny_pure (wpAny_pure h))
theorem call_rev {r : Addr} {a b c : Int} {t u v : Tok} {Q : Value → Shared → Prop} (ho : s.heap.get? r = some (rngO a b c t u v)) (hs : revSmall a b c = true)
    (h : Q (.ref s.heap.objs.size) { s with heap := s.heap.push (ritO (a + (rangeSize a b c - 1) * c) (rangeSize a b c) (-c)) }) : wpAny (model prog w) A (call (.type "reversed") [.ref r]) Q E s := by
  refine callType_other (U := "range_iterator") (Q₁ := fun obj s₁ => obj = .ref s.heap.objs.size ∧ s₁ = { s with heap := s.heap.push (ritO (a + (rangeSize a b c - 1) * c) (rangeSize a b c) (-c)) }) (by decide +kernel) F.create_reversed ⟨_, _, F.mro_reversed⟩ F.made_reversed sub_ri_reversed (F.typeCall_reversed_1 _) (code_rev ho hs ⟨rfl, rfl⟩) ?_
  rintro obj s₁ ⟨rfl, rfl⟩
  exact ⟨⟨_, Heap.get?_push_size _ rfl, rfl⟩, h⟩
end
section
variable {G : Gx} {ρ : Rho} {σ : Led} {Q : PV → Rho → Led → Prop}
theorem CallP.reversed {a b c : Int} {n : Nat} (hs : revSmall a b c = true) (hn : rangeSize a b c = (n : Int)) (h : ∀ D, Q (.ref D) ρ ((D, .rit (a + ((n : Int) - 1) * c) n (-c)) :: σ)) : CallP G (.con (.type "reversed")) [.rng a b c] [] ρ σ Q := fun A bs im s fv vs kvs hA hS hf hv hk => by
  rw [hf.con_i]
  have : kvs = [] := by have := hk.1; simpa using this
  subst this
  obtain ⟨v, rfl, hv1⟩ := one_v hv
  obtain ⟨r, t, u, w, rfl, ho⟩ := hv1.rng_i
  refine ⟨keeps_type, call_rev (hS.l.him _ _ ho) hs ?_⟩
  rw [hn]
  have hS' := hS.pushLed (ritO (a + ((n : Int) - 1) * c) n (-c)) (.rit (a + ((n : Int) - 1) * c) n (-c)) s.toks (Heap.get?_push_size _ rfl)
  exact ⟨im, _, ρ, _, .refl, .ref, hS', h _⟩
end
end Mine.Tactic
end
section
open PySem PySem.W PyProof.Rows PySem.Calls
set_option Elab.async false
set_option maxRecDepth 100000
namespace Mine.Tactic

theorem Tr.rho {G : Gx} {α R : Type} {rel : PM → R → α → Prop} {t : Sem α} {ρ ρ' : Rho} {σ : Led} {Q : R → Rho → Led → Prop} (hs : ∀ p ∈ ρ', p ∈ ρ) (hn : (ρ'.map (·.1)).Nodup) (h : Tr G rel t ρ' σ Q) : Tr G rel t ρ σ Q :=
  fun A bs im s hA hS => h A bs im s hA (hS.rho hs hn)
theorem Tr.led {G : Gx} {α R : Type} {rel : PM → R → α → Prop} {t : Sem α} {ρ : Rho} {σ σ' : Led} {Q : R → Rho → Led → Prop} (hs : ∀ p ∈ σ', p ∈ σ) (hn : (σ.map (·.1)).Nodup → (σ'.map (·.1)).Nodup) (h : Tr G rel t ρ σ' Q) : Tr G rel t ρ σ Q :=
  fun A bs im s hA hS => h A bs im s hA (hS.sub hs (hn hS.l.nd))
theorem Tr.nd {G : Gx} {α R : Type} {rel : PM → R → α → Prop} {t : Sem α} {ρ : Rho} {σ : Led} {Q : R → Rho → Led → Prop} (h : (σ.map (·.1)).Nodup → Tr G rel t ρ σ Q) : Tr G rel t ρ σ Q :=
  fun A bs im s hA hS => h hS.l.nd A bs im s hA hS
theorem Tr.rho2 {G : Gx} {α R : Type} {rel : PM → R → α → Prop} {t : Sem α} {ρ ρ' : Rho} {σ : Led} {Q : R → Rho → Led → Prop} (ks : List String) (hs : ∀ p ∈ ρ', p ∈ ρ) (h : Tr G rel t ρ' σ Q) (he : ρ'.map (·.1) = ks := by rfl) (hn : ks.Nodup := by decide) : Tr G rel t ρ σ Q :=
  .rho hs (he ▸ hn) h
noncomputable def Sub (ρ' ρ : Rho) : Prop := ∀ p ∈ ρ', p ∈ ρ
theorem Sub.nil {ρ : Rho} : Sub [] ρ := fun _ h => nomatch h
theorem Sub.cons {q : String × PV} {r ρ : Rho} (h : q ∈ ρ) (k : Sub r ρ) : Sub (q :: r) ρ := fun p hp => by
  rcases List.mem_cons.mp hp with rfl | hp
  · exact h
  · exact k p hp
theorem ite_dec {P : Prop} [Decidable P] {X Y : Prop} (h1 : P → X) (h2 : ¬ P → Y) : if decide P = true then X else Y := by
  by_cases h : P
  · rw [if_pos (decide_eq_true h)]; exact h1 h
  · rw [if_neg (by simpa using h)]; exact h2 h
theorem ite_not {b : Bool} {X Y : Prop} (h : if b = true then Y else X) : if (!b) = true then X else Y := by cases b <;> exact h
theorem ite_b {b : Bool} {X Y : Prop} (h1 : b = true → X) (h2 : b = false → Y) : if b = true then X else Y := by cases b with | true => exact h1 rfl | false => exact h2 rfl

theorem SetR.tl {x y : String} {p q : PV} {ρ ρ' : Rho} (h : y ≠ x) (u : SetR x p ρ ρ') : SetR x p ((y, q) :: ρ) ((y, q) :: ρ') := .tail h u
section
variable {G : Gx} {ρ ρ' : Rho} {σ : Led} {Q : PV → Rho → Led → Prop}
theorem Op2.itemMn {value slice : Expr} {a : Addr} {l : List PV} {k : Nat} (hm : (a, LO.list l) ∈ σ) (hk : k < l.length) (hz : l.length ≤ 16777216) (h : Q (l.getD k .none) ρ σ) (hs : SubOk slice := by intro _ _; rfl) : Op2 G (subscriptTail value slice) (.ref a) (.int (k : Int)) ρ σ Q := by
  have e : pyIx (k : Int) l.length = k := by unfold pyIx; rw [if_neg (by walk_at "zo")]; rfl
  refine Op2.itemM hm (by walk_at "zo") (by walk_at "zo") hz ?_ h hs
  rw [e, List.getElem?_eq_getElem hk, List.getD_eq_getElem?_getD, List.getElem?_eq_getElem hk]; rfl
theorem As.nameN {y : String} {pos : Pos} {i j : Int} {Q : Rho → Led → Prop} (he : i = j) (hy : (y, NameKind.local) ∈ G.ns) (u : SetR y (.int j) ρ ρ') (h : Q ρ' σ) : As G (.Name (Str.ofString y) pos) (.int i) ρ σ Q := by
  subst he; exact As.name hy u h
end
noncomputable abbrev KInv (I : Rho → Led → Prop) (Q : Fl → Rho → Led → Prop) : Fl → Rho → Led → Prop := fun fl ρ₂ σ₂ => match fl with | .next | .cont => I ρ₂ σ₂ | .brk => Q .next ρ₂ σ₂ | .ret v => Q (.ret v) ρ₂ σ₂
noncomputable abbrev KBody (G : Gx) (body : List Stmt) (Q : Fl → Rho → Led → Prop) : Rho → Led → Prop := fun ρ₁ σ₁ => Ex G body ρ₁ σ₁ Q
theorem ForT.inv {G : Gx} {target : Expr} {body : List Stmt} {Q : Fl → Rho → Led → Prop} (I : Nat → Rho → Led → Prop) : ∀ (items : List PV) (k : Nat) {ρ : Rho} {σ : Led},
    (∀ i p ρ σ, items[i]? = some p → I (k + i) ρ σ → As G target p ρ σ (KBody G body (KInv (I (k + i + 1)) Q))) →
    I k ρ σ → (∀ ρ σ, I (k + items.length) ρ σ → Q .next ρ σ) → ForT G target body items ρ σ Q
  | [], k, ρ, σ, _, h, fin => fin _ _ h
  | p :: items, k, ρ, σ, turn, h, fin => by
    unfold ForT
    refine Con.mono (turn 0 p ρ σ rfl h) fun _ ρ₁ σ₁ h₁ => Tr.mono h₁ fun fl ρ₂ σ₂ h₂ => ?_
    have next : I (k + 1) ρ₂ σ₂ → ForT G target body items ρ₂ σ₂ Q := fun hI => ForT.inv I items (k + 1) (fun i q ρ σ hi hI => by
      have := turn (i + 1) q ρ σ hi (by rw [show k + (i + 1) = k + 1 + i by walk_at "zo"]; exact hI)
      rw [show k + (i + 1) = k + 1 + i by walk_at "zo"] at this; exact this) hI (fun ρ σ hI => fin ρ σ (by rw [List.length_cons, show k + (items.length + 1) = k + 1 + items.length by walk_at "zo"]; exact hI))
    cases fl with
    | next => exact next h₂
    | cont => exact next h₂
    | brk => exact h₂
    | ret v => exact h₂
noncomputable def fdAt (K : Frag) (a : Addr) : Option FuncData := match K.lookup a with
  | some ⟨_, _, .func fd, _⟩ => some fd
  | _ => none
theorem fnAt_of {C : Cx} {a : Addr} {fd : FuncData} (h : fdAt C.K a = some fd) (hc : ∀ h : Heap, (∀ b o, C.base.f b = some o → h.get? b = some o) → h.NoLimit ∧ h.CodeRec fd.code fd.qualname) : FnAt C a fd := by
  refine ⟨?_, hc⟩
  unfold fdAt at h
  split at h
  · rename_i c d f sl e
    cases h
    exact ⟨_, e, rfl⟩
  · cases h
end Mine.Tactic
end
section
open PySem PySem.W PyProof.Rows PySem.Calls
set_option Elab.async false
set_option maxRecDepth 100000
namespace Mine.Tactic
theorem ns_move {g h : Heap} {a : Addr} {m : Str → Option Value} (x : g.Ns a m) (e : ∀ o, g.get? a = some o → h.get? a = some o) : h.Ns a m := let ⟨o, es, ep, h1, h2, h3, h4⟩ := x; ⟨o, es, ep, e _ h1, h2, h3, h4⟩
structure TopC (K : Frag) (mg mb : Str → Option Value) : Prop where
  at' : ∀ h : Heap, K.In h → h.Ns mainGlobals mg ∧ h.Ns builtinsNs mb ∧ h.NoLimit
  bt : ∀ x : Str, x ≠ "__name__" → mb x = bootBuiltins x
  bm : ∀ h : Heap, K.In h → ∀ P : Addr, P ≠ 4 → h.BuiltinsAt mg P
theorem in_get {K : Frag} {g h : Heap} {a : Addr} (X : K.In g) (Y : K.In h) (e : (K.lookup a).isSome = true) : ∀ o, g.get? a = some o → h.get? a = some o := fun o q => by
  cases k : K.lookup a with
  | none => rw [k] at e; cases e
  | some o' => rw [X _ _ k] at q; cases q; exact Y _ _ k
theorem lookup_ne {K : Frag} {a b : Addr} {o : Obj} (h : a ≠ b) : List.lookup a ((b, o) :: K) = K.lookup a := by
  show (match a == b with | true => some o | false => K.lookup a) = _
  rw [beq_eq_false_iff_ne.mpr h]
theorem topC_of {K : Frag} {g : Heap} {p : Program} {loose : List Str} {mean : ExcName → Option Value} {mg mb : Str → Option Value} (X : K.In g) (T : Top p loose mean mg mb g) (h3 : (K.lookup 3).isSome = true) (h4 : nsIn K mainGlobals "__builtins__" = some (some (.ref 4))) :
    ∃ oB oS oM : Obj, TopC ((0, oB) :: (2, oS) :: (4, oM) :: K) mg mb ∧ Frag.In ((0, oB) :: (2, oS) :: (4, oM) :: K) g := by
  obtain ⟨o, es, ep, b1, b2, b3, b4⟩ := T.b
  obtain ⟨_, ⟨oS, _, _, c1, _⟩, _⟩ := T.nolimit
  obtain ⟨bm, ob, d1, d2, d3, d4, d5, d6⟩ := T.bmain
  have e4 := mg_of X T.g h4
  rw [d1] at e4
  have e4 : bm = 4 := by injection e4 with e4; injection e4
  subst e4
  have XI : Frag.In ((0, o) :: (2, oS) :: (4, ob) :: K) g := fun a o' e => by
    by_cases q : a = 0
    · subst q; cases e; exact b1
    · rw [lookup_ne q] at e
      by_cases q2 : a = 2
      · subst q2; cases e; exact c1
      · rw [lookup_ne q2] at e
        by_cases q4 : a = 4
        · subst q4; cases e; exact d3
        · rw [lookup_ne q4] at e; exact X _ _ e
  have l3 : (List.lookup 3 ((0, o) :: (2, oS) :: (4, ob) :: K)).isSome = true := h3
  exact ⟨o, oS, ob, ⟨fun h Y => ⟨ns_move T.g (in_get XI Y l3), ns_move T.b (in_get XI Y rfl), T.nolimit.at (in_get XI Y rfl)⟩, T.builtins,
    fun h Y P hP => ⟨4, ob, d1, d2, by decide, fun e => hP e.symm, in_get XI Y rfl _ d3, d4, d5, d6⟩⟩, XI⟩
section
variable {C : Cx} {mg mb : Str → Option Value}
theorem GlobP.K {x : String} {p : PV} {v : Value} (T : TopC C.K mg mb) (e : nsIn C.K mainGlobals (Str.ofString x) = some (some v)) (hv : ∀ im, VR im p v) (hn : plainB (Str.ofString x) = true) : GlobP C x p :=
  ⟨plainB_iff hn, v, hv, fun env A E Q s hk hg hb hx hin hq => by
    have X : C.K.In s.heap := fun a o q => hin a o q
    rw [loadName_read hk hx]
    exact loadGlobal_global (env := env) (by rw [hg]; exact (T.at' _ X).1) (mg_of X (T.at' _ X).1 e) hq⟩
theorem GlobP.B {x : String} {p : PV} {v : Value} (T : TopC C.K mg mb) (e : nsIn C.K mainGlobals (Str.ofString x) = some none) (hb : bootBuiltins (Str.ofString x) = some v) (hv : ∀ im, VR im p v) (hn : (plainB (Str.ofString x) && Str.ofString x != Str.ofString "__name__") = true) : GlobP C x p := by
  rw [Bool.and_eq_true, bne_iff_ne] at hn
  exact ⟨plainB_iff hn.1, v, hv, fun env A E Q s hk hg hbi hx hin hq => by
    have X : C.K.In s.heap := fun a o q => hin a o q
    rw [loadName_read hk hx]
    exact loadGlobal_builtin (env := env) (by rw [hg]; exact (T.at' _ X).1) (mg_none_of X (T.at' _ X).1 e) (by rw [hbi]; exact (T.at' _ X).2.1) ((T.bt _ hn.2).trans hb) hq⟩
theorem FnAt.K {a : Addr} {fd : FuncData} (T : TopC C.K mg mb) (h : fdAt C.K a = some fd) (hc : codeIn C.K fd.code fd.qualname = true) : FnAt C a fd := fnAt_of h fun g hin => by
  have X : C.K.In g := fun a o q => hin a o q
  exact ⟨(T.at' _ X).2.2, codeRec_of X hc⟩
end
theorem wellAll_ints {P : Params} {h : Heap} {im : PM} : ∀ (l : List Int) (vs : List Value), WellAll P h vs (ofPys (l.map .int)) → VRs im (l.map .int) vs
  | [], vs, w => by
    cases w; exact .nil
  | i :: l, vs, w => by
    cases w with
    | cons w1 w2 => cases w1; exact .cons .int (wellAll_ints l _ w2)
theorem well_list {P : Params} {h : Heap} {a : Addr} {l : List Int} {im : PM} (w : Well P h (.ref a) (ofPy (.list (l.map .int)))) : ∃ vs n, h.get? a = some (lstO vs n) ∧ VRs im (l.map .int) vs := by
  generalize hd : ofPy (.list (l.map .int)) = d at w
  cases w with
  | list ho hw =>
    have : WData.list (ofPys (l.map .int)) = WData.list _ := hd
    cases this
    exact ⟨_, _, ho, wellAll_ints l _ hw⟩
  | bytearray _ => cases hd
  | tuple _ _ => cases hd
  | dict _ _ => cases hd
  | set _ _ _ _ => cases hd
  | frozenset _ _ _ _ => cases hd
  | obj _ _ _ _ => cases hd
end Mine.Tactic
end
section
open PySem PySem.W PyProof.Rows PySem.Calls
set_option Elab.async false
set_option maxRecDepth 100000
namespace Mine.Tactic
structure ZipPlaces (z TI TO i1 i2 : Addr) (f1 f2 : List Addr) : Prop where
  TIz : TI ≠ z
  TOz : TO ≠ z
  TITO : TI ≠ TO
  i1z : i1 ≠ z
  i2z : i2 ≠ z
  i1TO : i1 ≠ TO
  i2TO : i2 ≠ TO
  TIi1 : TI ≠ i1
  TIi2 : TI ≠ i2
  i12 : i1 ≠ i2
  zf1 : z ∉ f1
  zf2 : z ∉ f2
  TOf1 : TO ∉ f1
  TOf2 : TO ∉ f2
  i1f2 : i1 ∉ f2
  i2f1 : i2 ∉ f1
section
variable {prog : Program} {w : World} {A : Around} {E : Value → Shared → Prop} {s : Shared} {z TI TO i1 i2 : Addr} {f1 f2 : List Addr} {n1 n2 : Nat} {P1 P2 : Nat → Value → Prop} {S1 S2 : Nat → Heap → Prop} {k : Nat} {a b : Value}
theorem zipD_item {Q : Value → Shared → Prop} (D1 : Draws prog w A i1 f1 n1 P1 S1) (D2 : Draws prog w A i2 f2 n2 P2 S2) (Z : ZipPlaces z TI TO i1 i2 f1 f2)
    (hz : IsZip s.heap z TI TO .none) (hTI : IsPair s.heap TI (.ref i1) (.ref i2)) (hTO : IsPair s.heap TO a b) (h1 : S1 k s.heap) (h2 : S2 k s.heap) (l1 : k < n1) (l2 : k < n2)
    (hQ : ∀ x y h' tk, P1 k x → P2 k y → IsZip h' z TI TO (rawInt s.heap.objs.size) → IsPair h' TO x y → S1 (k + 1) h' → S2 (k + 1) h' → IsPair h' s.heap.objs.size x y →
      (∀ c o, c ≠ z → c ≠ TO → c ≠ i1 → c ≠ i2 → s.heap.get? c = some o → h'.get? c = some o) → Q (.ref s.heap.objs.size) { s with heap := h', toks := tk }) :
    wpAny (model prog w) A (Builtin.«zip.__next__» ⟨[.ref z], []⟩) (fun fin s' => ∃ v, fin = .done (.ret v) ∧ Q v s') E s := by
  obtain ⟨hp, gs, dr, tk₀, os⟩ := s
  show wpAny _ _ (field (.ref z) 2 >>= _) _ _ _
  refine wpAny_bind (wpAny_field hz rfl (x := .bool false) rfl ?_)
  show wpAny _ _ (field (.ref z) 3 >>= _) _ _ _
  refine wpAny_bind (wpAny_field hz rfl (x := .ref TI) rfl ?_)
  refine wpAny_bind (wpAny_seqItems hTI rfl ?_)
  show wpAny _ _ (Builtin.SmallTypes.ownedTupleIsFree (.ref z) >>= _) _ _ _
  refine wpAny_bind ?_
  unfold Builtin.SmallTypes.ownedTupleIsFree
  refine wpAny_bind (wpAny_field hz rfl (x := .none) rfl (wpAny_pure ?_))
  simp only [if_true]
  refine wpAny_bind (wpAny_rule ?_)
  refine wpAny_bind (wpAny_field hz rfl (x := .ref TO) rfl ?_)
  refine wpAny_bind (wpAny_setField_rec hz (by simp) fun g₁ hz₁ c₁ => ?_)
  replace hz₁ : IsZip g₁ z TI TO .ellipsis := hz₁
  replace c₁ : Heap.SameBut z hp g₁ := c₁
  refine wpAny_bind ?_
  simp only [List.zipIdx_cons, List.zipIdx_nil, List.forIn_cons, List.forIn_nil]
  refine wpAny_bind (wpAny_bind (wpAny_onRaise ?_))
  show wpAny _ _ (Builtin.SmallTypes.nextOf (.ref i1) >>= _) _ _ _
  have k1 : S1 k g₁ := D1.frame _ _ _ h1 fun b hb o e => c₁.extBut b o (fun q => Z.zf1 (q ▸ hb)) e
  refine wpAny_bind (D1.item k _ _ _ l1 k1 fun x g₂ t₂ px k2 c₂ => wpAny_pure ?_)
  replace c₂ : Heap.SameBut i1 g₁ g₂ := c₂
  have o₂ : IsPair g₂ TO a b := c₂.extBut _ _ Z.i1TO.symm (c₁.extBut _ _ Z.TOz hTO)
  refine wpAny_bind (wpAny_seqItems o₂ rfl ?_)
  refine wpAny_bind (wpAny_updateSeq_pair o₂ fun g₃ o₃ c₃ => ?_)
  replace o₃ : IsPair g₃ TO x b := o₃
  replace c₃ : Heap.SameBut TO g₂ g₃ := c₃
  refine wpAny_bind (wpAny_letGo (wpAny_pure ?_))
  refine wpAny_bind (wpAny_bind (wpAny_onRaise ?_))
  show wpAny _ _ (Builtin.SmallTypes.nextOf (.ref i2) >>= _) _ _ _
  have m3 : S2 k g₃ := D2.frame _ _ _ h2 fun b hb o e => c₃.extBut b o (fun q => Z.TOf2 (q ▸ hb)) (c₂.extBut b o (fun q => Z.i1f2 (q ▸ hb)) (c₁.extBut b o (fun q => Z.zf2 (q ▸ hb)) e))
  refine wpAny_bind (D2.item k _ _ _ l2 m3 fun y g₄ t₄ py m4 c₄ => wpAny_pure ?_)
  replace c₄ : Heap.SameBut i2 g₃ g₄ := c₄
  have o₄ : IsPair g₄ TO x b := c₄.extBut _ _ Z.i2TO.symm o₃
  refine wpAny_bind (wpAny_seqItems o₄ rfl ?_)
  refine wpAny_bind (wpAny_updateSeq_pair o₄ fun g₅ o₅ c₅ => ?_)
  replace o₅ : IsPair g₅ TO x y := o₅
  replace c₅ : Heap.SameBut TO g₄ g₅ := c₅
  refine wpAny_bind (wpAny_letGo (wpAny_pure (wpAny_pure ?_)))
  refine wpAny_bind (wpAny_seqItems o₅ rfl ?_)
  refine wpAny_bind (wpAny_newTuple ?_)
  have sz : g₅.objs.size = hp.objs.size := by rw [c₅.1, c₄.1, c₃.1, c₂.1, c₁.1]
  have hz₅ : IsZip g₅ z TI TO .ellipsis := c₅.extBut _ _ Z.TOz.symm (c₄.extBut _ _ Z.i2z.symm (c₃.extBut _ _ Z.TOz.symm (c₂.extBut _ _ Z.i1z.symm hz₁)))
  have kp : ∀ c o, c ≠ z → c ≠ TO → c ≠ i1 → c ≠ i2 → hp.get? c = some o → g₅.get? c = some o := fun c o a1 a2 a3 a4 e =>
    c₅.extBut _ _ a2 (c₄.extBut _ _ a4 (c₃.extBut _ _ a2 (c₂.extBut _ _ a3 (c₁.extBut _ _ a1 e))))
  have n1' : S1 (k + 1) g₅ := D1.frame _ _ _ k2 fun b hb o e => c₅.extBut b o (fun q => Z.TOf1 (q ▸ hb)) (c₄.extBut b o (fun q => Z.i2f1 (q ▸ hb)) (c₃.extBut b o (fun q => Z.TOf1 (q ▸ hb)) e))
  have n2' : S2 (k + 1) g₅ := D2.frame _ _ _ m4 fun b hb o e => c₅.extBut b o (fun q => Z.TOf2 (q ▸ hb)) e
  have zl : z < g₅.objs.size := Heap.lt_size hz₅
  show wpAny _ _ (Builtin.SmallTypes.ownedTupleHandOut (.ref z) (.ref g₅.objs.size) >>= _) _ _ _
  refine wpAny_bind ?_
  unfold Builtin.SmallTypes.ownedTupleHandOut
  have hz₆ : IsZip (g₅.push { cls := .type "tuple", data := .seq #[x, y] }) z TI TO .ellipsis := Heap.get?_push_of_some _ hz₅
  refine wpAny_bind (wpAny_setField_rec hz₆ (by simp) fun g₇ hz₇ c₇ => ?_)
  replace hz₇ : IsZip g₇ z TI TO (rawInt g₅.objs.size) := hz₇
  refine wpAny_setField_rec hz₇ (by simp) fun g₈ hz₈ c₈ => ?_
  replace hz₈ : IsZip g₈ z TI TO (rawInt g₅.objs.size) := hz₈
  have up : ∀ c o, c ≠ z → g₅.get? c = some o → g₈.get? c = some o := fun c o a1 e => c₈.extBut _ _ a1 (c₇.extBut _ _ a1 (Heap.get?_push_of_some _ e))
  have T₈ : IsPair g₈ g₅.objs.size x y := c₈.extBut _ _ (Nat.ne_of_gt zl) (c₇.extBut _ _ (Nat.ne_of_gt zl) (Heap.get?_push_size _ rfl))
  rw [sz] at hz₈ T₈
  refine wpAny_pure ⟨_, rfl, ?_⟩
  show Q (.ref g₅.objs.size) _
  rw [sz]
  exact hQ x y g₈ t₄ px py hz₈ (up _ _ Z.TOz o₅) (D1.frame _ _ _ n1' fun b hb o e => up b o (fun q => Z.zf1 (q ▸ hb)) e) (D2.frame _ _ _ n2' fun b hb o e => up b o (fun q => Z.zf2 (q ▸ hb)) e) T₈
    fun c o a1 a2 a3 a4 e => up c o a1 (kp c o a1 a2 a3 a4 e)
theorem zipD_end {Q : Fin → Shared → Prop} (D1 : Draws prog w A i1 f1 n1 P1 S1) (D2 : Draws prog w A i2 f2 n2 P2 S2) (Z : ZipPlaces z TI TO i1 i2 f1 f2)
    (hz : IsZip s.heap z TI TO .none) (hTI : IsPair s.heap TI (.ref i1) (.ref i2)) (hTO : IsPair s.heap TO a b) (h1 : S1 k s.heap) (h2 : S2 k s.heap) (hend : k = n1 ∨ (k < n1 ∧ k = n2))
    (hE : ∀ h' e tk, (∀ c o, c ≠ z → c ≠ TO → c ≠ i1 → c ≠ i2 → s.heap.get? c = some o → h'.get? c = some o) → (∃ o, h'.get? e = some o ∧ o.cls = .type "StopIteration") → E (.ref e) { s with heap := h', toks := tk }) :
    wpAny (model prog w) A (Builtin.«zip.__next__» ⟨[.ref z], []⟩) Q E s := by
  obtain ⟨hp, gs, dr, tk₀, os⟩ := s
  show wpAny _ _ (field (.ref z) 2 >>= _) _ _ _
  refine wpAny_bind (wpAny_field hz rfl (x := .bool false) rfl ?_)
  show wpAny _ _ (field (.ref z) 3 >>= _) _ _ _
  refine wpAny_bind (wpAny_field hz rfl (x := .ref TI) rfl ?_)
  refine wpAny_bind (wpAny_seqItems hTI rfl ?_)
  show wpAny _ _ (Builtin.SmallTypes.ownedTupleIsFree (.ref z) >>= _) _ _ _
  refine wpAny_bind ?_
  unfold Builtin.SmallTypes.ownedTupleIsFree
  refine wpAny_bind (wpAny_field hz rfl (x := .none) rfl (wpAny_pure ?_))
  simp only [if_true]
  refine wpAny_bind (wpAny_rule ?_)
  refine wpAny_bind (wpAny_field hz rfl (x := .ref TO) rfl ?_)
  refine wpAny_bind (wpAny_setField_rec hz (by simp) fun g₁ hz₁ c₁ => ?_)
  replace hz₁ : IsZip g₁ z TI TO .ellipsis := hz₁
  replace c₁ : Heap.SameBut z hp g₁ := c₁
  refine wpAny_bind ?_
  simp only [List.zipIdx_cons, List.zipIdx_nil, List.forIn_cons, List.forIn_nil]
  refine wpAny_bind (wpAny_bind (wpAny_onRaise ?_))
  show wpAny _ _ (Builtin.SmallTypes.nextOf (.ref i1) >>= _) _ _ _
  have k1 : S1 k g₁ := D1.frame _ _ _ h1 fun b hb o e => c₁.extBut b o (fun q => Z.zf1 (q ▸ hb)) e
  rcases hend with rfl | ⟨l1, rfl⟩
  · refine wpAny_bind (D1.done _ _ _ k1 fun g₂ e c₂ he => ?_)
    obtain ⟨oe, hoe, hce⟩ := he
    replace c₂ : Heap.ExtBut i1 g₁ g₂ := c₂
    have hz₂ : IsZip g₂ z TI TO .ellipsis := c₂ _ _ Z.i1z.symm hz₁
    have ez : e ≠ z := fun q => by subst q; rw [hz₂] at hoe; cases hoe; simp at hce
    refine wpAny_setField_rec hz₂ (by simp) fun g₃ _ c₃ => hE g₃ e _ (fun c o a1 _ a3 _ q => c₃.extBut _ _ a1 (c₂ _ _ a3 (c₁.extBut _ _ a1 q))) ⟨oe, c₃.extBut _ _ ez hoe, hce⟩
  · refine wpAny_bind (D1.item k _ _ _ l1 k1 fun x g₂ t₂ px k2 c₂ => wpAny_pure ?_)
    replace c₂ : Heap.SameBut i1 g₁ g₂ := c₂
    have o₂ : IsPair g₂ TO a b := c₂.extBut _ _ Z.i1TO.symm (c₁.extBut _ _ Z.TOz hTO)
    refine wpAny_bind (wpAny_seqItems o₂ rfl ?_)
    refine wpAny_bind (wpAny_updateSeq_pair o₂ fun g₃ o₃ c₃ => ?_)
    replace c₃ : Heap.SameBut TO g₂ g₃ := c₃
    refine wpAny_bind (wpAny_letGo (wpAny_pure ?_))
    refine wpAny_bind (wpAny_bind (wpAny_onRaise ?_))
    show wpAny _ _ (Builtin.SmallTypes.nextOf (.ref i2) >>= _) _ _ _
    have m3 : S2 k g₃ := D2.frame _ _ _ h2 fun b hb o e => c₃.extBut b o (fun q => Z.TOf2 (q ▸ hb)) (c₂.extBut b o (fun q => Z.i1f2 (q ▸ hb)) (c₁.extBut b o (fun q => Z.zf2 (q ▸ hb)) e))
    refine wpAny_bind (D2.done _ _ _ m3 fun g₄ e c₄ he => ?_)
    obtain ⟨oe, hoe, hce⟩ := he
    replace c₄ : Heap.ExtBut i2 g₃ g₄ := c₄
    have hz₄ : IsZip g₄ z TI TO .ellipsis := c₄ _ _ Z.i2z.symm (c₃.extBut _ _ Z.TOz.symm (c₂.extBut _ _ Z.i1z.symm hz₁))
    have ez : e ≠ z := fun q => by subst q; rw [hz₄] at hoe; cases hoe; simp at hce
    refine wpAny_setField_rec hz₄ (by simp) fun g₅ _ c₅ => hE g₅ e _ (fun c o a1 a2 a3 a4 q => c₅.extBut _ _ a1 (c₄ _ _ a4 (c₃.extBut _ _ a2 (c₂.extBut _ _ a3 (c₁.extBut _ _ a1 q))))) ⟨oe, c₅.extBut _ _ ez hoe, hce⟩
end
end Mine.Tactic
end
section
open PySem PySem.W PyProof.Rows PySem.Calls
open Builtin
set_option Elab.async false
set_option maxRecDepth 100000
namespace Mine.Tactic
structure Iters (v : Value) (o : Obj) (C : Heap → Prop) : Prop where
  run : ∀ {prog : Program} {w : World} {A : Around} {E : Value → Shared → Prop} {s : Shared} {Q : Value → Shared → Prop}, C s.heap → Q (.ref s.heap.objs.size) { s with heap := s.heap.push o } → wpAny (model prog w) A (pyIter v) Q E s
  push : ∀ (h : Heap) (o' : Obj), C h → C (h.push o')
  nf : o.isFreed = false
theorem Iters.list (l : Addr) (vs : Array Value) : Iters (.ref l) { cls := .type "list_iterator", data := .fields #[.ref l, .int 0 0] } (fun h => h.IsList l vs) :=
  ⟨fun h q => wpAny_pyIter_list h q, fun h o' c => c.push o', rfl⟩
theorem Iters.str {x : Str} {t : Tok} (ha : x.cps.all (· < 128) = true) : Iters (.str x t) { cls := .type "str_ascii_iterator", data := .fields #[.str x t, .int 0 0] } (fun _ => True) :=
  ⟨fun _ q => wpAny_pyIter_ascii ha q, fun _ _ c => c, rfl⟩
section
variable (o1 o2 : Obj) (h : Heap)
noncomputable abbrev zH1 : Heap := h.push o1
noncomputable abbrev zH2 : Heap := (zH1 o1 h).push o2
noncomputable abbrev zH3 : Heap := (zH2 o1 o2 h).push { cls := .type "tuple", data := .seq #[.ref h.objs.size, .ref (zH1 o1 h).objs.size] }
noncomputable abbrev zH4 : Heap := (zH3 o1 o2 h).push { cls := .type "tuple", data := .seq #[.none, .none] }
noncomputable abbrev zH5 : Heap := (zH4 o1 o2 h).push { cls := .type "zip", data := .fields #[.none, .bool false, .bool false, .ref (zH2 o1 o2 h).objs.size, .ref (zH3 o1 o2 h).objs.size] }
end
set_option maxHeartbeats 1000000 in
theorem meets_zipD {v1 v2 : Value} {o1 o2 : Obj} {C1 C2 : Heap → Prop} (I1 : Iters v1 o1 C1) (I2 : Iters v2 o2 C2) :
    Meets (Builtin.«zip.__new__» ⟨[.type "zip", v1, v2], []⟩) (fun _ R s => C1 s.heap ∧ C2 s.heap ∧ R (.ok (.ret (.ref (zH4 o1 o2 s.heap).objs.size))) { s with heap := zH5 o1 o2 s.heap }) :=
  .of_wp fun prog w A R s h => by
    obtain ⟨hp, g, d, tk, os⟩ := s; obtain ⟨h1, h2, h⟩ := h
    have hsub := sub_zip
    have hL1 : C1 (Shared.heap ⟨hp, g, d, tk, os⟩) := h1
    have hL2 : C2 (Shared.heap ⟨hp.push o1, g, d, tk, os⟩) := I2.push _ _ h2
    wp_walk using I1.run hL1, I2.run hL2
    exact ⟨_, rfl, h⟩
theorem call_zipD {prog : Program} {w : World} {A : Around} {E : Value → Shared → Prop} {s : Shared} {v1 v2 : Value} {o1 o2 : Obj} {C1 C2 : Heap → Prop} {Q : Value → Shared → Prop} (I1 : Iters v1 o1 C1) (I2 : Iters v2 o2 C2) (c1 : C1 s.heap) (c2 : C2 s.heap)
    (h : ∀ h', IsZip h' (s.heap.objs.size + 4) (s.heap.objs.size + 2) (s.heap.objs.size + 3) .none → IsPair h' (s.heap.objs.size + 2) (.ref s.heap.objs.size) (.ref (s.heap.objs.size + 1)) →
      IsPair h' (s.heap.objs.size + 3) .none .none → h'.get? s.heap.objs.size = some o1 → h'.get? (s.heap.objs.size + 1) = some o2 →
      (∀ c o, s.heap.get? c = some o → h'.get? c = some o) → Q (.ref (s.heap.objs.size + 4)) { s with heap := h' }) :
    wpAny (model prog w) A (call (.type "zip") [v1, v2]) Q E s := by
  refine callType_new F.called_zip (by decide) (F.typeCall_zip_2 _ _) (F.newCall_zip_2 _ _) (fun obj => F.args_object_init_3 obj _ _) F.entry_zip_new (meets_zipD I1 I2) ⟨c1, c2, ?_⟩
  have z1 : (zH1 o1 s.heap).objs.size = s.heap.objs.size + 1 := Heap.size_push ..
  have z2 : (zH2 o1 o2 s.heap).objs.size = s.heap.objs.size + 2 := by rw [Heap.size_push, z1]
  have z3 : (zH3 o1 o2 s.heap).objs.size = s.heap.objs.size + 3 := by rw [Heap.size_push, z2]
  have z4 : (zH4 o1 o2 s.heap).objs.size = s.heap.objs.size + 4 := by rw [Heap.size_push, z3]
  have g5 : (zH5 o1 o2 s.heap).get? (zH4 o1 o2 s.heap).objs.size = some _ := Heap.get?_push_size _ rfl
  have g4 : (zH5 o1 o2 s.heap).get? (zH3 o1 o2 s.heap).objs.size = some _ := Heap.get?_push_of_some _ (Heap.get?_push_size _ rfl)
  have g3 : (zH5 o1 o2 s.heap).get? (zH2 o1 o2 s.heap).objs.size = some _ := Heap.get?_push_of_some _ (Heap.get?_push_of_some _ (Heap.get?_push_size _ rfl))
  have g2 : (zH5 o1 o2 s.heap).get? (zH1 o1 s.heap).objs.size = some _ := Heap.get?_push_of_some _ (Heap.get?_push_of_some _ (Heap.get?_push_of_some _ (Heap.get?_push_size _ I2.nf)))
  have g1 : (zH5 o1 o2 s.heap).get? s.heap.objs.size = some _ := Heap.get?_push_of_some _ (Heap.get?_push_of_some _ (Heap.get?_push_of_some _ (Heap.get?_push_of_some _ (Heap.get?_push_size _ I1.nf))))
  show _ ∧ _
  rw [z2, z3, z4] at g5
  rw [z1, z2] at g3
  rw [z3] at g4
  rw [z1] at g2
  rw [z4]
  exact ⟨⟨_, g5, rfl⟩, h _ g5 g3 g4 g1 g2 fun c o x =>
    Heap.get?_push_of_some _ (Heap.get?_push_of_some _ (Heap.get?_push_of_some _ (Heap.get?_push_of_some _ (Heap.get?_push_of_some _ x))))⟩
structure ZipSrc (C : Cx) (im : PM) (p : PV) (v : Value) (items : List PV) (o : Obj) (Cd : Heap → Prop) (ls : List Addr) : Prop where
  it : Iters v o Cd
  cd : ∀ h : Heap, (∀ a o, im.f a = some o → h.get? a = some o) → Cd h
  lm : ∀ b ∈ ls, ∃ o, im.f b = some o
  dr : ∀ (A : Around) (I : Addr), A.handled = none → (∀ b ∈ ls, b ≠ I) → ∃ P S, Draws C.prog C.w A I (I :: ls) items.length P S ∧ (∀ h : Heap, h.get? I = some o → (∀ a o, im.f a = some o → h.get? a = some o) → S 0 h) ∧ (∀ i v p im', PMle im im' → P i v → items[i]? = some p → VR im' p v)
theorem ZipSrc.str {C : Cx} {im : PM} {l : List Nat} {v : Value} (hv : VR im (.str l) v) (ha : l.all (· < 128) = true) : ∃ o Cd ls, ZipSrc C im (.str l) v (signs l) o Cd ls := by
  obtain ⟨t, rfl⟩ := hv.str_i
  have ha' : (⟨l.toArray⟩ : Str).cps.all (· < 128) = true := by show l.toArray.all _ = true; rw [List.all_toArray]; exact ha
  have hlen : (⟨l.toArray⟩ : Str).cps.size = (signs l).length := by simp [signs]
  refine ⟨_, _, [], .str ha', fun _ _ => trivial, fun _ h => (nomatch h), fun A I hA _ => ?_⟩
  have D := Draws.strAscii (prog := C.prog) (w := C.w) hA I ⟨l.toArray⟩ t
  rw [hlen] at D
  refine ⟨_, _, D, fun h e _ => ⟨_, e, rfl, rfl⟩, fun i v p im' _ hP hp => ?_⟩
  obtain ⟨c, u, hc, rfl⟩ := hP
  have hc' : l[i]? = some c := by simpa using hc
  have : p = .str [c] := by
    unfold signs at hp; rw [List.getElem?_map, hc'] at hp; simpa using hp.symm
  subst this; exact VR.str
theorem ZipSrc.lst {C : Cx} {im : PM} {l : List PV} {v : Value} (hv : VR im (.lst l) v) : ∃ o Cd ls, ZipSrc C im (.lst l) v l o Cd ls := by
  obtain ⟨a, vs, n, rfl, ho, hvs⟩ := hv.lst_i
  have hlen : vs.toArray.size = l.length := by simp [hvs.length]
  refine ⟨_, _, [a], .list a vs.toArray, fun h k => ⟨_, k _ _ ho, rfl, n, rfl⟩, fun b hb => by rw [List.mem_singleton.mp hb]; exact ⟨_, ho⟩, fun A I hA hne => ?_⟩
  have D := Draws.list (prog := C.prog) (w := C.w) hA I a (hne a (.head _)) vs.toArray
  rw [hlen] at D
  refine ⟨_, _, D, fun h e k => ⟨⟨_, e, rfl, rfl⟩, ⟨_, k _ _ ho, rfl, n, rfl⟩⟩, fun i v p im' hm hP hp => ?_⟩
  obtain ⟨u, hu, hr⟩ := hvs.get hp
  have hP' : vs[i]? = some v := by simpa using hP
  rw [hu] at hP'; cases hP'; exact hr.mono hm
noncomputable def pairs (ps qs : List PV) : List PV := (ps.zip qs).map fun x => .tup [x.1, x.2]
theorem pairs_get {ps qs : List PV} {i : Nat} {p : PV} (h : (pairs ps qs)[i]? = some p) : ∃ a b, ps[i]? = some a ∧ qs[i]? = some b ∧ p = .tup [a, b] := by
  unfold pairs at h
  rw [List.getElem?_map, Option.map_eq_some_iff] at h
  obtain ⟨⟨a, b⟩, h1, rfl⟩ := h
  obtain ⟨h2, h3⟩ := List.getElem?_zip_eq_some.mp h1
  exact ⟨a, b, h2, h3, rfl⟩
theorem pairs_len (ps qs : List PV) : (pairs ps qs).length = min ps.length qs.length := by unfold pairs; rw [List.length_map, List.length_zip]
section
variable {G : Gx} {A : Around} {im : PM} {h' : Heap} {z TI TO i1 i2 : Addr} {l1 l2 : List Addr} {ps qs : List PV} {P1 P2 : Nat → Value → Prop} {S1 S2 : Nat → Heap → Prop} {elts : List Expr} {kk : Nat} {tpos : Pos}
theorem IsIt.zip (hA : AOk G.n A) (D1 : Draws G.C.prog G.C.w A.in1 i1 (i1 :: l1) ps.length P1 S1) (D2 : Draws G.C.prog G.C.w A.in1 i2 (i2 :: l2) qs.length P2 S2) (Z : ZipPlaces z TI TO i1 i2 (i1 :: l1) (i2 :: l2))
    (hz : IsZip h' z TI TO .none) (hTI : IsPair h' TI (.ref i1) (.ref i2)) (hTO : IsPair h' TO .none .none) (h1 : S1 0 h') (h2 : S2 0 h') (m1 : ∀ b ∈ l1, ∃ o, im.f b = some o) (m2 : ∀ b ∈ l2, ∃ o, im.f b = some o)
    (v1 : ∀ i v p im', PMle im im' → P1 i v → ps[i]? = some p → VR im' p v) (v2 : ∀ i v p im', PMle im im' → P2 i v → qs[i]? = some p → VR im' p v) :
    IsIt G A im h' (.Tuple elts kk tpos) [] [] (pairs ps qs) z ([z, TI, TO, i1, i2] ++ (l1 ++ l2)) [z, TI, TO, i1, i2]
      (fun i h₀ v h₂ => ∃ x y T, v = .ref T ∧ P1 i x ∧ P2 i y ∧ h₀.get? T = none ∧ IsPair h₂ T x y)
      (fun i h => IsZip h z TI TO .none ∧ IsPair h TI (.ref i1) (.ref i2) ∧ (∃ a b, IsPair h TO a b) ∧ S1 i h ∧ S2 i h) where
  sub := fun b hb => List.mem_append_left _ hb
  frame := fun i h h' ⟨a, b, ⟨c, d, e⟩, f, g⟩ k => by
    have k' : ∀ b ∈ [z, TI, TO, i1, i2], ∀ o, h.get? b = some o → h'.get? b = some o := fun b hb o q => k b (List.mem_append_left _ hb) o q
    refine ⟨k' z (by simp) _ a, k' TI (by simp) _ b, ⟨c, d, k' TO (by simp) _ e⟩, D1.frame _ _ _ f fun b hb o q => k b ?_ o q, D2.frame _ _ _ g fun b hb o q => k b ?_ o q⟩
    · rcases List.mem_cons.mp hb with rfl | hb
      · simp
      · exact List.mem_append_right _ (List.mem_append_left _ hb)
    · rcases List.mem_cons.mp hb with rfl | hb
      · simp
      · exact List.mem_append_right _ (List.mem_append_right _ hb)
  next := fun i s Q E hi hS hQ => by
    obtain ⟨a, b, ⟨c, d, e⟩, f, g⟩ := hS
    rw [pairs_len] at hi
    have hT : s.TypeIs (.ref z) "zip" := ⟨_, a, rfl⟩
    have lt : ∀ {c o}, s.heap.get? c = some o → s.heap.objs.size ≠ c := fun e => Nat.ne_of_gt (Heap.lt_size e)
    unfold pyNext
    refine wpAny_bind (wpAny_attempt (wpAny_callSpecial?_slot (name := Str.ofString "__next__") hT F.slot_zip_next
      (wpAny_call_entry F.slot_zip_next hT F.entry_zip_next (zipD_item D1 D2 Z a b e f g (by walk_at "zo") (by walk_at "zo") fun x y h₁ tk px py z₁ o₁ s₁ s₂ t₁ k₁ => wpAny_pure (hQ _ h₁ tk fun Q' hq => ?_)) (F.args_zip_next_1 _))))
    refine wpAny_letOwnedTupleGo_zip z₁ fun h₂ z₂ c₂ => ?_
    replace c₂ : Heap.SameBut z h₁ h₂ := c₂
    have zT : s.heap.objs.size ≠ z := lt a
    refine hq h₂ ⟨x, y, _, rfl, px, py, get?_size_none _, c₂.extBut _ _ zT t₁⟩ ⟨z₂, c₂.extBut _ _ Z.TIz (k₁ _ _ Z.TIz Z.TITO Z.TIi1 Z.TIi2 b), ⟨x, y, c₂.extBut _ _ Z.TOz o₁⟩, D1.frame _ _ _ s₁ fun b hb o q => c₂.extBut b o (fun w => Z.zf1 (w ▸ hb)) q, D2.frame _ _ _ s₂ fun b hb o q => c₂.extBut b o (fun w => Z.zf2 (w ▸ hb)) q⟩ fun b o hb q => ?_
    simp only [List.mem_cons, List.not_mem_nil, or_false, not_or] at hb
    exact c₂.extBut b o hb.1 (k₁ b o hb.1 hb.2.2.1 hb.2.2.2.1 hb.2.2.2.2 q)
  done := fun s Q E hS hQ => by
    obtain ⟨a, b, ⟨c, d, e⟩, f, g⟩ := hS
    have hT : s.TypeIs (.ref z) "zip" := ⟨_, a, rfl⟩
    have hend : (pairs ps qs).length = ps.length ∨ ((pairs ps qs).length < ps.length ∧ (pairs ps qs).length = qs.length) := by rw [pairs_len]; walk_at "zo"
    unfold pyNext
    refine wpAny_bind (wpAny_attempt (wpAny_callSpecial?_slot (name := Str.ofString "__next__") hT F.slot_zip_next
      (wpAny_call_entry F.slot_zip_next hT F.entry_zip_next (zipD_end D1 D2 Z a b e f g hend fun h₁ x tk k₁ hx => ?_) (F.args_zip_next_1 _))))
    obtain ⟨o, ho, hc⟩ := hx
    refine wpAny_bind (wpAny_isInstance (T := "StopIteration") (b := true) ⟨o, ho, hc⟩ isSubtype_stop ?_)
    refine wpAny_pure (hQ h₁ tk fun b o hb q => ?_)
    simp only [List.mem_cons, List.not_mem_nil, or_false, not_or] at hb
    exact k₁ b o hb.1 hb.2.2.1 hb.2.2.2.1 hb.2.2.2.2 q
  self := fun i s Q E hS hq => wpAny_pyIter_zip hS.1 hq
  st := ⟨hz, hTI, ⟨_, _, hTO⟩, h1, h2⟩
  wrI := .head _
  fps := fun b hb hn => by
    rcases List.mem_append.mp hb with hb | hb
    · exact absurd hb hn
    · rcases List.mem_append.mp hb with hb | hb
      · exact .inl (m1 b hb)
      · exact .inl (m2 b hb)
  back := fun p hp => nomatch hp
  has := fun i h ⟨a, b, ⟨c, d, e⟩, f, g⟩ b' hb => by
    simp only [List.mem_cons, List.not_mem_nil, or_false] at hb
    rcases hb with rfl | rfl | rfl | rfl | rfl
    · exact ⟨_, a⟩
    · exact ⟨_, b⟩
    · exact ⟨_, e⟩
    · exact D1.live _ _ f
    · exact D2.live _ _ g
  val := fun im' i h₀ v h₂ hm hh ⟨x, y, T, e, px, py, hn, hp⟩ p hip => by
    obtain ⟨a, b, ha, hb, rfl⟩ := pairs_get hip
    subst e
    have iT : im'.f T = none := by
      cases q : im'.f T with
      | none => rfl
      | some o => rw [hh T o q] at hn; cases hn
    refine ⟨im'.put T (tupO [x, y] 0), ⟨PM.put_keep iT _, fun c o q => ?_, rfl⟩, .tup (PM.put_self ..) (.cons (v1 i x a _ (hm.trans (PM.put_keep iT _)) px ha) (.cons (v2 i y b _ (hm.trans (PM.put_keep iT _)) py hb) .nil))⟩
    by_cases w : c = T
    · subst w; rw [PM.put_self] at q; cases q; exact .inr ⟨hn, hp⟩
    · rw [PM.put_ne w] at q; exact .inl q
end
inductive ZipKind : PV → List PV → Prop
  | str {l : List Nat} (h : l.all (· < 128) = true) : ZipKind (.str l) (signs l)
  | lst {l : List PV} : ZipKind (.lst l) l
theorem ZipKind.src {C : Cx} {p : PV} {xs : List PV} (k : ZipKind p xs) {im : PM} {v : Value} (hv : VR im p v) : ∃ o Cd ls, ZipSrc C im p v xs o Cd ls := by
  cases k with
  | str h => exact ZipSrc.str hv h
  | lst => exact ZipSrc.lst hv
theorem plus_ne (n : Nat) {i j : Nat} (h : i ≠ j) : n + i ≠ n + j := fun e => h (Nat.add_left_cancel e)
noncomputable def SrcPost (G : Gx) (A : Around) (bs im : PM) (tg : Expr) (K : List PV → Led → Rho → Led → Prop) (v : Value) (s₁ : Shared) : Prop :=
  ∃ im₁ ρ₁ σf σr σ₂ items, Ext bs im im₁ ∧ St G bs im₁ s₁ ρ₁ (σf ++ σ₂) ∧ (σr.map (·.1)).Nodup ∧ K items σr ρ₁ σ₂ ∧
    ∀ Q : Value → Shared → Prop, (∀ I h' tk fp wr P S, (∀ b o, s₁.heap.get? b = some o → h'.get? b = some o) → (∀ b ∈ wr, Apart G bs im₁ (σf ++ σ₂) b ∨ b ∈ σf.map (·.1)) → IsIt G A im₁ h' tg σf σr items I fp wr P S → Q (.ref I) { s₁ with heap := h', toks := tk }) →
      wpAny G.C.M A (pyIter v) Q Bot s₁
theorem zip_call {G : Gx} {elts : List Expr} {kk : Nat} {tpos pos : Pos} {e1 e2 : Expr} {ρ : Rho} {σ : Led} {K : List PV → Led → Rho → Led → Prop}
    (h : EvL G pos [e1, e2] ρ σ (fun ps ρ₁ σ₁ => ∃ p q xs ys, ps = [p, q] ∧ ZipKind p xs ∧ ZipKind q ys ∧ K (pairs xs ys) [] ρ₁ σ₁)) (hst : (backTo pos (starEach [e1, e2] G.env)).any (·.1) = false)
    {A : Around} {bs im : PM} {s : Shared} (hA : AOk G.n A) (hS : St G bs im s ρ σ) :
    wpAny G.C.M A (callWith pos (.type "zip") [] (backTo pos (starEach [e1, e2] G.env)) []) (SrcPost G A bs im (.Tuple elts kk tpos) K) Bot s := by
  refine callWith_of (P := fun h => Keeps? G.C.M h (.type "zip")) (by rw [hst]; rfl) (fun h k => k) (evalArgs_any hst (wpAny_mono (h A bs im s hA hS) (fun vs s₁ p => ?_) fun _ _ x => x))
  obtain ⟨im₁, r, ρ₁, σ₁, e₁, hr, hS₁, p, q, xs, ys, rfl, kp, kq, hK⟩ := p
  obtain ⟨x, y, rfl, hx, hy⟩ := two_v hr
  refine ⟨keeps_type, ?_⟩
  obtain ⟨o1, C1, l1, Z1⟩ := kp.src (C := G.C) hx
  obtain ⟨o2, C2, l2, Z2⟩ := kq.src (C := G.C) hy
  refine call_zipD Z1.it Z2.it (Z1.cd _ hS₁.l.him) (Z2.cd _ hS₁.l.him) fun h' z₁ z₂ z₃ z₄ z₅ hk => ?_
  have lt1 : ∀ b ∈ l1, b < s₁.heap.objs.size := fun b hb => let ⟨o, ho⟩ := Z1.lm b hb; Heap.lt_size (hS₁.l.him b o ho)
  have lt2 : ∀ b ∈ l2, b < s₁.heap.objs.size := fun b hb => let ⟨o, ho⟩ := Z2.lm b hb; Heap.lt_size (hS₁.l.him b o ho)
  obtain ⟨P1, S1, D1, a1, b1⟩ := Z1.dr A.in1 s₁.heap.objs.size hA.1 fun b hb => Nat.ne_of_lt (lt1 b hb)
  obtain ⟨P2, S2, D2, a2, b2⟩ := Z2.dr A.in1 (s₁.heap.objs.size + 1) hA.1 fun b hb => Nat.ne_of_lt (Nat.lt_succ_of_lt (lt2 b hb))
  have hS₂ := hS₁.grow (h' := h') hk s₁.toks
  refine ⟨im₁, ρ₁, [], [], σ₁, pairs xs ys, e₁, hS₂, List.nodup_nil, hK, fun Q hQ => ?_⟩
  refine wpAny_pyIter_zip z₁ (hQ _ h' s₁.toks _ [s₁.heap.objs.size + 4, s₁.heap.objs.size + 2, s₁.heap.objs.size + 3, s₁.heap.objs.size, s₁.heap.objs.size + 1] _ _ (fun _ _ e => e) (fun b hb => .inl ?_) (IsIt.zip hA D1 D2 ?_ z₁ z₂ z₃ (a1 h' z₄ fun a o e => hk a o (hS₁.l.him a o e)) (a2 h' z₅ fun a o e => hk a o (hS₁.l.him a o e)) Z1.lm Z2.lm b1 b2))
  · refine hS₁.apart_new ?_
    have hge : s₁.heap.objs.size ≤ b := by
      simp only [List.mem_cons, List.not_mem_nil, or_false] at hb
      rcases hb with rfl | rfl | rfl | rfl | rfl
      · exact Nat.le_add_right _ _
      · exact Nat.le_add_right _ _
      · exact Nat.le_add_right _ _
      · exact Nat.le_refl _
      · exact Nat.le_add_right _ _
    cases q : s₁.heap.get? b with
    | none => rfl
    | some o => exact absurd (Heap.lt_size q) (Nat.not_lt.mpr hge)
  · have m1 : ∀ n, s₁.heap.objs.size ≤ n → n ∉ l1 := fun n hn hm => absurd (lt1 n hm) (Nat.not_lt.mpr hn)
    have m2 : ∀ n, s₁.heap.objs.size ≤ n → n ∉ l2 := fun n hn hm => absurd (lt2 n hm) (Nat.not_lt.mpr hn)
    have mc : ∀ (a b : Addr) (l : List Addr), a ≠ b → a ∉ l → a ∉ b :: l := fun a b l h k q => by
      rcases List.mem_cons.mp q with q | q
      · exact h q
      · exact k q
    exact ⟨plus_ne _ (i := 2) (j := 4) (by decide), plus_ne _ (i := 3) (j := 4) (by decide), plus_ne _ (i := 2) (j := 3) (by decide), plus_ne _ (i := 0) (j := 4) (by decide), plus_ne _ (i := 1) (j := 4) (by decide), plus_ne _ (i := 0) (j := 3) (by decide), plus_ne _ (i := 1) (j := 3) (by decide), plus_ne _ (i := 2) (j := 0) (by decide), plus_ne _ (i := 2) (j := 1) (by decide), plus_ne _ (i := 0) (j := 1) (by decide), mc _ _ _ (plus_ne _ (i := 4) (j := 0) (by decide)) (m1 _ (Nat.le_add_right _ _)), mc _ _ _ (plus_ne _ (i := 4) (j := 1) (by decide)) (m2 _ (Nat.le_add_right _ _)), mc _ _ _ (plus_ne _ (i := 3) (j := 0) (by decide)) (m1 _ (Nat.le_add_right _ _)), mc _ _ _ (plus_ne _ (i := 3) (j := 1) (by decide)) (m2 _ (Nat.le_add_right _ _)), mc _ _ _ (plus_ne _ (i := 0) (j := 1) (by decide)) (m2 _ (Nat.le_refl _)), mc _ _ _ (plus_ne _ (i := 1) (j := 0) (by decide)) (m1 _ (Nat.le_add_right _ _))⟩
theorem ForSrc.zip {G : Gx} {elts : List Expr} {kk : Nat} {tpos p0 pos : Pos} {e1 e2 : Expr} {ρ : Rho} {σ : Led} {K : List PV → Led → Rho → Led → Prop} (hf : ("zip", PV.con (.type "zip")) ∈ ρ)
    (h : EvL G pos [e1, e2] ρ σ (fun ps ρ₁ σ₁ => ∃ p q xs ys, ps = [p, q] ∧ ZipKind p xs ∧ ZipKind q ys ∧ K (pairs xs ys) [] ρ₁ σ₁)) (hst : (backTo pos (starEach [e1, e2] G.env)).any (·.1) = false := by rfl) :
    ForSrc G (.Tuple elts kk tpos) (.Call (.Name (Str.ofString "zip") p0) [e1, e2] [] pos) ρ σ K := fun A bs im s hA hS => by
  show wpAny _ _ _ (SrcPost G A bs im (.Tuple elts kk tpos) K) _ _
  rw [arm_eval_Call_Name']
  obtain ⟨hp, hl⟩ := load_has (A := A) (E := Bot) hS hf (Qv := fun v s₁ => wpAny G.C.M A (callWith pos v [] (backTo pos (starEach [e1, e2] G.env)) []) (SrcPost G A bs im (.Tuple elts kk tpos) K) Bot s₁) fun fv hv => hv.con_i ▸ zip_call h hst hA hS
  exact wpAny_bind (wpAny_Name hl hp.1)
end Mine.Tactic
end
section
open PySem PySem.W PyProof.Rows PySem.Calls
open Builtin
set_option Elab.async false
set_option maxRecDepth 100000
namespace Mine.Tactic
section
variable {prog : Program} {w : World} {A : Around} {E : Value → Shared → Prop} {s : Shared}
end
section
variable {G : Gx} {ρ : Rho} {σ : Led} {Q : PV → Rho → Led → Prop}
end
end Mine.Tactic
end
section
open PySem PySem.W PyProof.Rows PySem.Calls
open Builtin SeqAt
set_option Elab.async false
set_option maxRecDepth 100000
namespace Mine.Tactic
noncomputable def LtAt (A : Around) (s : Shared) (y x : Value) (b : Bool) : Prop :=
  ∀ (prog : Program) (w : World) (E : Value → Shared → Prop) (Q : Value → Shared → Prop), Q (.bool b) s → wpAny (model prog w) A (richCompare .Lt y x) Q E s
noncomputable def LexLt (A : Around) (s : Shared) : List Value → List Value → Bool → Prop
  | [], [], r => r = false
  | [], _ :: _, r => r = true
  | _ :: _, [], r => r = false
  | v :: vs, w :: ws, r => ∃ e, EqAt A s v w e ∧ (if e = true then LexLt A s vs ws r else LtAt A s v w r)
theorem LexLt.left {A : Around} {s : Shared} {ws : List Value} {r : Bool} (h : LexLt A s [] ws r) : r = decide (0 < ws.length) := by
  cases ws with
  | nil => exact h
  | cons _ _ => unfold LexLt at h; rw [h]; simp
theorem LexLt.right {A : Around} {s : Shared} {vs : List Value} {r : Bool} (h : LexLt A s vs [] r) : r = false := by
  cases vs <;> exact h
set_option maxHeartbeats 1000000 in
theorem tuple_ltAt (l b : Addr) (items items2 : Array Value) (n n2 : Nat) (dd dd2 : Option Addr) (sl sl2 : Array (Option Value)) (r : Bool) :
    Meets (Builtin.«tuple.__lt__» ⟨[.ref l, .ref b], []⟩)
      (fun A R s => s.heap.get? l = some { cls := .type "tuple", dict := dd, data := .seq items n, slots := sl } ∧ s.heap.get? b = some { cls := .type "tuple", dict := dd2, data := .seq items2 n2, slots := sl2 } ∧
        LexLt A.in1 s items.toList items2.toList r ∧ R (.ok (.ret (.bool r))) s) :=
  .of_wp fun prog w A R s h => by
    obtain ⟨hp, g, d, tk, os⟩ := s; obtain ⟨hl, hb, he, h⟩ := h
    have f2 := AutoSeq1.sub_tuple_tuple
    wp_walk using wpAny_loadPart' hl, wpAny_loadPart' hb, wpAny_forIn_list _ (fun rest b s' => b.1 = none ∧ s' = ⟨hp, g, d, tk, os⟩ ∧ ∃ i, rest = (items.toList.drop i).zip (items2.toList.drop i) ∧ i ≤ items.size ∧ i ≤ items2.size ∧
      LexLt A.in1 ⟨hp, g, d, tk, os⟩ (items.toList.drop i) (items2.toList.drop i) r) _
    case turn =>
      rintro ⟨y, x⟩ rest b s' ⟨hb', rfl, i, hz, hi1, hi2, hR⟩
      have h1 : i < items.toList.length := by
        rcases Nat.lt_or_ge i items.toList.length with h' | h'
        · exact h'
        · rw [List.drop_of_length_le h'] at hz; cases hz
      have h2 : i < items2.toList.length := by
        rcases Nat.lt_or_ge i items2.toList.length with h' | h'
        · exact h'
        · rw [List.drop_of_length_le h', List.zip_nil_right] at hz; cases hz
      rw [List.drop_eq_getElem_cons h1, List.drop_eq_getElem_cons h2] at hz hR
      rw [List.zip_cons_cons] at hz
      injection hz with hyx hrest
      injection hyx with hy hx
      subst hy hx
      obtain ⟨e, hE, hC⟩ := hR
      refine wpAny_bind (hE prog w _ _ ?_)
      cases e with
      | true =>
        rw [if_pos rfl] at hC
        wp_walk
        exact ⟨rfl, rfl, i + 1, hrest, by simp at h1; walk_at "zo", by simp at h2; walk_at "zo", hC⟩
      | false =>
        rw [if_neg (by decide)] at hC
        rw [if_pos (by decide)]
        dsimp only
        refine wpAny_bind (wpAny_rule (wpAny_bind (hC prog w _ _ ?_)))
        exact wpAny_bind (wpAny_pure (wpAny_pure (wpAny_pure ⟨_, rfl, h⟩)))
    case fin =>
      rintro ⟨b1, b2⟩ s' ⟨hb', rfl, i, hz, hi1, hi2, hR⟩
      simp only at hb'
      subst hb'
      have hr : r = decide (items.size < items2.size) := by
        rcases Nat.lt_or_ge i items.toList.length with h1 | h1
        · rcases Nat.lt_or_ge i items2.toList.length with h2 | h2
          · rw [List.drop_eq_getElem_cons h1, List.drop_eq_getElem_cons h2, List.zip_cons_cons] at hz; cases hz
          · rw [List.drop_of_length_le h2] at hR
            rw [hR.right]
            simp at h1 h2
            simp; walk_at "zo"
        · rw [List.drop_of_length_le h1] at hR
          rw [hR.left, List.length_drop]
          simp at h1
          simp; walk_at "zo"
      wp_walk
      exact ⟨_, rfl, by rw [hr] at h; exact h⟩
    case h =>
      exact ⟨rfl, rfl, 0, rfl, Nat.zero_le _, Nat.zero_le _, he⟩
theorem LtAt.int (A : Around) (s : Shared) (a : Int) (t : Tok) (b : Int) (u : Tok) : LtAt A s (.int a t) (.int b u) (decide (a < b)) := fun prog w E Q h => lt_int (A := A) (E := E) h
theorem LtAt.str (A : Around) (s : Shared) (a : List Nat) (t : Tok) (b : List Nat) (u : Tok) : LtAt A s (.str ⟨a.toArray⟩ t) (.str ⟨b.toArray⟩ u) (decide (a < b)) := fun prog w E Q h => by
  have := lt_str (prog := prog) (w := w) (A := A) (E := E) (s := s) (x := ⟨a.toArray⟩) (y := ⟨b.toArray⟩) (t := t) (u := u) (Q := Q) (by simpa using h)
  exact this
theorem LtAt.tup {A : Around} {s : Shared} {a b : Addr} {vs ws : List Value} {n m : Nat} {r : Bool} (ha : s.heap.get? a = some (tupO vs n)) (hb : s.heap.get? b = some (tupO ws m)) (hu : A.units < cLine) (h : LexLt A.in1 s vs ws r) : LtAt A s (.ref a) (.ref b) r := fun prog w E Q hq =>
  richCompare_meets_room (op := .Lt) ⟨_, ha, rfl⟩ ⟨_, hb, rfl⟩ F.slot_tuple_lt F.entry_tuple_lt (F.args_tuple_lt_2 _ _) (tuple_ltAt a b vs.toArray ws.toArray n m none none #[] #[] r)
    ⟨ha, hb, by simpa using h, show Value.bool r ≠ Value.notImplemented ∧ Q (.bool r) s from ⟨(fun x => nomatch x), hq⟩⟩ hu
end Mine.Tactic
end
section
open PySem PySem.W PyProof.Rows PySem.Calls
open SeqAt
set_option Elab.async false
set_option maxRecDepth 100000
namespace Mine.Tactic
section
variable {G : Gx} {ρ : Rho} {σ : Led} {Q : PV → Rho → Led → Prop}

noncomputable def eqP : PV → PV → Bool
  | .int a, .int b => a == b
  | .str a, .str b => a == b
  | _, _ => false
noncomputable def ltP : PV → PV → Bool
  | .int a, .int b => decide (a < b)
  | .str a, .str b => decide (a < b)
  | _, _ => false
noncomputable def likeP : PV → PV → Bool
  | .int _, .int _ => true
  | .str _, .str _ => true
  | _, _ => false
theorem likeP_inv {p q : PV} (h : likeP p q = true) : (∃ a b, p = .int a ∧ q = .int b) ∨ (∃ a b, p = .str a ∧ q = .str b) := by
  unfold likeP at h
  split at h
  · exact .inl ⟨_, _, rfl, rfl⟩
  · exact .inr ⟨_, _, rfl, rfl⟩
  · cases h
theorem EqAt.like {A : Around} {s : Shared} {im : PM} {p q : PV} {v w : Value} (h : likeP p q = true) (hv : VR im p v) (hw : VR im q w) : EqAt A s v w (eqP p q) := by
  rcases likeP_inv h with ⟨a, b, rfl, rfl⟩ | ⟨a, b, rfl, rfl⟩
  · obtain ⟨t, rfl⟩ := hv.int_i; obtain ⟨u, rfl⟩ := hw.int_i; exact EqAt.int_int _ _ _ _
  · obtain ⟨t, rfl⟩ := hv.str_i; obtain ⟨u, rfl⟩ := hw.str_i
    rw [show eqP (.str a) (.str b) = (S a == S b) from (S_beq a b).symm]
    exact EqAt.str_str _ _ _ _
theorem LtAt.like {A : Around} {s : Shared} {im : PM} {p q : PV} {v w : Value} (h : likeP p q = true) (hv : VR im p v) (hw : VR im q w) : LtAt A s v w (ltP p q) := by
  rcases likeP_inv h with ⟨a, b, rfl, rfl⟩ | ⟨a, b, rfl, rfl⟩
  · obtain ⟨t, rfl⟩ := hv.int_i; obtain ⟨u, rfl⟩ := hw.int_i; exact LtAt.int _ _ _ _ _ _
  · obtain ⟨t, rfl⟩ := hv.str_i; obtain ⟨u, rfl⟩ := hw.str_i; exact LtAt.str _ _ _ _ _ _
noncomputable def ltPs : List PV → List PV → Bool
  | [], [] => false
  | [], _ :: _ => true
  | _ :: _, [] => false
  | p :: ps, q :: qs => if eqP p q then ltPs ps qs else ltP p q
noncomputable def likePs : List PV → List PV → Bool
  | p :: ps, q :: qs => likeP p q && likePs ps qs
  | _, _ => true
theorem LexLt.like {A : Around} {s : Shared} {im : PM} : ∀ (ps qs : List PV) (vs ws : List Value), likePs ps qs = true → VRs im ps vs → VRs im qs ws → LexLt A s vs ws (ltPs ps qs)
  | [], [], vs, ws, _, hv, hw => by rw [hv.nil_inv, hw.nil_inv]; exact rfl
  | [], q :: qs, vs, ws, _, hv, hw => by obtain ⟨w, ws', rfl, _⟩ := hw.cons_inv; rw [hv.nil_inv]; exact rfl
  | p :: ps, [], vs, ws, _, hv, hw => by obtain ⟨w, ws', rfl, _⟩ := hv.cons_inv; rw [hw.nil_inv]; exact rfl
  | p :: ps, q :: qs, vs, ws, h, hv, hw => by
    obtain ⟨v, vs', rfl, h1, h2⟩ := hv.cons_inv
    obtain ⟨w, ws', rfl, k1, k2⟩ := hw.cons_inv
    rw [likePs, Bool.and_eq_true] at h
    refine ⟨eqP p q, EqAt.like h.1 h1 k1, ?_⟩
    rw [ltPs]
    split
    · exact LexLt.like ps qs vs' ws' h.2 h2 k2
    · exact LtAt.like h.1 h1 k1
theorem units_of {n : Nat} {A : Around} (hA : AOk n A) : A.units < cLine := by have := hA.2.2; show A.units < 9900; walk_at "zo"
theorem Op2.ltT {ps qs : List PV} (hl : likePs ps qs = true) (h : Q (.bool (ltPs ps qs)) ρ σ) : Op2 G (compareOp .Lt) (.tup ps) (.tup qs) ρ σ Q := .lib h fun A im s v w Qv hA hI hv hw k => by
  obtain ⟨a, vs, n, rfl, ha, hvs⟩ := hv.tup_i
  obtain ⟨b, ws, m, rfl, hb, hws⟩ := hw.tup_i
  exact LtAt.tup (hI _ _ ha) (hI _ _ hb) (units_of hA) (LexLt.like ps qs vs ws hl hvs hws) _ _ _ _ (k _ s.toks .bool)

theorem any_like {A : Around} {s : Shared} {im : PM} {x : PV} {xv : Value} (hx : VR im x xv) : ∀ (ps : List PV) (vs : List Value), (∀ p ∈ ps, likeP p x = true) → VRs im ps vs →
    ∃ e : Value → Bool, (∀ y ∈ vs, EqAt A s y xv (e y)) ∧ vs.any e = ps.any fun p => eqP p x := fun ps vs hl hv => by
  classical
  refine ⟨fun y => decide (∃ p, p ∈ ps ∧ VR im p y ∧ eqP p x = true), fun y hy => ?_, ?_⟩
  · obtain ⟨p, hp, hpy⟩ : ∃ p ∈ ps, VR im p y := by
      clear hl
      induction ps generalizing vs with
      | nil => rw [hv.nil_inv] at hy; cases hy
      | cons p ps ih =>
        obtain ⟨v, vs', rfl, h1, h2⟩ := hv.cons_inv
        rcases List.mem_cons.mp hy with rfl | hy
        · exact ⟨p, .head _, h1⟩
        · obtain ⟨q, hq, h3⟩ := ih _ h2 hy; exact ⟨q, .tail _ hq, h3⟩
    have he := EqAt.like (A := A) (s := s) (hl p hp) hpy hx
    have uniq : ∀ q ∈ ps, VR im q y → eqP q x = eqP p x := fun q hq hqy => by
      rcases likeP_inv (hl p hp) with ⟨a, b, rfl, rfl⟩ | ⟨a, b, rfl, rfl⟩
      · rcases likeP_inv (hl q hq) with ⟨c, d, rfl, e⟩ | ⟨c, d, rfl, e⟩
        · obtain ⟨t, rfl⟩ := hpy.int_i; obtain ⟨u, e⟩ := hqy.int_i
          injection e with e; rw [e]
        · cases e
      · rcases likeP_inv (hl q hq) with ⟨c, d, rfl, e⟩ | ⟨c, d, rfl, e⟩
        · cases e
        · obtain ⟨t, rfl⟩ := hpy.str_i; obtain ⟨u, e⟩ := hqy.str_i
          injection e with e; injection e with e
          have : ∀ l m : List Nat, l.toArray = m.toArray → l = m := fun l m h => by simpa using h
          rw [this _ _ e]
    show EqAt A s y xv (decide (∃ p, p ∈ ps ∧ VR im p y ∧ eqP p x = true))
    cases hb : eqP p x with
    | true => rw [hb] at he; rw [decide_eq_true ⟨p, hp, hpy, hb⟩]; exact he
    | false => rw [hb] at he; rw [decide_eq_false (fun ⟨q, hq, h1, h2⟩ => by rw [uniq q hq h1, hb] at h2; cases h2)]; exact he
  · rw [Bool.eq_iff_iff, List.any_eq_true, List.any_eq_true]
    constructor
    · rintro ⟨y, hy, h⟩
      obtain ⟨p, hp, _, h⟩ := of_decide_eq_true h
      exact ⟨p, hp, h⟩
    · rintro ⟨p, hp, h⟩
      obtain ⟨i, hi, e⟩ := List.mem_iff_getElem.mp hp
      have : ps[i]? = some p := by rw [List.getElem?_eq_getElem hi, e]
      obtain ⟨y, hy, h2⟩ := hv.get this
      exact ⟨y, List.mem_of_getElem? hy, decide_eq_true ⟨p, hp, h2, h⟩⟩
noncomputable abbrev hasP (ps : List PV) (x : PV) : Bool := ps.any fun p => eqP p x
theorem Op2.notInL {x : PV} {ps : List PV} (hl : ∀ p ∈ ps, likeP p x = true) (h : Q (.bool (!hasP ps x)) ρ σ) : Op2 G (compareOp .NotIn) x (.lst ps) ρ σ Q := .lib h fun A im s v w Qv hA hI hv hw k => by
  obtain ⟨a, vs, n, rfl, ha, hvs⟩ := hw.lst_i
  obtain ⟨e, he, e2⟩ := any_like (A := A.in1) (s := s) hv ps vs hl hvs
  refine notIn_listAt e (items := vs.toArray) (isList_of (hI _ _ ha)) (fun y hy => he y (by simpa using hy)) ?_
  rw [List.any_toArray, e2]; exact k _ s.toks .bool
theorem Op2.eqEmptyL {l : List PV} (h : Q (.bool l.isEmpty) ρ σ) : Op2 G (compareOp .Eq) (.lst l) (.lst []) ρ σ Q := .lib h fun A im s v w Qv hA hI hv hw k => by
  obtain ⟨a, vs, n, rfl, ha, hvs⟩ := hv.lst_i
  obtain ⟨b, ws, m, rfl, hb, hws⟩ := hw.lst_i
  have e := hws.nil_inv
  subst e
  cases l with
  | nil =>
    have e := hvs.nil_inv
    subst e
    exact eq_listAt (e := fun _ => true) (isList_of (hI _ _ ha)) (isList_of (hI _ _ hb)) rfl (units_of hA) (fun j h1 h2 => absurd h1 (by simp)) (k _ s.toks .bool)
  | cons p l =>
    obtain ⟨v, vs', e, _⟩ := hvs.cons_inv
    subst e
    exact eq_list_lengthsAt (isList_of (hI _ _ ha)) (isList_of (hI _ _ hb)) (by simp) (units_of hA) (k _ s.toks .bool)
theorem Op2.neEmptyL {l : List PV} (h : Q (.bool (!l.isEmpty)) ρ σ) : Op2 G (compareOp .NotEq) (.lst l) (.lst []) ρ σ Q := fun A bs im s v w hA hS hv hw => by
  obtain ⟨a, vs, n, rfl, ha, hvs⟩ := hv.lst_i
  obtain ⟨b, ws, m, rfl, hb, hws⟩ := hw.lst_i
  have e := hws.nil_inv
  subst e
  exact ne_empty_run hA hS (hS.l.him _ _ ha) (hS.l.him _ _ hb) hvs h
end
end Mine.Tactic
end
section
open PySem PySem.W PyProof.Rows PySem.Calls
open SeqAt
set_option Elab.async false
set_option maxRecDepth 100000
namespace Mine.Tactic
theorem St.adopt {G : Gx} {bs im : PM} {s : Shared} {ρ : Rho} {σ : Led} (x : St G bs im s ρ σ) {h' : Heap} (t : Nat) (hk : ∀ b o, s.heap.get? b = some o → h'.get? b = some o) {a : Addr} {o : Obj} (hn : s.heap.get? a = none) (ho : h'.get? a = some o) (ht : s.toks ≤ t := by first | exact Nat.le_refl _ | exact Nat.le_succ _ | assumption | walk_at "zo") :
    Ext bs im (im.put a o) ∧ St G bs (im.put a o) { s with heap := h', toks := t } ρ σ :=
  x.offNew (W := fun _ => False) t (fun b o _ e => hk b o e) (fun _ h => h.elim) (fun _ h => h.elim) (fun _ h => h.elim) (fun h => h) (fun _ _ h => h)
    ⟨PM.put_keep (x.l.im_none hn) o, fun b p e => by
      by_cases q : b = a
      · subst q; rw [PM.put_self] at e; cases e; exact .inr ⟨hn, ho⟩
      · rw [PM.put_ne q] at e; exact .inl e, rfl⟩ ht
section
variable {prog : Program} {w : World} {A : Around} {E : Value → Shared → Prop} {s : Shared}
end
section
variable {G : Gx} {ρ : Rho} {σ : Led} {Q : PV → Rho → Led → Prop}
end
end Mine.Tactic
end
section
open PySem PySem.W PyProof.Rows PySem.Calls
set_option Elab.async false
set_option maxRecDepth 100000
namespace Mine.Tactic
section
variable {G : Gx} {ρ : Rho} {σ : Led} {Q : PV → Rho → Led → Prop}
end
end Mine.Tactic
end
section
open PySem PySem.W PyProof.Rows PySem.Calls
set_option Elab.async false
set_option maxRecDepth 100000
namespace Mine.Tactic
open Builtin.Re
section
variable {prog : Program} {w : World} {A : Around} {E : Value → Shared → Prop} {s : Shared}
end
section
variable {G : Gx} {ρ : Rho} {σ : Led} {Q : PV → Rho → Led → Prop}
end
end Mine.Tactic
end
section
open PySem PySem.W PyProof.Rows PySem.Calls
set_option Elab.async false
set_option maxRecDepth 100000
namespace Mine.Tactic
section
variable {G : Gx} {ρ : Rho} {σ : Led} {Q : PV → Rho → Led → Prop}
end
theorem contains_sign (l : List Nat) (c : Nat) : Txt.contains (S l) (S [c]) = decide (c ∈ l) := StrLaws.found_one (S l) c
section
variable {G : Gx} {ρ : Rho} {σ : Led} {Q : PV → Rho → Led → Prop}
end
end Mine.Tactic
end
section
open PySem PySem.W PyProof.Rows PySem.Calls
set_option Elab.async false
set_option maxRecDepth 100000
namespace Mine.Tactic
noncomputable def InnerMono (inner : List PV → Rho → Led → (List PV → Rho → Led → Prop) → Prop) : Prop := ∀ acc ρ σ (K K' : List PV → Rho → Led → Prop), (∀ a r s, K a r s → K' a r s) → inner acc ρ σ K → inner acc ρ σ K'
theorem TsIfs.mono {G : Gx} : ∀ (cs : List Expr) {ρ : Rho} {σ : Led} {Q Q' : Bool → Rho → Led → Prop}, (∀ b r s, Q b r s → Q' b r s) → TsIfs G cs ρ σ Q → TsIfs G cs ρ σ Q'
  | [], _, _, _, _, k, h => k _ _ _ h
  | c :: cs, ρ, σ, Q, Q', k, h => Tr.mono h fun b r s h' => by
    cases b with
    | true => exact TsIfs.mono cs k h'
    | false => exact k _ _ _ h'
theorem compItems.mono {G : Gx} {g : Comprehension} {inner : List PV → Rho → Led → (List PV → Rho → Led → Prop) → Prop} (hm : InnerMono inner) {K K' : List PV → Rho → Led → Prop} (k : ∀ a r s, K a r s → K' a r s) : ∀ (items acc : List PV) (ρ : Rho) (σ : Led), compItems G g inner items acc ρ σ K → compItems G g inner items acc ρ σ K'
  | [], acc, ρ, σ, h => k _ _ _ h
  | x :: items, acc, ρ, σ, h => Con.mono h fun _ ρ₁ σ₁ h₁ => TsIfs.mono _ (fun b r s h₂ => by
    cases b with
    | true => exact hm _ _ _ _ _ (fun a r s h => compItems.mono hm k items a r s h) h₂
    | false => exact compItems.mono hm k items _ _ _ h₂) h₁
theorem compInner_mono {G : Gx} {elt : Expr} : ∀ (rest : List Comprehension), InnerMono (compInner G elt rest)
  | [] => fun acc ρ σ K K' k h => Tr.mono h fun p r s ⟨h1, h2⟩ => ⟨h1, k _ _ _ h2⟩
  | _ :: rest => fun acc ρ σ K K' k h => Tr.mono h fun p r s ⟨items, h1, h2⟩ => ⟨items, h1, compItems.mono (compInner_mono rest) k _ _ _ _ h2⟩
theorem Con.rho2 {G : Gx} {α β R R' : Type} {rel : PM → R → α → Prop} {rel' : PM → R' → β → Prop} {r : R} {f : α → Sem β} {ρ ρ' : Rho} {σ : Led} {Q : R' → Rho → Led → Prop} (ks : List String) (hs : ∀ p ∈ ρ', p ∈ ρ) (h : Con G rel r f rel' ρ' σ Q) (he : ρ'.map (·.1) = ks := by rfl) (hn : ks.Nodup := by decide) : Con G rel r f rel' ρ σ Q :=
  fun A bs im s a hA hS ha => h A bs im s a hA (hS.rho hs (by rw [he]; exact hn)) ha
theorem Tr.freeze {G : Gx} {α R : Type} {rel : PM → R → α → Prop} {t : Sem α} {x : String} {D : Addr} {l : List PV} {ρ ρ' : Rho} {σ : Led} {Q : R → Rho → Led → Prop} (hx : (x, PV.ref D) ∈ ρ) (u : SetR x (.lst l) ρ ρ') (h : Tr G rel t ρ' σ Q) : Tr G rel t ρ ((D, .list l) :: σ) Q := fun A bs im s hA hS => by
  obtain ⟨im₁, e, hv, hS₁⟩ := hS.freeze
  refine wpAny_mono (h A bs im₁ s hA ⟨hS₁.l, ⟨?_, u.nodup hS₁.f.rn, hS₁.f.lbs, hS₁.f.lim, hS₁.f.lled, hS₁.f.cells, hS₁.f.apart, hS₁.f.outer, hS₁.f.kind, hS₁.f.gl, hS₁.f.bi, hS₁.f.kn, hS₁.f.own, hS₁.f.ck⟩⟩) (fun _ _ q => q.ext e) fun _ _ x => x
  obtain ⟨m, a, b⟩ := hS₁.f.vars
  refine ⟨m, a, fun p hp => ?_⟩
  rcases u.mem hS₁.f.rn p hp with rfl | ⟨hp, _⟩
  · obtain ⟨v, c, d⟩ := b _ hx
    exact ⟨v, by rw [c.ref_i]; exact hv, d⟩
  · exact b p hp
theorem Op2.iadd {G : Gx} {ρ : Rho} {σ : Led} {Q : PV → Rho → Led → Prop} {a b c : Int} (he : a + b = c) (h : Q (.int c) ρ σ) : Op2 G (inplaceOp .Add) (.int a) (.int b) ρ σ Q := .lib h fun A im s v w Qv hA hI hv hw k => by
  subst he
  obtain ⟨t, rfl⟩ := hv.int_i
  obtain ⟨u, rfl⟩ := hw.int_i
  exact iadd_int (k _ _ .int)
end Mine.Tactic
end
section
open PySem PySem.W PyProof.Rows PySem.Calls Builtin Builtin.Re
set_option Elab.async false
set_option maxRecDepth 100000
namespace Mine.Tactic
noncomputable def reCa (K : Frag) (a : Addr) : Addr := match K.lookup a with
  | some ⟨_, _, .fields fs, _⟩ => (match fs.getD 5 .none with | .ref ca => ca | _ => 0)
  | _ => 0
noncomputable def reCode (K : Frag) (a : Addr) : Array Nat := match K.lookup (reCa K a) with
  | some ⟨_, _, .seq items _, _⟩ => (items.map reRawOf).map (·.toNat)
  | _ => #[]
noncomputable def isPat (v : Value) : Bool := match v with | .type t => t == "re.Pattern" | _ => false
noncomputable def isRefV (v : Value) (c : Addr) : Bool := match v with | .ref a => a == c | _ => false
noncomputable def reOk (K : Frag) (a : Addr) : Bool := (match K.lookup a with
  | some ⟨c, d, .fields fs, _⟩ => isPat c && d.isNone && (reRawNat (fs.getD 6 .none) == 0) && isRefV (fs.getD 5 .none) (reCa K a) && (reRawNat (fs.getD 2 .none) == 0)
  | _ => false) && (match K.lookup (reCa K a) with | some ⟨_, _, .seq _ _, _⟩ => true | _ => false)
theorem ReAt.of {K : Frag} {a : Addr} (h : reOk K a = true) : ReAt K a (reCode K a) := by
  unfold reOk at h
  rw [Bool.and_eq_true] at h
  obtain ⟨h1, h2⟩ := h
  split at h1
  · rename_i c d fs sl e
    split at h2
    · rename_i c' d' items n sl' e'
      simp only [Bool.and_eq_true, beq_iff_eq] at h1
      obtain ⟨⟨⟨⟨a1, a2⟩, a3⟩, a4⟩, a5⟩ := h1
      refine ⟨_, fs, reCa K a, _, items, n, e, ?_, ?_, rfl, a3, ?_, a5, e', rfl, ?_⟩
      · unfold isPat at a1; split at a1
        · rw [beq_iff_eq] at a1; rw [a1]
        · cases a1
      · cases d with
        | none => rfl
        | some _ => cases a2
      · unfold isRefV at a4; split at a4
        · rename_i q; rw [beq_iff_eq] at a4; rw [q, a4]
        · cases a4
      · unfold reCode; rw [e']
    · cases h2
  · cases h1
noncomputable def tabEs (K : Frag) (d : Addr) : List DictEntry := match K.lookup d with
  | some ⟨_, _, .dict es _, _⟩ => es.toList
  | _ => []
noncomputable def tabOk (K : Frag) (d : Addr) : Bool := (match K.lookup d with
  | some ⟨.type t, none, .dict _ _, sl⟩ => t == "dict" && sl.isEmpty
  | _ => false) && !(d == sysModules)
theorem TabK.of {K : Frag} {d : Addr} (h : tabOk K d = true) : ∃ n, TabK K d (tabEs K d) n := by
  unfold tabOk at h
  rw [Bool.and_eq_true, Bool.not_eq_true'] at h
  obtain ⟨h1, h2⟩ := h
  split at h1
  · rename_i t es n sl e
    rw [Bool.and_eq_true, beq_iff_eq] at h1
    obtain ⟨rfl, a2⟩ := h1
    have hs : sl = #[] := Array.isEmpty_iff.mp a2
    subst hs
    refine ⟨n, ?_, h2⟩
    unfold tabEs
    rw [e]
  · cases h1

theorem join_lawT {prog : Program} {w : World} {K : Frag} {gl : List (String × PV)} {s₁ : Shared} {n : Nat} {fa a P : Addr} {l : List Int} {R : Result → Shared → Prop} (X : K.In s₁.heap) (hP : s₁.heap.get? P = some (tabObj #[])) (hPK : K.lookup P = none)
    (spec : FnSpec ⟨prog, w, K, s₁.os, s₁.gens, gl⟩ n (.ref fa) [.lst (l.map .int)] [] [(P, .obj (tabObj #[]))] (fun r σ' => r = .bool true ∧ ∃ (qs : Array Value) (φ : Led), TriplesOk qs.toList ∧ σ' = (P, .obj (tabObj qs)) :: φ)) (gok : ∀ p ∈ gl, GlobP ⟨prog, w, K, s₁.os, s₁.gens, gl⟩ p.1 p.2)
    (w1 : Well w.params s₁.heap (.ref a) (ofPy (.list (l.map .int)))) (hn : n ≤ 500)
    (good : ∀ s' : Shared, (∀ b o, b ≠ P → s₁.heap.get? b = some o → s'.heap.get? b = some o) → (∃ qs, s'.heap.get? P = some (tabObj qs)) → s'.os = s₁.os → s'.gens = s₁.gens → R (.ok (.ret (.bool true))) s') :
    codeAny (model prog w) callerA (.call (.ref fa) ⟨[.ref a], []⟩) R s₁ := by
  obtain ⟨vs, k, ho, hvs⟩ := well_list (im := ⟨fun b => if b = a then s₁.heap.get? a else none, 0⟩) w1
  have cm : claimMargin = 300 := by decide +kernel
  have hA1 : callerA.depth + n ≤ 900 := by
    show 1 + claimMargin + n ≤ 900
    walk_at "zo"
  have hA2 : callerA.units + 8 * n ≤ 9000 := by
    show 4 + 8 * n ≤ 9000
    walk_at "zo"
  have hA : AOk n callerA := ⟨rfl, hA1, hA2⟩
  have haP : P ≠ a := fun e => by
    subst e
    rw [hP] at ho
    cases ho
  have hi : ∀ b o, (fun b => if b = a then s₁.heap.get? a else none) b = some o → s₁.heap.get? b = some o := fun b o e => by
    by_cases q : b = a
    · subst q; have e' : (if b = b then s₁.heap.get? b else none) = some o := e; rw [if_pos rfl] at e'; exact e'
    · have e' : (if b = a then s₁.heap.get? a else none) = some o := e; rw [if_neg q] at e'; cases e'
  have hbs : ∀ b o, (fun b => if b = P then none else s₁.heap.get? b) b = some o → s₁.heap.get? b = some o := fun b o e => by
    have e' : (if b = P then none else s₁.heap.get? b) = some o := e
    split at e'
    · cases e'
    · exact e'
  have hS : StL ⟨prog, w, K, s₁.os, s₁.gens, gl⟩ ⟨fun b => if b = P then none else s₁.heap.get? b, 0⟩ ⟨fun b => if b = a then s₁.heap.get? a else none, 0⟩ s₁ [(P, .obj (tabObj #[]))] := by
    refine ⟨rfl, rfl, fun b o e => ?_, hbs, hi, fun p hp => ?_, by simp, gok, Nat.zero_le _⟩
    · have e' : K.lookup b = some o := e
      show (if b = P then none else s₁.heap.get? b) = some o
      rw [if_neg (fun q => by rw [q, hPK] at e'; cases e')]
      exact X b o e'
    · rw [List.mem_singleton.mp hp]
      refine ⟨hP, ?_, ?_⟩
      · show (if P = P then none else s₁.heap.get? P) = none
        rw [if_pos rfl]
      · show (if P = a then s₁.heap.get? a else none) = none
        rw [if_neg haP]
  have hv : VRs ⟨fun b => if b = a then s₁.heap.get? a else none, 0⟩ [PV.lst (l.map .int)] [.ref a] := .cons (.lst (by show (if a = a then s₁.heap.get? a else none) = _; rw [if_pos rfl]; exact ho) hvs) .nil
  refine codeAny_mono (spec callerA _ _ s₁ (.ref fa) [.ref a] [] hA hS .ref hv .nil).2 ?_
  rintro r s' ⟨v, rfl, im', p, σ', _, hp, hS', rfl, qs, φ, _, rfl⟩
  rw [hp.bool_i]
  refine good s' (fun b o hb e => hS'.hbs b o ?_) ⟨qs, (hS'.led _ (.head _)).1⟩ hS'.os hS'.gens
  show (if b = P then none else s₁.heap.get? b) = some o
  rw [if_neg hb]; exact e
end Mine.Tactic
end
section
open PySem PySem.W PyProof.Rows PySem.Calls
open Builtin SeqAt
open AutoSeq1 (wpAny_loadPart')
open MeetsSeq MeetsSeq2 MeetsSeq3 SeqRoads2
set_option Elab.async false
set_option maxRecDepth 100000
namespace Mine.Tactic
noncomputable def UOk (k : Nat) (A : Around) : Prop := A.units + k ≤ 9800
theorem UOk.in1 {k : Nat} {A : Around} (h : UOk (k + 1) A) : UOk k A.in1 := by have h : A.units + (k + 1) ≤ 9800 := h; show A.units + 1 + k ≤ 9800; walk_at "zo"
theorem AOk.u {n k : Nat} {A : Around} (h : AOk n A) (hk : k ≤ 800 := by decide) : UOk k A := by have := h.2.2; show A.units + k ≤ 9800; walk_at "zo"
structure EqV (k : Nat) (p q : PV) (e : Bool) : Prop where
  at' : ∀ {A : Around} {s : Shared} {im : PM} {v w : Value}, UOk k A → (∀ x o, im.f x = some o → s.heap.get? x = some o) → VR im p v → VR im q w → EqAt A s v w e
  same : ∀ {im : PM} {v : Value}, VR im p v → VR im q v → e = true
inductive EqVs (k : Nat) : List PV → List PV → Bool → Prop
  | nil : EqVs k [] [] true
  | cons {p q : PV} {ps qs : List PV} {e f : Bool} : EqV k p q e → EqVs k ps qs f → EqVs k (p :: ps) (q :: qs) (e && f)
theorem EqVs.len {k : Nat} {ps qs : List PV} {e : Bool} (h : EqVs k ps qs e) : ps.length = qs.length := by
  induction h with
  | nil => rfl
  | cons _ _ ih => rw [List.length_cons, List.length_cons, ih]
theorem EqV.int {k : Nat} (a b : Int) : EqV k (.int a) (.int b) (a == b) :=
  ⟨fun _ _ hv hw => by obtain ⟨t, rfl⟩ := hv.int_i; obtain ⟨u, rfl⟩ := hw.int_i; exact EqAt.int_int _ _ _ _,
   fun hv hw => by obtain ⟨t, rfl⟩ := hv.int_i; obtain ⟨u, e⟩ := hw.int_i; cases e; simp⟩



noncomputable def LexLNe (A : Around) (s : Shared) : List Value → List Value → Bool → Prop
  | [], ws, r => r = (ws.length != 0)
  | v :: vs, [], r => r = true
  | v :: vs, w :: ws, r => ∃ e, EqAt A s v w e ∧ (if e = true then LexLNe A s vs ws r else r = true)
theorem loopLNe (l b : Addr) (items items2 : Array Value) (n n2 : Nat) (dd dd2 : Option Addr) (sl sl2 : Array (Option Value)) (r : Bool) (k : Nat) :
    ∀ i : Nat, items.size - i = k → i ≤ items.size → i ≤ items2.size → Meets (Builtin.«list.__eq__.loop» ⟨[.ref l, .ref b, rawInt i, rawInt 3], []⟩)
      (fun A R s => s.heap.get? l = some { cls := .type "list", dict := dd, data := .seq items n, slots := sl } ∧ s.heap.get? b = some { cls := .type "list", dict := dd2, data := .seq items2 n2, slots := sl2 } ∧
        LexLNe A.in1 s (items.toList.drop i) (items2.toList.drop i) r ∧ R (.ok (.ret (.bool r))) s) := by
  induction k with
  | zero =>
    intro i hk hi1 hi2 prog w A R s h
    obtain ⟨hp, g, d, tk, os⟩ := s; obtain ⟨hl, hb, he, h⟩ := h
    wp_walk using wpAny_loadPart' hl, wpAny_loadPart' hb
    have hi : i = items.size := by walk_at "zo"
    have e1 : items[((i : Nat) : Int).toNat]? = none := by simp; walk_at "zo"
    have hd : items.toList.drop i = [] := by simp; walk_at "zo"
    rw [hd] at he
    have he : r = _ := he
    have hcs : ((items.size != items2.size) : Bool) = r := by
      rw [he, List.length_drop, Array.length_toList]
      have : (items.size != items2.size) = (items2.size - i != 0) := by rw [Bool.eq_iff_iff, bne_iff_ne, bne_iff_ne]; walk_at "zo"
      exact this
    rw [e1]
    cases e2 : items2[((i : Nat) : Int).toNat]? with
    | none =>
      wp_walk using wpAny_loadPart' hl, wpAny_loadPart' hb
      show R (.ok (.ret (.bool (items.size != items2.size)))) _
      rw [hcs]; exact h
    | some x =>
      wp_walk using wpAny_loadPart' hl, wpAny_loadPart' hb
      show R (.ok (.ret (.bool (items.size != items2.size)))) _
      rw [hcs]; exact h
  | succ k ih =>
    intro i hk hi1 hi2 prog w A R s h
    obtain ⟨hp, g, d, tk, os⟩ := s; obtain ⟨hl, hb, he, h⟩ := h
    wp_walk using wpAny_loadPart' hl, wpAny_loadPart' hb
    have hlt : i < items.size := by walk_at "zo"
    have e1 : items[((i : Nat) : Int).toNat]? = some items[i] := by simp [hlt]
    have hd1 : items.toList.drop i = items[i] :: items.toList.drop (i + 1) := by simp [List.drop_eq_getElem_cons, hlt]
    rw [e1]
    by_cases hlt2 : i < items2.size
    · have e2 : items2[((i : Nat) : Int).toNat]? = some items2[i] := by simp [hlt2]
      have hd2 : items2.toList.drop i = items2[i] :: items2.toList.drop (i + 1) := by simp [List.drop_eq_getElem_cons, hlt2]
      have hc : ((i : Int) + 1) = ((i + 1 : Nat) : Int) := by push_cast; rfl
      rw [hd1, hd2] at he
      obtain ⟨e, hE, hC⟩ := he
      rw [e2]
      refine wpAny_bind (hE prog w _ _ ?_)
      cases e with
      | true =>
        rw [if_pos rfl] at hC
        wp_walk
        rw [hc]
        exact ⟨plainId_quiet plain_eq_loop _, codeAny_builtin entry_eq_loop (by
          rw [Around.under_plainId plain_eq_loop _]
          exact ih (i + 1) (by walk_at "zo") (by walk_at "zo") (by walk_at "zo") prog w A R _ ⟨hl, hb, hC, h⟩)⟩
      | false =>
        rw [if_neg (by decide)] at hC
        wp_walk using wpAny_loadPart' hl, wpAny_loadPart' hb
        rw [e1, e2]
        wp_walk
        rw [hC] at h
        exact h
    · have e2 : items2[((i : Nat) : Int).toNat]? = none := by simp; walk_at "zo"
      have hd2 : items2.toList.drop i = [] := by simp; walk_at "zo"
      rw [hd1, hd2] at he
      have he : r = _ := he
      have hcs : ((items.size != items2.size) : Bool) = r := by rw [he]; exact bne_iff_ne.mpr (by walk_at "zo")
      rw [e2]
      wp_walk using wpAny_loadPart' hl, wpAny_loadPart' hb
      show R (.ok (.ret (.bool (items.size != items2.size)))) _
      rw [hcs]; exact h
theorem meetsLNe (l b : Addr) (items items2 : Array Value) (n n2 : Nat) (dd dd2 : Option Addr) (sl sl2 : Array (Option Value)) (r : Bool) (hsz : items.size = items2.size) :
    Meets (Builtin.«list.__ne__» ⟨[.ref l, .ref b], []⟩)
      (fun A R s => s.heap.get? l = some { cls := .type "list", dict := dd, data := .seq items n, slots := sl } ∧ s.heap.get? b = some { cls := .type "list", dict := dd2, data := .seq items2 n2, slots := sl2 } ∧
        LexLNe A.in1 s items.toList items2.toList r ∧ R (.ok (.ret (.bool r))) s) := by
  intro prog w A R s h
  obtain ⟨hp, g, d, tk, os⟩ := s; obtain ⟨hl, hb, he, h⟩ := h
  have f3 := AutoSeq1.sub_list_list
  have hne : ¬ (items.size != items2.size) = true := by simp [hsz]
  wp_walk using wpAny_loadPart' hl, wpAny_loadPart' hb
  exact ⟨plainId_quiet plain_eq_loop _, codeAny_builtin entry_eq_loop (by
    rw [Around.under_plainId plain_eq_loop _]
    exact loopLNe l b items items2 n n2 dd dd2 sl sl2 r _ 0 rfl (Nat.zero_le _) (Nat.zero_le _) prog w A R _ ⟨hl, hb, he, h⟩)⟩

end Mine.Tactic
end
section
open PySem PySem.W PyProof.Rows PySem.Calls
open Builtin SeqAt
set_option Elab.async false
set_option maxRecDepth 100000
namespace Mine.Tactic
theorem EqVs.ints {k : Nat} : ∀ {l m : List Int}, l.length = m.length → EqVs k (l.map .int) (m.map .int) (l == m)
  | [], [], _ => .nil
  | a :: l, b :: m, h => by
    have : (a :: l == b :: m) = ((a == b) && (l == m)) := rfl
    rw [this]
    exact .cons (.int a b) (EqVs.ints (by simpa using h))
section
variable {G : Gx} {ρ : Rho} {σ : Led} {Q : PV → Rho → Led → Prop}
theorem EqVs.ne {k : Nat} {ps qs : List PV} {e : Bool} (h : EqVs k ps qs e) : ∀ {A : Around} {s : Shared} {im : PM} {vs ws : List Value}, UOk k A → (∀ x o, im.f x = some o → s.heap.get? x = some o) → VRs im ps vs → VRs im qs ws → LexLNe A s vs ws (!e) := by
  induction h with
  | nil => intro A s im vs ws hA hI hv hw; rw [hv.nil_inv, hw.nil_inv]; exact rfl
  | @cons p q ps qs e f h1 _ ih =>
    intro A s im vs ws hA hI hv hw
    obtain ⟨v, vs', rfl, a1, a2⟩ := hv.cons_inv
    obtain ⟨w, ws', rfl, b1, b2⟩ := hw.cons_inv
    refine ⟨e, h1.at' hA hI a1 b1, ?_⟩
    cases e with
    | true => rw [if_pos rfl, Bool.true_and]; exact ih hA hI a2 b2
    | false => rw [if_neg (by decide), Bool.false_and]; rfl
theorem Op2.neLV {ps qs : List PV} {e : Bool} (he : EqVs 10 ps qs e) (h : Q (.bool (!e)) ρ σ) : Op2 G (compareOp .NotEq) (.lst ps) (.lst qs) ρ σ Q := .lib h fun A im s v w Qv hA hI hv hw kq => by
  obtain ⟨a, vs, n, rfl, ha, hvs⟩ := hv.lst_i
  obtain ⟨b, ws, mm, rfl, hb, hws⟩ := hw.lst_i
  have hL := he.ne (A := A.in1) (s := s) (UOk.in1 hA.u) hI hvs hws
  exact richCompare_meets_room (op := .NotEq) ⟨_, hI _ _ ha, rfl⟩ ⟨_, hI _ _ hb, rfl⟩ F.slot_list_ne F.entry_list_ne (F.args_list_ne_2 _ _) (meetsLNe a b vs.toArray ws.toArray n mm none none #[] #[] _ (by rw [List.size_toArray, List.size_toArray, hvs.length, hws.length, he.len]))
    ⟨hI _ _ ha, hI _ _ hb, hL, show Value.bool _ ≠ Value.notImplemented ∧ _ from ⟨(fun x => nomatch x), kq _ s.toks .bool⟩⟩ (units_of hA)
end
end Mine.Tactic
end
section
open PySem PySem.W PyProof.Rows PySem.Calls
open Builtin SeqAt
set_option Elab.async false
set_option maxRecDepth 100000
namespace Mine.Tactic
section
variable {G : Gx} {ρ : Rho} {σ : Led} {Q : PV → Rho → Led → Prop}
theorem vrs_ints {im : PM} : ∀ {l : List Int} {vs : List Value}, VRs im (l.map .int) vs → IntsAre vs l
  | [], vs, h => by rw [h.nil_inv]; exact .nil
  | a :: l, vs, h => by
    obtain ⟨v, vs', rfl, h1, h2⟩ := h.cons_inv
    obtain ⟨t, rfl⟩ := h1.int_i
    exact .cons _ _ (vrs_ints h2)
theorem ints_vrs {im : PM} {l : List Int} {vs : List Value} (h : IntsAre vs l) : VRs im (l.map .int) vs := by
  induction h with
  | nil => exact .nil
  | cons _ _ _ ih => exact .cons .int ih
theorem CallP.sortedRev {l : List Int} (hz : l.length < 64) (h : ∀ m : List Int, m.Perm l → m.Pairwise (· ≥ ·) → Q (.lst (m.map .int)) ρ σ) : CallP G (.con (.builtin "sorted")) [.lst (l.map .int)] [("reverse", .bool true)] ρ σ Q := fun A bs im s fv vs kvs hA hS hf hv hk => by
  rw [hf.con_i]
  obtain ⟨h1, h2⟩ := hk
  obtain ⟨kv, rfl⟩ : ∃ v, kvs = [(Str.ofString "reverse", v)] := kvs1 h1
  obtain ⟨kv', e, hkv⟩ := one_v h2
  simp only [List.map_cons, List.map_nil, List.cons.injEq, and_true] at e
  subst e
  rw [hkv.bool_i]
  obtain ⟨v, rfl, hv1⟩ := one_v hv
  obtain ⟨a, ws, n, rfl, ho, hws⟩ := hv1.lst_i
  have ho' := hS.l.him _ _ ho
  refine ⟨keeps_builtin, sorted_ints_rev (b := true) (isList_of ho') (vrs_ints hws) (by rw [hws.length, List.length_map]; exact hz) fun out ns a1 a2 a3 => ?_⟩
  obtain ⟨e, he⟩ := sortedAll_at s.heap ws out
  have hk : ∀ b o, s.heap.get? b = some o → (sortedAll s.heap ws out).get? b = some o := fun b o q => sortedAll_old q
  have hn : s.heap.get? (s.heap.objs.size + 1) = none := by
    cases q : s.heap.get? (s.heap.objs.size + 1) with
    | none => rfl
    | some o => exact absurd (Heap.lt_size q) (Nat.not_lt.mpr (Nat.le_succ _))
  have he' : (sortedAll s.heap ws out).get? (s.heap.objs.size + 1) = some (lstO out.toList e) := he
  obtain ⟨e1, hS'⟩ := hS.adopt s.toks hk hn he'
  exact ⟨_, _, ρ, σ, e1, .lst (PM.put_self ..) (ints_vrs a1), hS', h ns a2 a3⟩
theorem CallP.min2 {a b : Int} (h : Q (.int (min a b)) ρ σ) : CallP G (.con (.builtin "min")) [.int a, .int b] [] ρ σ Q := .self fun A bs im s vs hA hS hv => by
  obtain ⟨v, w, rfl, hv1, hw1⟩ := two_v hv
  obtain ⟨t, rfl⟩ := hv1.int_i
  obtain ⟨u, rfl⟩ := hw1.int_i
  refine wpAny_up (min_two_ints hA.1 fun h' tk hk htk => ?_)
  dsimp only at htk
  have e : (if b < a then Value.int b u else .int a t) = .int (min a b) (if b < a then u else t) := by
    by_cases c : b < a
    · rw [if_pos c, if_pos c, Int.min_eq_right (by walk_at "zo")]
    · rw [if_neg c, if_neg c, Int.min_eq_left (by walk_at "zo")]
  rw [e]
  exact .now (hS.grow hk tk) .int h
end
end Mine.Tactic
end
section
open PySem PySem.W PyProof.Rows PySem.Calls
set_option Elab.async false
set_option maxRecDepth 100000
namespace Mine.Tactic
noncomputable abbrev KEnd (a r : List PV) (σ : Led) (ρ₀ : Rho) : List PV → Rho → Led → Prop := fun acc' ρ₃ σ₃ => acc' = a ++ r ∧ σ₃ = σ ∧ Sub ρ₀ ρ₃
noncomputable abbrev KOk (inner : List PV → Rho → Led → (List PV → Rho → Led → Prop) → Prop) (a r : List PV) (σ : Led) (ρ₀ : Rho) : Bool → Rho → Led → Prop := fun ok ρ₂ σ₂ => if ok then inner a ρ₂ σ₂ (KEnd a r σ ρ₀) else r = [] ∧ σ₂ = σ ∧ Sub ρ₀ ρ₂
noncomputable abbrev KTgt (G : Gx) (ifs : List Expr) (inner : List PV → Rho → Led → (List PV → Rho → Led → Prop) → Prop) (a r : List PV) (σ : Led) (ρ₀ : Rho) : Rho → Led → Prop := fun ρ₁ σ₁ => TsIfs G ifs ρ₁ σ₁ (KOk inner a r σ ρ₀)
theorem compItems.fa {G : Gx} {g : Comprehension} {inner : List PV → Rho → Led → (List PV → Rho → Led → Prop) → Prop} (hm : InnerMono inner) {K : List PV → Rho → Led → Prop} {σ : Led} (ρ₀ : Rho) {α : Type} (f : α → PV) (r : α → List PV) (B : Nat) : ∀ (xs : List α) (acc : List PV) (ρ : Rho),
    (∀ x ∈ xs, ∀ acc ρ, acc.length ≤ B → Sub ρ₀ ρ → As G g.target (f x) ρ σ (KTgt G g.ifs inner acc (r x) σ ρ₀)) →
    Sub ρ₀ ρ → (acc ++ xs.flatMap r).length ≤ B → (∀ ρ, Sub ρ₀ ρ → K (acc ++ xs.flatMap r) ρ σ) → compItems G g inner (xs.map f) acc ρ σ K
  | [], acc, ρ, _, hs, _, fin => by simpa [compItems] using fin ρ hs
  | x :: items, acc, ρ, turn, hs, hB, fin => by
    rw [List.map_cons]
    unfold compItems
    rw [List.flatMap_cons] at hB fin
    have hacc : acc.length ≤ B := by rw [List.length_append] at hB; walk_at "zo"
    have next : ∀ ρ₂, Sub ρ₀ ρ₂ → compItems G g inner (items.map f) (acc ++ r x) ρ₂ σ K := fun ρ₂ h₂ => compItems.fa hm ρ₀ f r B items (acc ++ r x) ρ₂ (fun y hy => turn y (.tail _ hy)) h₂ (by rw [List.append_assoc]; exact hB) fun ρ h => by rw [List.append_assoc]; exact fin ρ h
    refine Con.mono (turn x (.head _) acc ρ hacc hs) fun _ ρ₁ σ₁ h₁ => TsIfs.mono _ (fun b ρ₂ s h₂ => ?_) h₁
    cases b with
    | true => exact hm _ _ _ _ _ (fun a ρ₂ s ⟨e1, e2, e3⟩ => by subst e1 e2; exact next ρ₂ e3) h₂
    | false =>
      obtain ⟨e1, e2, e3⟩ := h₂
      subst e2
      have := next ρ₂ e3
      rw [e1, List.append_nil] at this
      exact this
noncomputable def itIf (c : Bool) (p : PV) : List PV := if c then [p] else []
theorem flat_if {α : Type} (c : α → Bool) (e : α → PV) : ∀ xs : List α, xs.flatMap (fun x => itIf (c x) (e x)) = (xs.filter c).map e
  | [] => rfl
  | x :: xs => by
    rw [List.flatMap_cons, flat_if c e xs]
    unfold itIf
    cases h : c x with
    | true => rw [if_pos rfl, List.filter_cons_of_pos h]; rfl
    | false => rw [if_neg (by decide), List.filter_cons_of_neg (by rw [h]; decide)]; rfl
theorem flat_one {α : Type} (e : α → PV) (xs : List α) : xs.flatMap (fun x => [e x]) = xs.map e := by
  induction xs with
  | nil => rfl
  | cons x xs ih => rw [List.flatMap_cons, ih]; rfl
theorem flat_map {α β : Type} (f : α → List β) (e : β → PV) (xs : List α) : xs.flatMap (fun x => (f x).map e) = (xs.flatMap f).map e := by
  induction xs with
  | nil => rfl
  | cons x xs ih => rw [List.flatMap_cons, List.flatMap_cons, ih, List.map_append]
theorem if_len {α : Type} (c : α → Bool) (e : α → PV) (xs : List α) : ((xs.filter c).map e).length ≤ xs.length := by rw [List.length_map]; exact List.length_filter_le _ _
theorem Ex1.asgCompC {G : Gx} {elt : Expr} {gens : List Comprehension} {scope : Scope} {cpos pos : Pos} {y : String} {py : Pos} {ρ : Rho} {σ : Led} {Q : Fl → Rho → Led → Prop} (hy : (y, NameKind.cell) ∈ G.ns)
    (h : Ev G (.ListComp elt gens scope cpos) ρ σ (KAs G (.Name (Str.ofString y) py) Q)) : Ex1 G (.Assign [.Name (Str.ofString y) py] (.ListComp elt gens scope cpos) pos) ρ σ Q := fun A bs im s hA hS => by
  have ky : G.env.kindOf (Str.ofString y) = some .cell := (hS.f.kn _ hy).1
  have hs : swapsWithSole [.Name (Str.ofString y) py] (.ListComp elt gens scope cpos) pos.line G.env = pure false := by
    show swapsWith (.ListComp elt gens scope cpos) (some (.Name (Str.ofString y) py)) pos.line G.env = pure false
    unfold swapsWith
    dsimp only
    rw [ky, show (some NameKind.cell == some NameKind.local) = false from rfl, Bool.and_false, Bool.false_and, Bool.false_and]
  exact Ex1.asg h hs rfl rfl A bs im s hA hS
end Mine.Tactic
end
section
open PySem PySem.W PyProof.Rows PySem.Calls Builtin Builtin.Re
set_option Elab.async false
set_option maxRecDepth 100000
namespace Mine.Tactic
end Mine.Tactic
end
section
open PySem PySem.W PyProof.Rows PySem.Calls
set_option Elab.async false
set_option maxRecDepth 100000
namespace Mine.Tactic
theorem sl_pre {a r : List Nat} {k : Nat} (h : a.length = k) : pySl (a ++ r) none (some (k : Int)) = a := by
  subst h
  unfold pySl
  have e : clampI (a ++ r).length (a ++ r).length (some (a.length : Int)) = a.length := by unfold clampI; simp; walk_at "zo"
  rw [e]
  show (List.drop 0 _).take (a.length - 0) = a
  simp
theorem sl_suf {r z : List Nat} {k : Nat} (h : z.length = k) (hk : 0 < k) : pySl (r ++ z) (some (-(k : Int))) none = z := by
  subst h
  unfold pySl
  have e : clampI (r ++ z).length 0 (some (-(z.length : Int))) = r.length := by simp only [clampI]; rw [if_pos (by walk_at "zo"), List.length_append]; walk_at "zo"
  rw [e]
  show (List.drop r.length _).take ((r ++ z).length - r.length) = z
  simp
theorem sl_mid {a m z : List Nat} {k j : Nat} (h : a.length = k) (hz : z.length = j) (hj : 0 < j) : pySl (a ++ m ++ z) (some (k : Int)) (some (-(j : Int))) = m := by
  subst h hz
  unfold pySl
  have e : clampI (a ++ m ++ z).length 0 (some (a.length : Int)) = a.length := by unfold clampI; simp; walk_at "zo"
  have e2 : clampI (a ++ m ++ z).length (a ++ m ++ z).length (some (-(z.length : Int))) = a.length + m.length := by simp only [clampI]; rw [if_pos (by walk_at "zo"), List.length_append, List.length_append]; walk_at "zo"
  rw [e, e2, List.append_assoc]
  simp
theorem small1 {a b : Int} (h1 : -1000000 ≤ a) (h2 : a ≤ 1000000) (h3 : -1000000 ≤ b) (h4 : b ≤ 1000000) : Builtin.Range.small a b 1 = true := by
  have e : 0 ≤ Builtin.Range.rangeSize a b 1 ∧ Builtin.Range.rangeSize a b 1 ≤ 2000000 := by
    unfold Builtin.Range.rangeSize
    rw [if_pos (by decide)]
    split
    · rw [Int.ediv_one]; walk_at "zo"
    · walk_at "zo"
  have f : ∀ i : Int, -3000000 ≤ i → i ≤ 3000000 → Builtin.Range.rangeFitsLong i = true := fun i h1 h2 => by
    unfold Builtin.Range.rangeFitsLong
    simp only [Bool.and_eq_true, decide_eq_true_eq]
    constructor <;> walk_at "zo"
  unfold Builtin.Range.small
  rw [f a (by walk_at "zo") (by walk_at "zo"), f b (by walk_at "zo") (by walk_at "zo"), f 1 (by walk_at "zo") (by walk_at "zo"), f (Builtin.Range.rangeSize a b 1) (by walk_at "zo") (by walk_at "zo"), if_pos (by decide), f (b + (1 - 1)) (by walk_at "zo") (by walk_at "zo")]
  simp
theorem rangeSizeK (a : Int) (m : Nat) : Builtin.Range.rangeSize a (a + m) 1 = (m : Int) := by
  unfold Builtin.Range.rangeSize
  rw [if_pos (by decide)]
  split
  · rw [Int.ediv_one]; walk_at "zo"
  · walk_at "zo"
theorem rangeSizeN {a b : Int} {m : Nat} (h : b = a + m) : Builtin.Range.rangeSize a b 1 = (m : Int) := by subst h; exact rangeSizeK a m
noncomputable def lowC (c : Nat) : Nat := if 65 ≤ c ∧ c ≤ 90 then c + 32 else c
noncomputable def lowL (l : List Nat) : List Nat := l.map lowC
noncomputable def sgP (c : Nat) : PV := .str [c]
theorem pyJoin_flat (ls : List (List Nat)) : pyJoin (cs "") ls = ls.flatten := by
  have key : ∀ (r : List (List Nat)) (x : List Nat), r.foldl (fun acc p => acc ++ cs "" ++ p) x = x ++ r.flatten := by
    intro r
    induction r with
    | nil => intro x; simp
    | cons p r ih => intro x; rw [List.foldl_cons, ih, show cs "" = [] by decide]; simp
  cases ls with
  | nil => rfl
  | cons x r => exact key r x
theorem Op2.iaddS {G : Gx} {ρ : Rho} {σ : Led} {Q : PV → Rho → Led → Prop} {l m : List Nat} (hz : l.length + m.length ≤ 16000000) (h : Q (.str (l ++ m)) ρ σ) : Op2 G (inplaceOp .Add) (.str l) (.str m) ρ σ Q := .lib h fun A im s v w Qv hA hI hv hw k => by
  obtain ⟨t, rfl⟩ := hv.str_i
  obtain ⟨u, rfl⟩ := hw.str_i
  refine PyProof.Rows.iadd_str (fun t' tk => ?_) (by show (S l).length + (S m).length ≤ _; rw [S_len, S_len, sizeLine_eq]; walk_at "zo")
  rw [show (⟨l.toArray⟩ : Str) ++ ⟨m.toArray⟩ = S (l ++ m) from S_app l m]; exact k _ _ .str
theorem flat_signs (m : List Nat) : (m.map fun c => [c]).flatten = m := by
  induction m with
  | nil => rfl
  | cons c l ih => rw [List.map_cons, List.flatten_cons, ih]; rfl
theorem nd3 {a b c : Addr} (h : [a, b, c].Nodup) : a ≠ b ∧ a ≠ c ∧ b ≠ c := by simpa [and_assoc] using h
theorem Sub.in {a b c : Rho} (h : Sub b c) (k : Sub a b) : Sub a c := fun q hq => h q (k q hq)
theorem of_below {p : Nat → Prop} [DecidablePred p] {n k : Nat} (hk : k < n) (h : ((List.range n).all fun k => decide (p k)) = true) : p k := of_decide_eq_true (List.all_eq_true.mp h k (List.mem_range.mpr hk))
end Mine.Tactic
end
section
open PySem PySem.W PyProof.Rows PySem.Calls
set_option Elab.async false
set_option maxRecDepth 100000
namespace Mine.Tactic
noncomputable def Le (p q : PV) : Prop := ∀ im v, VR im p v → VR im q v
theorem Le.refl {p : PV} : Le p p := fun _ _ h => h
theorem Le.strB {l : List Nat} : Le (.strB l) (.str l) := fun im v h => by obtain ⟨t, rfl, _⟩ := h.strB_i; exact .str
inductive LeS : List PV → List PV → Prop
  | nil : LeS [] []
  | cons {p q : PV} {ps qs : List PV} (h : Le p q) (hs : LeS ps qs) : LeS (p :: ps) (q :: qs)
theorem LeS.map {α : Type} {f g : α → PV} (h : ∀ a, Le (f a) (g a)) : ∀ l : List α, LeS (l.map f) (l.map g)
  | [] => .nil
  | a :: l => .cons (h a) (LeS.map h l)
theorem LeS.vrs {ps qs : List PV} (h : LeS ps qs) : ∀ {im : PM} {vs : List Value}, VRs im ps vs → VRs im qs vs := by
  induction h with
  | nil => intro im vs h; exact h
  | cons h _ ih => intro im vs k; obtain ⟨v, vs', rfl, k1, k2⟩ := k.cons_inv; exact .cons (h _ _ k1) (ih k2)
theorem Le.lst {ps qs : List PV} (h : LeS ps qs) : Le (.lst ps) (.lst qs) := fun im v k => by
  obtain ⟨a, vs, n, rfl, ho, hvs⟩ := k.lst_i
  exact .lst ho (h.vrs hvs)
section
variable {G : Gx} {ρ : Rho} {σ : Led} {Q : PV → Rho → Led → Prop}
theorem CallP.weak {f : PV} {ps qs : List PV} {kw : List (String × PV)} (hl : LeS ps qs) (h : CallP G f qs kw ρ σ Q) : CallP G f ps kw ρ σ Q :=
  fun A bs im s fv vs kvs hA hS hf hv hk => h A bs im s fv vs kvs hA hS hf (hl.vrs hv) hk
theorem Op2.weak {f : Value → Value → Sem Value} {a b a' b' : PV} (ha : Le a a') (hb : Le b b') (h : Op2 G f a' b' ρ σ Q) : Op2 G f a b ρ σ Q :=
  fun A bs im s v w hA hS hv hw => h A bs im s v w hA hS (ha _ _ hv) (hb _ _ hw)
noncomputable def PM.up (im : PM) (m : Nat) : PM := ⟨im.f, m⟩
theorem St.up {bs im : PM} {s : Shared} (x : St G bs im s ρ σ) {m : Nat} (h1 : im.n ≤ m) (h2 : m ≤ s.toks) : Ext bs im (im.up m) ∧ St G bs (im.up m) s ρ σ := by
  have e : PMle im (im.up m) := ⟨fun _ _ h => h, h1⟩
  refine ⟨⟨e, fun a h => .inl h⟩, ⟨x.l.os, x.l.gens, x.l.cb, x.l.hbs, x.l.him, fun p hp => ?_, x.l.nd, x.l.gok, h2⟩, ?_, x.f.rn, x.f.lbs, x.f.lim, x.f.lled, x.f.cells, x.f.apart, x.f.outer, x.f.kind, x.f.gl, x.f.bi, x.f.kn, x.f.own, x.f.ck⟩
  · obtain ⟨a, b, c⟩ := x.l.led p hp
    exact ⟨a.mono e, b, c⟩
  · obtain ⟨m, a, b⟩ := x.f.vars
    exact ⟨m, a, fun p hp => let ⟨v, c, d⟩ := b p hp; ⟨v, c.mono e, d⟩⟩
theorem Post.up {bs im : PM} {s : Shared} {p : PV} {v : Value} (hS : St G bs im s ρ σ) (hv : VR (im.up s.toks) p v) (h : Q p ρ σ) : Post G VR bs im Q v s := by
  obtain ⟨e, hS'⟩ := hS.up hS.l.tk (Nat.le_refl _)
  exact ⟨_, p, ρ, σ, e, hv, hS', h⟩
theorem Ev.intB {i : Int} {k : Nat} {pos : Pos} (h : Q (.intB i) ρ σ) : Ev G (.Constant (.int i) k pos) ρ σ Q :=
  fun _ _ im s _ hS => wpAny_Constant_int (.up (hS.toks _) (VR.intB (im := im.up (s.toks + 1)) (Nat.lt_succ_self _)) h)
theorem Ev.strL {x : String} {k : Nat} {pos : Pos} (h : Q (.strL (cs x)) ρ σ) : Ev G (.Constant (.str (Str.ofString x)) k pos) ρ σ Q :=
  fun _ _ im s _ hS => Constant_str (.up (hS.toks _) (VR.strL (im := im.up (s.toks + 1)) (l := (Str.ofString x).cps.toList) (Nat.lt_succ_self _)) h)
theorem itemB_run {value slice : Expr} {l : List Nat} {i : Int} {c : Nat} (h1 : -(l.length : Int) ≤ i) (h2 : i < l.length) (hz : l.length ≤ 16777216) (hc : l[pyIx i l.length]? = some c) (h : Q (.strB [c]) ρ σ)
    (hs : SubOk slice) {A : Around} {bs im : PM} {s : Shared} {t u : Tok} (hS : St G bs im s ρ σ) (h0 : s.toks ≠ 0) : wpAny G.C.M A (subscriptTail value slice (.str ⟨l.toArray⟩ t) (.int i u)) (Post G VR bs im Q) Bot s := by
  refine tail_own (typeIs_str _ _ _) F.slot_str_getitem.lookup (P.getItem_str (c := c) ?_ ?_ (.up (hS.toks _) (VR.strB (im := im.up (s.toks + 1)) h0 (Nat.lt_succ_self _)) h)) (hs _ _)
  · simp only [Bool.or_eq_false_iff, decide_eq_false_iff_not]; walk_at "zo"
  · rw [show (⟨l.toArray⟩ : Str).length = _ from S_len l, seqIx h1 h2]
    show l.toArray[pyIx i l.length]? = _
    simpa using hc
theorem Op2.itemB {value slice : Expr} {l : List Nat} {i : Int} {c : Nat} (h1 : -(l.length : Int) ≤ i) (h2 : i < l.length) (hz : l.length ≤ 16777216) (hc : l[pyIx i l.length]? = some c) (h : Q (.strB [c]) ρ σ)
    (hs : SubOk slice := by intro _ _; rfl) : Op2 G (subscriptTail value slice) (.str l) (.intB i) ρ σ Q := fun A bs im s v w hA hS hv hw => by
  obtain ⟨t, rfl⟩ := hv.str_i
  obtain ⟨u, rfl, hu⟩ := hw.intB_i
  exact itemB_run h1 h2 hz hc h hs hS (Nat.ne_of_gt (Nat.lt_of_lt_of_le (Nat.zero_lt_of_lt hu) hS.l.tk))
theorem Op2.itemBL {value slice : Expr} {l : List Nat} {i : Int} {c : Nat} (h1 : -(l.length : Int) ≤ i) (h2 : i < l.length) (hz : l.length ≤ 16777216) (hc : l[pyIx i l.length]? = some c) (h : Q (.strB [c]) ρ σ)
    (hs : SubOk slice := by intro _ _; rfl) : Op2 G (subscriptTail value slice) (.strL l) (.int i) ρ σ Q := fun A bs im s v w hA hS hv hw => by
  obtain ⟨t, rfl, ht⟩ := hv.strL_i
  obtain ⟨u, rfl⟩ := hw.int_i
  exact itemB_run h1 h2 hz hc h hs hS (Nat.ne_of_gt (Nat.lt_of_lt_of_le (Nat.zero_lt_of_lt ht) hS.l.tk))
noncomputable abbrev KReplN (x : String) (Q : PV → Rho → Led → Prop) : PV → Rho → Led → Prop := fun p ρ₁ σ₁ => ∃ l c m, p = .str l ∧ (x, .strB [c]) ∈ ρ₁ ∧ l.length ≤ 1000000 ∧ Txt.replace (S l) (S [c]) (S []) = S m ∧ Q (.str m) ρ₁ σ₁
theorem Ev.replaceName {o : Expr} {x : String} {apos pos p1 p5 : Pos} {k2 : Nat} (h : Ev G o ρ σ (KReplN x Q)) (hst : (backTo pos (starEach [.Name (Str.ofString x) p1, .Constant (.str (Str.ofString "")) k2 p5] G.env)).any (·.1) = false := by rfl)
    (hb : attributeBase o (Str.ofString "replace") G.env (eval o G.env) = eval o G.env := by rfl) (hl : (apos.endLine == pos.line) = true := by rfl) :
    Ev G (.Call (.Attribute o (Str.ofString "replace") apos) [.Name (Str.ofString x) p1, .Constant (.str (Str.ofString "")) k2 p5] [] pos) ρ σ Q := by
  refine meth_run (ks := []) (call := fun f first ρ₁ σ₁ => ∃ l c m, f = .con (.builtin "str.replace") ∧ first = [.str l] ∧ (x, .strB [c]) ∈ ρ₁ ∧ l.length ≤ 1000000 ∧ Txt.replace (S l) (S [c]) (S []) = S m ∧ Q (.str m) ρ₁ σ₁)
    (Tr.mono h (by rintro p ρ₁ σ₁ ⟨l, c, m, e1, e2, e4, e6, e7⟩; subst e1; exact ⟨.con (.builtin "str.replace"), [.str l], MethP.str F.slot_str_replace F.type_str_replace, l, c, m, rfl, rfl, e2, e4, e6, e7⟩)) ?_ hb (by rfl) hl
  rintro f first ρ σ ⟨l, c, m, rfl, rfl, hr, hlz, hm, hQ⟩ A bs im s fv fs hA hS hf hfs
  rw [hf.con_i]
  obtain ⟨v, rfl, hv1⟩ := one_v hfs
  obtain ⟨t, rfl⟩ := hv1.str_i
  refine callWith_of (P := fun h => Keeps? G.C.M h (.builtin "str.replace")) (by rw [hst]; rfl) (fun h k => k) (evalArgs_any hst ?_)
  have hpl := (load_has (A := A) (E := Bot) (Qv := fun _ _ => True) hS hr (fun w hw => trivial)).1
  refine spliced_cons (wpAny_Name (load_has (A := A) (E := Bot) hS hr (fun w hw => ?_)).2 hpl.1)
  obtain ⟨tr, rfl, h0, hlt⟩ := hw.strB_i
  have htk := hS.l.tk
  refine spliced_cons (Constant_str (k := k2) (pos := p5) (spliced_nil ?_))
  have e0 : Str.ofString "" = S [] := by decide
  rw [e0]
  refine ⟨keeps_builtin, ?_⟩
  by_cases hv0 : s.toks = 0
  · rw [hv0] at htk; exact absurd (Nat.lt_of_lt_of_le hlt htk) (Nat.not_lt_zero _)
  refine wpAny_up (SC.replace (x := S l) (y := S [c]) (z := S []) (u := tr) (v := s.toks) h0 hv0 (Nat.ne_of_lt (Nat.lt_of_lt_of_le hlt htk)) ?_ ?_ fun t' k htk => ?_)
  · rw [S_beq]; rfl
  · show (S l).length + ((S l).length + 1) * (S []).length ≤ _; rw [S_len, S_len]; show l.length + (l.length + 1) * 0 ≤ _; walk_at "zo"
  · rw [hm]
    exact .now (hS.toks _ (by dsimp only at htk; walk_at "zo")) .str hQ
theorem CallP.maxL {l : List Int} {M : Int} (hM : M ∈ l) (hle : ∀ a ∈ l, a ≤ M) (h : Q (.int M) ρ σ) : CallP G (.con (.builtin "max")) [.lst (l.map .int)] [] ρ σ Q := .self fun A bs im s vs hA hS hv => by
  obtain ⟨v, rfl, hv1⟩ := one_v hv
  obtain ⟨a, ws, n, rfl, ho, hws⟩ := hv1.lst_i
  have hi := vrs_ints hws
  obtain ⟨xs, e⟩ := hi.allInts.items
  have hns : l = xs.toList.map (·.1) := by rw [← hi.numsOf, ← nums_intItems, ← e]
  have hsz : 0 < xs.size := by
    have h3 : 0 < l.length := List.length_pos_of_mem hM
    rw [hns, List.length_map, Array.length_toList] at h3; exact h3
  have hl : s.heap.IsList a (intItems xs) := e ▸ isList_of (hS.l.him _ _ ho)
  refine wpAny_up (max_intList hA.1 hl hsz fun v h' tk hv hk htk => ?_)
  dsimp only at htk
  obtain ⟨t, rfl⟩ := intItems_at hv
  obtain ⟨h1, h2⟩ := argBest_gt (numAt xs) (xs.size - 1)
  have e1 : numAt xs (argBest (fun i j => decide (numAt xs i > numAt xs j)) (xs.size - 1)) = M := by
    refine Int.le_antisymm (hle _ ?_) ?_
    · rw [hns, numAt_eq, List.getD_eq_getElem?_getD, List.getElem?_eq_getElem (by rw [List.length_map, Array.length_toList]; walk_at "zo")]; exact List.getElem_mem _
    · rw [hns] at hM
      obtain ⟨j, hj, rfl⟩ := List.getElem_of_mem hM
      rw [List.length_map, Array.length_toList] at hj
      have := h2 j (by walk_at "zo")
      rw [numAt_eq, List.getD_eq_getElem?_getD, List.getElem?_eq_getElem (by rw [List.length_map, Array.length_toList]; walk_at "zo")] at this
      exact this
  rw [e1]
  exact .now (hS.grow hk tk) .int h
theorem CallP.sumL {l : List Int} (h : Q (.int l.sum) ρ σ) : CallP G (.con (.builtin "sum")) [.lst (l.map .int)] [] ρ σ Q := .self fun A bs im s vs hA hS hv => by
  obtain ⟨v, rfl, hv1⟩ := one_v hv
  obtain ⟨a, ws, n, rfl, ho, hws⟩ := hv1.lst_i
  have hi := vrs_ints hws
  obtain ⟨xs, e⟩ := hi.allInts.items
  have hns : l = xs.toList.map (·.1) := by rw [← hi.numsOf, ← nums_intItems, ← e]
  have hl : s.heap.IsList a (intItems xs) := e ▸ isList_of (hS.l.him _ _ ho)
  have e2 : preSum (numAt xs) xs.size = l.sum := by
    rw [preSum_eq, List.take_of_length_le (by simp), hns]
  refine wpAny_up (sum_intListG hA.1 hl fun h' tk t' hk htk => ?_)
  dsimp only at htk
  rw [e2]
  exact .now (hS.grow hk tk) .int h
theorem CallP.index {l c : List Nat} {i : Nat} {r : List Nat} (ho : Builtin.Str.occurrences (S l) (S c) 0 (S l).length 1 = i :: r) (h : Q (.int i) ρ σ) : CallP G (.con (.builtin "str.index")) [.str l, .str c] [] ρ σ Q := .self fun A bs im s vs hA hS hv => by
  obtain ⟨v, w, rfl, hv1, hw1⟩ := two_v hv
  obtain ⟨t, rfl⟩ := hv1.str_i
  obtain ⟨u, rfl⟩ := hw1.str_i
  exact call_gives F.slot_str_index (typeIs_str _ _ _) F.entry_str_index (F.args_str_index_2 _ _) (gives_str_index _ _ t u i r ho) (.now (hS.toks _) .int h)
theorem Op2.notInT {x : PV} {ps : List PV} (hl : ∀ p ∈ ps, likeP p x = true) (h : Q (.bool (!hasP ps x)) ρ σ) : Op2 G (compareOp .NotIn) x (.tup ps) ρ σ Q := .lib h fun A im s v w Qv hA hI hv hw k => by
  obtain ⟨a, vs, n, rfl, ha, hvs⟩ := hw.tup_i
  obtain ⟨e, he, e2⟩ := any_like (A := A.in1) (s := s) hv ps vs hl hvs
  refine PySem.SeqAt.notIn_tupleAt e (items := vs.toArray) ⟨_, hI _ _ ha, rfl, n, rfl⟩ (fun y hy => he y (by simpa using hy)) ?_
  rw [List.any_toArray, e2]; exact k _ s.toks .bool
end
theorem FnSpec.drop {C : Cx} {n : Nat} {f : PV} {ps : List PV} {kw : List (String × PV)} {σ : Led} {R : PV → Prop} (h : FnSpec C n f ps kw σ (fun r _ => R r)) : FnSpec C n f ps kw σ (fun r σ' => R r ∧ σ' = []) := fun A bs im s fv vs kvs hA hS hf hv hk => by
  obtain ⟨a, b⟩ := h A bs im s fv vs kvs hA hS hf hv hk
  refine ⟨a, codeAny_mono b fun _ _ hqx => ?_⟩
  obtain ⟨v, e, im', p, σ', x, y, z, q⟩ := hqx
  exact ⟨v, e, im', p, [], x, y, z.sub (fun _ h => nomatch h) .nil, q, rfl⟩
end Mine.Tactic
end
local macro_rules | `(tactic| walk_at "zm") => `(tactic| repeat (first | exact List.Mem.head _ | apply List.Mem.tail))
local macro_rules | `(tactic| walk_at "zs") => `(tactic| repeat (first | exact Mine.Tactic.SetR.head | exact Mine.Tactic.SetR.nil | (apply Mine.Tactic.SetR.tl; decide)))
section
open PySem PySem.W PyProof.Rows PySem.Calls
set_option Elab.async false
set_option maxRecDepth 100000
namespace Mine.Tactic
noncomputable def fdOf (p : Params) (a : Addr) : FuncData := (fdAt (Kp p) a).getD default

noncomputable def LtOk (C : Cx) (n : Nat) (D : PV → Prop) (lt : PV → PV → Bool) : Prop :=
  ∀ env κ ns cn ρ σ p q (Q : PV → Rho → Led → Prop), D p → D q → Q (.bool (lt p q)) ρ σ → Op2 ⟨C, env, κ, ns, cn, n⟩ (compareOp .Lt) p q ρ σ Q
noncomputable def siftD (lt : PV → PV → Bool) (start : Nat) (x : PV) : Nat → Nat → List PV → List PV
  | 0, pos, l => l.set pos x
  | f + 1, pos, l => if start < pos then
      if lt x (l.getD ((pos - 1) / 2) .none) then siftD lt start x f ((pos - 1) / 2) (l.set pos (l.getD ((pos - 1) / 2) .none)) else l.set pos x
    else l.set pos x
theorem siftD_done {lt : PV → PV → Bool} {start : Nat} {x : PV} {f pos : Nat} {l : List PV} (h : ¬ start < pos) : siftD lt start x f pos l = l.set pos x := by
  cases f with
  | zero => rfl
  | succ f => unfold siftD; rw [if_neg h]
theorem siftD_step {lt : PV → PV → Bool} {start : Nat} {x : PV} {f pos : Nat} {l : List PV} : siftD lt start x (f + 1) pos l = if start < pos then
      if lt x (l.getD ((pos - 1) / 2) .none) then siftD lt start x f ((pos - 1) / 2) (l.set pos (l.getD ((pos - 1) / 2) .none)) else l.set pos x
    else l.set pos x := rfl
theorem getD_mem {l : List PV} {k : Nat} (h : k < l.length) : l.getD k .none ∈ l := by
  rw [List.getD_eq_getElem?_getD, List.getElem?_eq_getElem h]; exact List.getElem_mem h
theorem set_all {D : PV → Prop} {l : List PV} {k : Nat} {x : PV} (h : ∀ y ∈ l, D y) (hx : D x) : ∀ y ∈ l.set k x, D y := fun y hy => by
  rcases List.mem_or_eq_of_mem_set hy with h' | rfl
  · exact h _ h'
  · exact hx
noncomputable abbrev nsSD : Names := [("heap", .local), ("startpos", .local), ("pos", .local), ("newitem", .local), ("parentpos", .local), ("parent", .local)]
set_option maxHeartbeats 4000000 in
theorem siftdown_spec {C : Cx} {p : Params} {n : Nat} {D : PV → Prop} {lt : PV → PV → Bool} (hf : FnAt C aG__siftdown (fdOf p aG__siftdown)) (hlt : LtOk C n D lt) {H : Addr} {l : List PV} {a b : Nat} (hb : b < l.length) (hz : l.length ≤ 1000) (hD : ∀ x ∈ l, D x) :
    FnSpec C (n + 1) (.ref aG__siftdown) [.ref H, .int a, .int b] [] [(H, .list l)] (fun r σ' => r = .none ∧ σ' = [(H, .list (siftD lt a (l.getD b .none) b b l))]) := by
  refine FnSpec.of (body := ?bd) ["heap", "startpos", "pos"] [.ref H, .int a, .int b] nsSD [] [] (sc := ?sc) hf ?hb ?hsc ?hgl ?hbi ?hcl ?hok (fun p hp => nomatch hp) rfl ?_ ?_
  case hb => with_unfolding_all rfl
  case hsc => with_unfolding_all rfl
  case hgl => with_unfolding_all rfl
  case hbi => with_unfolding_all rfl
  case hcl => with_unfolding_all rfl
  case hok => kernel_rfl
  · intro im s vs kvs hk hv hkw
    obtain ⟨v, w, x, rfl, h1, h2, h3⟩ := three_v hv
    have : kvs = [] := by have := hkw.1; simpa using this
    subst this
    have e : bindArgs (fdOf p aG__siftdown) ⟨[v, w, x], []⟩ = pure ((["heap", "startpos", "pos"].map Str.ofString).zip [v, w, x]) := by kernel_rfl
    refine ⟨[v, w, x], hv, ?_⟩
    intro M A E Q h
    rw [e]
    exact wpAny_pure h
  · intro env κ
    show Ex _ _ [("heap", .ref H), ("startpos", .int a), ("pos", .int b)] _ _
    refine Ex.cons (Ex1.asg (Ev.sub (Ev.name (by walk_at "zm") (Ev.name (by walk_at "zm") (Op2.itemMn (by walk_at "zm") hb (by walk_at "zo") (As.name (by walk_at "zm") (by walk_at "zs") ?_))))))
    refine Ex.cons (Ex1.while (fun k ρ σ => ∃ l' f, σ = [(H, LO.list l')] ∧ Sub [("heap", .ref H), ("startpos", .int a), ("pos", .int (k : Int)), ("newitem", l.getD b .none)] ρ ∧ k < l'.length ∧ l'.length = l.length ∧ (∀ x ∈ l', D x) ∧ k ≤ f ∧ siftD lt a (l.getD b .none) f k l' = siftD lt a (l.getD b .none) b b l) ?_ b ?_)
    · rintro k ρ σ ⟨l', f, rfl, hs, h1, h2, h3, hkf, h4⟩
      refine Tr.rho2 ["heap", "startpos", "pos", "newitem"] hs ?_
      refine Ts.compare (Ev.name (by walk_at "zm") (Ev.name (by walk_at "zm") (Op2.gt (TrueOf.bool ?_))))
      refine ite_dec (fun hak => ?_) (fun hak => ?_)
      · obtain ⟨f, rfl⟩ : ∃ f', f = f' + 1 := ⟨f - 1, by walk_at "zo"⟩
        rw [siftD_step, if_pos (by walk_at "zo")] at h4
        refine Ex.cons (Ex1.asg (Ev.binop (Ev.binop (Ev.name (by walk_at "zm") (Ev.int (Op2.sub (Ev.int (Op2.shr (by walk_at "zo") (As.nameN (j := ((k - 1) / 2 : Nat)) ?_ (by walk_at "zm") (by walk_at "zs") ?_)))))))))
        · show ((k : Int) - 1) / 2 ^ (1 : Nat) = _
          walk_at "zo"
        have hpar : (k - 1) / 2 < l'.length := by walk_at "zo"
        refine Ex.cons (Ex1.asg (Ev.sub (Ev.name (by walk_at "zm") (Ev.name (by walk_at "zm") (Op2.itemMn (by walk_at "zm") hpar (by walk_at "zo") (As.name (by walk_at "zm") (by walk_at "zs") ?_))))))
        refine Ex.cons (Ex1.if (Ts.compare (Ev.name (by walk_at "zm") (Ev.name (by walk_at "zm") (hlt _ _ _ _ _ _ _ _ _ (hD _ (getD_mem hb)) (h3 _ (getD_mem hpar)) (TrueOf.bool ?_))))))
        refine ite_b (fun hl => ?_) (fun hl => ?_)
        · rw [if_pos hl] at h4
          refine Ex.cons (Ex1.setItem (Ev.name (by walk_at "zm") (Ev.name (by walk_at "zm") (Ev.name (by walk_at "zm") (SetP.led .head h1 (by walk_at "zo") ?_)))))
          refine Ex.cons (Ex1.asg (Ev.name (by walk_at "zm") (As.name (by walk_at "zm") (by walk_at "zs") ?_)))
          refine Ex.cons (Ex1.cont ?_)
          exact ⟨(k - 1) / 2, by walk_at "zo", _, f, rfl, .cons (by walk_at "zm") (.cons (by walk_at "zm") (.cons (by walk_at "zm") (.cons (by walk_at "zm") .nil))), by rw [List.length_set]; walk_at "zo", by rw [List.length_set]; exact h2, set_all h3 (h3 _ (getD_mem hpar)), by walk_at "zo", h4⟩
        · rw [if_neg (by rw [hl]; decide)] at h4
          refine Ex.nil ?_
          refine Ex.cons (Ex1.brk ?_)
          refine Ex.cons (Ex1.setItem (Ev.name (by walk_at "zm") (Ev.name (by walk_at "zm") (Ev.name (by walk_at "zm") (SetP.led .head h1 (by walk_at "zo") ?_)))))
          refine Ex.nil ?_
          exact ⟨rfl, by rw [h4]⟩
      · rw [siftD_done (by walk_at "zo")] at h4
        refine Ex.cons (Ex1.setItem (Ev.name (by walk_at "zm") (Ev.name (by walk_at "zm") (Ev.name (by walk_at "zm") (SetP.led .head h1 (by walk_at "zo") ?_)))))
        refine Ex.nil ?_
        exact ⟨rfl, by rw [h4]⟩
    · exact ⟨l, b, rfl, .cons (by walk_at "zm") (.cons (by walk_at "zm") (.cons (by walk_at "zm") (.cons (by walk_at "zm") .nil))), hb, rfl, hD, Nat.le_refl _, rfl⟩
end Mine.Tactic
end
section
open PySem PySem.W PyProof.Rows PySem.Calls
set_option Elab.async false
set_option maxRecDepth 100000
namespace Mine.Tactic

noncomputable def childP (lt : PV → PV → Bool) (c : Nat) (l : List PV) : Nat := if c + 1 < l.length ∧ lt (l.getD c .none) (l.getD (c + 1) .none) = false then c + 1 else c
noncomputable def siftU (lt : PV → PV → Bool) : Nat → Nat → List PV → Nat × List PV
  | 0, pos, l => (pos, l)
  | f + 1, pos, l => if 2 * pos + 1 < l.length then siftU lt f (childP lt (2 * pos + 1) l) (l.set pos (l.getD (childP lt (2 * pos + 1) l) .none)) else (pos, l)
noncomputable def siftUp (lt : PV → PV → Bool) (pos : Nat) (l : List PV) : List PV :=
  siftD lt pos (l.getD pos .none) (siftU lt l.length pos l).1 (siftU lt l.length pos l).1 ((siftU lt l.length pos l).2.set (siftU lt l.length pos l).1 (l.getD pos .none))
theorem siftU_done {lt : PV → PV → Bool} {f pos : Nat} {l : List PV} (h : ¬ 2 * pos + 1 < l.length) : siftU lt f pos l = (pos, l) := by
  cases f with
  | zero => rfl
  | succ f => unfold siftU; rw [if_neg h]
theorem siftU_step {lt : PV → PV → Bool} {f pos : Nat} {l : List PV} : siftU lt (f + 1) pos l = if 2 * pos + 1 < l.length then siftU lt f (childP lt (2 * pos + 1) l) (l.set pos (l.getD (childP lt (2 * pos + 1) l) .none)) else (pos, l) := rfl
theorem childP_lt {lt : PV → PV → Bool} {c : Nat} {l : List PV} (h : c < l.length) : c ≤ childP lt c l ∧ childP lt c l < l.length := by
  unfold childP; split <;> walk_at "zo"
noncomputable abbrev nsSU : Names := [("heap", .local), ("pos", .local), ("endpos", .local), ("startpos", .local), ("newitem", .local), ("childpos", .local), ("rightpos", .local)]
set_option maxHeartbeats 4000000 in
theorem siftup_spec {C : Cx} {p : Params} {n : Nat} {D : PV → Prop} {lt : PV → PV → Bool} (hf : FnAt C aG__siftup (fdOf p aG__siftup)) (hf' : FnAt C aG__siftdown (fdOf p aG__siftdown)) (hg : Sub [("_siftdown", .ref aG__siftdown), ("len", .con (.builtin "len"))] C.gl) (hlt : LtOk C n D lt) (hlt' : LtOk C (n + 1) D lt) {H : Addr} {l : List PV} {a : Nat} (ha : a < l.length) (hz : l.length ≤ 1000) (hD : ∀ x ∈ l, D x) :
    FnSpec C (n + 2) (.ref aG__siftup) [.ref H, .int a] [] [(H, .list l)] (fun r σ' => r = .none ∧ σ' = [(H, .list (siftUp lt a l))]) := by
  refine FnSpec.of (body := ?bd) ["heap", "pos"] [.ref H, .int a] nsSU [] [("_siftdown", .ref aG__siftdown), ("len", .con (.builtin "len"))] (sc := ?sc) hf ?hb ?hsc ?hgl ?hbi ?hcl ?hok hg rfl ?_ ?_
  case hb => with_unfolding_all rfl
  case hsc => with_unfolding_all rfl
  case hgl => with_unfolding_all rfl
  case hbi => with_unfolding_all rfl
  case hcl => with_unfolding_all rfl
  case hok => kernel_rfl
  · intro im s vs kvs hk hv hkw
    obtain ⟨v, w, rfl, h1, h2⟩ := two_v hv
    have : kvs = [] := by have := hkw.1; simpa using this
    subst this
    have e : bindArgs (fdOf p aG__siftup) ⟨[v, w], []⟩ = pure ((["heap", "pos"].map Str.ofString).zip [v, w]) := by kernel_rfl
    refine ⟨[v, w], hv, ?_⟩
    intro M A E Q h
    rw [e]
    exact wpAny_pure h
  · intro env κ
    show Ex _ _ [("_siftdown", .ref aG__siftdown), ("len", .con (.builtin "len")), ("heap", .ref H), ("pos", .int a)] _ _
    refine Ex.cons (Ex1.asg (Ev.call (by walk_at "zm") (EvL.cons (Ev.name (by walk_at "zm") (EvL.nil (CallP.lenM (by walk_at "zm") (by walk_at "zo") (As.name (by walk_at "zm") (by walk_at "zs") ?_)))))))
    refine Ex.cons (Ex1.asg (Ev.name (by walk_at "zm") (As.name (by walk_at "zm") (by walk_at "zs") ?_)))
    refine Ex.cons (Ex1.asg (Ev.sub (Ev.name (by walk_at "zm") (Ev.name (by walk_at "zm") (Op2.itemMn (by walk_at "zm") ha (by walk_at "zo") (As.name (by walk_at "zm") (by walk_at "zs") ?_))))))
    refine Ex.cons (Ex1.asg (Ev.binop (Ev.binop (Ev.int (Ev.name (by walk_at "zm") (Op2.mul (Ev.int (Op2.add (As.nameN (j := ((2 * a + 1 : Nat) : Int)) (by walk_at "zo") (by walk_at "zm") (by walk_at "zs") ?_))) ?_))))))
    refine Ex.cons (Ex1.while (fun k ρ σ => ∃ l' f pos, k = l.length - pos ∧ σ = [(H, LO.list l')] ∧ Sub [("_siftdown", .ref aG__siftdown), ("heap", .ref H), ("pos", .int (pos : Int)), ("endpos", .int l.length), ("startpos", .int a), ("newitem", l.getD a .none), ("childpos", .int ((2 * pos + 1 : Nat) : Int))] ρ ∧ pos < l.length ∧ l'.length = l.length ∧ (∀ x ∈ l', D x) ∧ l.length ≤ pos + f ∧ siftU lt f pos l' = siftU lt l.length a l) ?_ (l.length - a) ?_)
    · rintro k ρ σ ⟨l', f, pos, rfl, rfl, hs, h1, h2, h3, hkf, h4⟩
      refine Tr.rho2 ["_siftdown", "heap", "pos", "endpos", "startpos", "newitem", "childpos"] hs ?_
      refine Ts.compare (Ev.name (by walk_at "zm") (Ev.name (by walk_at "zm") (Op2.lt (TrueOf.bool ?_))))
      refine ite_dec (fun hak => ?_) (fun hak => ?_)
      · obtain ⟨f, rfl⟩ : ∃ f', f = f' + 1 := ⟨f - 1, by walk_at "zo"⟩
        rw [siftU_step, if_pos (by walk_at "zo")] at h4
        have hc := childP_lt (lt := lt) (c := 2 * pos + 1) (l := l') (by walk_at "zo")
        refine Ex.cons (Ex1.asg (Ev.binop (Ev.name (by walk_at "zm") (Ev.int (Op2.add (As.nameN (j := ((2 * pos + 1 + 1 : Nat) : Int)) (by walk_at "zo") (by walk_at "zm") (by walk_at "zs") ?_))))))
        refine Ex.cons (Tr.mono (Q := fun fl ρ₁ σ₁ => fl = Fl.next ∧ σ₁ = [(H, LO.list l')] ∧ ρ₁ = [("_siftdown", .ref aG__siftdown), ("heap", .ref H), ("pos", .int (pos : Int)), ("endpos", .int l.length), ("startpos", .int a), ("newitem", l.getD a .none), ("childpos", .int ((childP lt (2 * pos + 1) l' : Nat) : Int)), ("rightpos", .int ((2 * pos + 1 + 1 : Nat) : Int))]) (Ex1.if (Ts.bool (TsAll.and (Ts.compare (Ev.name (by walk_at "zm") (Ev.name (by walk_at "zm") (Op2.lt (TrueOf.bool ?_)))))))) ?_)
        · refine ite_dec (fun hr => ?_) (fun hr => ?_)
          · refine TsAll.and (Ts.not (Ts.compare (Ev.sub (Ev.name (by walk_at "zm") (Ev.name (by walk_at "zm") (Op2.itemMn (by walk_at "zm") (by walk_at "zo") (by walk_at "zo") (Ev.sub (Ev.name (by walk_at "zm") (Ev.name (by walk_at "zm") (Op2.itemMn (by walk_at "zm") (by walk_at "zo") (by walk_at "zo") (hlt' _ _ _ _ _ _ _ _ _ (h3 _ (getD_mem (by walk_at "zo"))) (h3 _ (getD_mem (by walk_at "zo"))) (TrueOf.bool ?_))))))))))))
            refine ite_not (ite_b (fun hl => ?_) (fun hl => ?_))
            · refine Ex.nil ⟨rfl, rfl, ?_⟩
              rw [show childP lt (2 * pos + 1) l' = 2 * pos + 1 from if_neg (by rw [hl]; simp)]
            · refine TsAll.nilAnd ?_
              refine Ex.cons (Ex1.asg (Ev.name (by walk_at "zm") (As.name (by walk_at "zm") (by walk_at "zs") ?_)))
              refine Ex.nil ⟨rfl, rfl, ?_⟩
              rw [show childP lt (2 * pos + 1) l' = 2 * pos + 1 + 1 from if_pos ⟨by walk_at "zo", hl⟩]
          · refine Ex.nil ⟨rfl, rfl, ?_⟩
            rw [show childP lt (2 * pos + 1) l' = 2 * pos + 1 from if_neg (by walk_at "zo")]
        · rintro _ _ _ ⟨rfl, rfl, rfl⟩
          refine Ex.cons (Ex1.setItem (Ev.sub (Ev.name (by walk_at "zm") (Ev.name (by walk_at "zm") (Op2.itemMn (by walk_at "zm") hc.2 (by walk_at "zo") (Ev.name (by walk_at "zm") (Ev.name (by walk_at "zm") (SetP.led .head (by walk_at "zo") (by walk_at "zo") ?_))))))))
          refine Ex.cons (Ex1.asg (Ev.name (by walk_at "zm") (As.name (by walk_at "zm") (by walk_at "zs") ?_)))
          refine Ex.cons (Ex1.asg (Ev.binop (Ev.binop (Ev.int (Ev.name (by walk_at "zm") (Op2.mul (Ev.int (Op2.add (As.nameN (j := ((2 * childP lt (2 * pos + 1) l' + 1 : Nat) : Int)) (by walk_at "zo") (by walk_at "zm") (by walk_at "zs") ?_))) ?_))))))
          · refine Ex.nil ?_
            exact ⟨l.length - childP lt (2 * pos + 1) l', by walk_at "zo", _, f, _, rfl, rfl, .cons (by walk_at "zm") (.cons (by walk_at "zm") (.cons (by walk_at "zm") (.cons (by walk_at "zm") (.cons (by walk_at "zm") (.cons (by walk_at "zm") (.cons (by walk_at "zm") .nil)))))), by walk_at "zo", by rw [List.length_set]; exact h2, set_all h3 (h3 _ (getD_mem hc.2)), by walk_at "zo", h4⟩
          · exact IntMulOk.of_left (by decide)
      · rw [siftU_done (by walk_at "zo")] at h4
        refine Ex.cons (Ex1.setItem (Ev.name (by walk_at "zm") (Ev.name (by walk_at "zm") (Ev.name (by walk_at "zm") (SetP.led .head (by walk_at "zo") (by walk_at "zo") ?_)))))
        have hx : (l'.set pos (l.getD a .none)).getD pos .none = l.getD a .none := by
          rw [List.getD_eq_getElem?_getD, List.getElem?_set_self (by walk_at "zo")]; rfl
        refine Ex.cons (Ex1.expr (Ev.call (by walk_at "zm") (EvL.cons (Ev.name (by walk_at "zm") (EvL.cons (Ev.name (by walk_at "zm") (EvL.cons (Ev.name (by walk_at "zm") (EvL.nil (CallP.of (φ := []) (siftdown_spec (p := p) hf' hlt (by rw [List.length_set]; walk_at "zo") (by rw [List.length_set]; walk_at "zo") (set_all h3 (hD _ (getD_mem ha)))) (fun _ h => h) (.inr rfl) ?_))))))))))
        rintro r σ' ⟨rfl, rfl⟩
        refine ⟨rfl, Ex.nil ⟨rfl, ?_⟩⟩
        rw [hx]
        unfold siftUp
        rw [← h4]
        rfl
    · exact ⟨l, l.length, a, rfl, rfl, .cons (by walk_at "zm") (.cons (by walk_at "zm") (.cons (by walk_at "zm") (.cons (by walk_at "zm") (.cons (by walk_at "zm") (.cons (by walk_at "zm") (.cons (by walk_at "zm") .nil)))))), ha, rfl, hD, by walk_at "zo", rfl⟩
    · exact IntMulOk.of_left (by decide)
end Mine.Tactic
end
section
open PySem PySem.W PyProof.Rows PySem.Calls
set_option Elab.async false
set_option maxRecDepth 100000
namespace Mine.Tactic

theorem siftD_len {lt : PV → PV → Bool} {start : Nat} {x : PV} : ∀ (f pos : Nat) (l : List PV), (siftD lt start x f pos l).length = l.length
  | 0, pos, l => by unfold siftD; rw [List.length_set]
  | f + 1, pos, l => by
    rw [siftD_step]
    split
    · split
      · rw [siftD_len f, List.length_set]
      · rw [List.length_set]
    · rw [List.length_set]
theorem siftU_len {lt : PV → PV → Bool} : ∀ (f pos : Nat) (l : List PV), (siftU lt f pos l).2.length = l.length
  | 0, pos, l => rfl
  | f + 1, pos, l => by
    rw [siftU_step]
    split
    · rw [siftU_len f, List.length_set]
    · rfl
theorem siftUp_len {lt : PV → PV → Bool} {pos : Nat} {l : List PV} : (siftUp lt pos l).length = l.length := by
  unfold siftUp; rw [siftD_len, List.length_set, siftU_len]
theorem siftD_all {lt : PV → PV → Bool} {start : Nat} {x : PV} {D : PV → Prop} (hx : D x) : ∀ (f pos : Nat) (l : List PV), pos < l.length → (∀ y ∈ l, D y) → ∀ y ∈ siftD lt start x f pos l, D y
  | 0, pos, l, _, h => by unfold siftD; exact set_all h hx
  | f + 1, pos, l, hp, h => by
    rw [siftD_step]
    split
    · split
      · exact siftD_all hx f _ _ (by rw [List.length_set]; walk_at "zo") (set_all h (h _ (getD_mem (by walk_at "zo"))))
      · exact set_all h hx
    · exact set_all h hx
theorem siftU_all {lt : PV → PV → Bool} {D : PV → Prop} : ∀ (f pos : Nat) (l : List PV), pos < l.length → (∀ y ∈ l, D y) → (∀ y ∈ (siftU lt f pos l).2, D y) ∧ (siftU lt f pos l).1 < l.length
  | 0, pos, l, hp, h => ⟨h, hp⟩
  | f + 1, pos, l, hp, h => by
    rw [siftU_step]
    split
    · rename_i hc
      have := childP_lt (lt := lt) hc
      have r := siftU_all (lt := lt) f (childP lt (2 * pos + 1) l) (l.set pos (l.getD (childP lt (2 * pos + 1) l) .none)) (by rw [List.length_set]; exact this.2) (set_all h (h _ (getD_mem this.2)))
      rw [List.length_set] at r
      exact r
    · exact ⟨h, hp⟩
theorem siftUp_all {lt : PV → PV → Bool} {D : PV → Prop} {pos : Nat} {l : List PV} (hp : pos < l.length) (h : ∀ y ∈ l, D y) : ∀ y ∈ siftUp lt pos l, D y := by
  obtain ⟨a, b⟩ := siftU_all (lt := lt) l.length pos l hp h
  unfold siftUp
  exact siftD_all (h _ (getD_mem hp)) _ _ _ (by rw [List.length_set, siftU_len]; exact b) (set_all a (h _ (getD_mem hp)))
noncomputable def heapifyP (lt : PV → PV → Bool) : Nat → List PV → List PV
  | 0, l => l
  | k + 1, l => heapifyP lt k (siftUp lt k l)
noncomputable def heappopP (lt : PV → PV → Bool) (l : List PV) : PV × List PV :=
  if l.length ≤ 1 then (l.getD (l.length - 1) .none, []) else (l.getD 0 .none, siftUp lt 0 (l.dropLast.set 0 (l.getD (l.length - 1) .none)))
noncomputable abbrev glH : Rho := [("_siftup", .ref aG__siftup), ("_siftdown", .ref aG__siftdown), ("len", .con (.builtin "len")), ("range", .con (.type "range")), ("reversed", .con (.type "reversed"))]
noncomputable abbrev nsHP : Names := [("heap", .local), ("lastelt", .local), ("returnitem", .local)]
set_option maxHeartbeats 4000000 in
theorem heappop_spec {C : Cx} {p : Params} {n : Nat} {D : PV → Prop} {lt : PV → PV → Bool} (hf : FnAt C aG_heappop (fdOf p aG_heappop)) (hf1 : FnAt C aG__siftup (fdOf p aG__siftup)) (hf' : FnAt C aG__siftdown (fdOf p aG__siftdown)) (hg : Sub glH C.gl) (hlt : LtOk C n D lt) (hlt' : LtOk C (n + 1) D lt) {H : Addr} {l : List PV} (ha : 0 < l.length) (hz : l.length ≤ 1000) (hD : ∀ x ∈ l, D x) :
    FnSpec C (n + 3) (.ref aG_heappop) [.ref H] [] [(H, .list l)] (fun r σ' => r = (heappopP lt l).1 ∧ σ' = [(H, .list (heappopP lt l).2)]) := by
  have hg1 : Sub [("_siftup", .ref aG__siftup)] C.gl := .cons (hg _ (by walk_at "zm")) .nil
  have hg2 : Sub [("_siftdown", .ref aG__siftdown), ("len", .con (.builtin "len"))] C.gl := .cons (hg _ (by walk_at "zm")) (.cons (hg _ (by walk_at "zm")) .nil)
  refine FnSpec.of (body := ?bd) ["heap"] [.ref H] nsHP [] [("_siftup", .ref aG__siftup)] (sc := ?sc) hf ?hb ?hsc ?hgl ?hbi ?hcl ?hok hg1 rfl ?_ ?_
  case hb => with_unfolding_all rfl
  case hsc => with_unfolding_all rfl
  case hgl => with_unfolding_all rfl
  case hbi => with_unfolding_all rfl
  case hcl => with_unfolding_all rfl
  case hok => kernel_rfl
  · intro im s vs kvs hk hv hkw
    obtain ⟨v, rfl, h1⟩ := one_v hv
    have : kvs = [] := by have := hkw.1; simpa using this
    subst this
    have e : bindArgs (fdOf p aG_heappop) ⟨[v], []⟩ = pure ((["heap"].map Str.ofString).zip [v]) := by kernel_rfl
    refine ⟨[v], hv, ?_⟩
    intro M A E Q h
    rw [e]
    exact wpAny_pure h
  · intro env κ
    have hlast : l[l.length - 1]? = some (l.getD (l.length - 1) .none) := by rw [List.getD_eq_getElem?_getD, List.getElem?_eq_getElem (by walk_at "zo")]; rfl
    have hdl : l.dropLast.length = l.length - 1 := List.length_dropLast
    have hdD : ∀ x ∈ l.dropLast, D x := fun x hx => hD x (List.dropLast_subset l hx)
    show Ex _ _ [("_siftup", .ref aG__siftup), ("heap", .ref H)] _ _
    refine Ex.cons <| Ex1.asg <| Ev.meth <| Ev.name (by walk_at "zm") ⟨_, _, MethP.led (by walk_at "zm") F.slot_list_pop F.type_list_pop, EvL.nil <| CallP.pop hlast .head (by walk_at "zo") <| As.name (by walk_at "zm") (by walk_at "zs") ?_⟩
    refine Ex.cons <| Ex1.if <| Ts.plain <| Ev.name (by walk_at "zm") <| TrueOf.led (by walk_at "zm") (by walk_at "zo") ?_
    by_cases h1 : l.length ≤ 1
    · have : l.dropLast = [] := List.length_eq_zero_iff.mp (by walk_at "zo")
      rw [this]
      show Ex _ _ _ _ _
      refine Ex.nil ?_
      refine Ex.cons <| Ex1.ret <| Ev.name (by walk_at "zm") ?_
      unfold heappopP
      rw [if_pos h1]
      exact ⟨rfl, rfl⟩
    · have hne : (!l.dropLast.isEmpty) = true := by
        cases e : l.dropLast with
        | nil => rw [e] at hdl; simp at hdl; walk_at "zo"
        | cons a r => rfl
      rw [hne]
      show Ex _ _ _ _ _
      have h0 : l.dropLast.getD 0 .none = l.getD 0 .none := by
        rw [List.getD_eq_getElem?_getD, List.getD_eq_getElem?_getD, List.getElem?_dropLast, if_pos (by walk_at "zo")]
      refine Ex.cons <| Ex1.asg <| Ev.sub <| Ev.name (by walk_at "zm") <| Ev.int <| Op2.itemMn (k := 0) (by walk_at "zm") (by walk_at "zo") (by walk_at "zo") <| As.name (by walk_at "zm") (by walk_at "zs") ?_
      refine Ex.cons <| Ex1.setItem <| Ev.name (by walk_at "zm") <| Ev.name (by walk_at "zm") <| Ev.int <| SetP.led (k := 0) .head (by walk_at "zo") (by walk_at "zo") ?_
      refine Ex.cons <| Ex1.expr <| Ev.call (by walk_at "zm") <| EvL.cons <| Ev.name (by walk_at "zm") <| EvL.cons <| Ev.int <| EvL.nil <| CallP.of (φ := []) (siftup_spec (a := 0) (p := p) hf1 hf' hg2 hlt hlt' (by rw [List.length_set]; walk_at "zo") (by rw [List.length_set]; walk_at "zo") (set_all hdD (hD _ (getD_mem (by walk_at "zo"))))) (fun _ h => h) (.inr rfl) ?_
      rintro r σ' ⟨rfl, rfl⟩
      refine ⟨rfl, ?_⟩
      refine Ex.cons <| Ex1.ret <| Ev.name (by walk_at "zm") ?_
      unfold heappopP
      rw [if_neg h1, h0]
      exact ⟨rfl, rfl⟩
end Mine.Tactic
end
section
open PySem PySem.W PyProof.Rows PySem.Calls
set_option Elab.async false
set_option maxRecDepth 100000
namespace Mine.Tactic
open Builtin.Range (rangeSize rangeFitsLong)
theorem rangeSize1 (a : Int) (m : Nat) : rangeSize a (a + m) 1 = (m : Int) := by
  unfold rangeSize
  rw [if_pos (by decide)]
  split
  · rw [Int.ediv_one]; walk_at "zo"
  · walk_at "zo"
theorem fitsLong {i : Int} (h1 : -1000000 ≤ i) (h2 : i ≤ 1000000) : rangeFitsLong i = true := by
  unfold rangeFitsLong
  simp only [Bool.and_eq_true, decide_eq_true_eq]
  constructor <;> walk_at "zo"
theorem revSmall1 {m : Nat} (h : m ≤ 1000) : revSmall 0 m 1 = true := by
  have e := rangeSize1 0 m
  rw [Int.zero_add] at e
  unfold revSmall
  rw [e, fitsLong, fitsLong, fitsLong, fitsLong, fitsLong]
  · rfl
  all_goals walk_at "zo"
theorem rints_get {a c : Int} {n i : Nat} {q : PV} (h : (rints a c n)[i]? = some q) : i < n ∧ q = .int (a + i * c) := by
  unfold rints at h
  rw [List.getElem?_map] at h
  cases e : (List.range n)[i]? with
  | none => rw [e] at h; cases h
  | some k =>
    rw [e] at h
    have hk := List.getElem?_eq_some_iff.mp e
    obtain ⟨h1, h2⟩ := hk
    rw [List.length_range] at h1
    rw [List.getElem_range] at h2
    subst h2
    cases h
    exact ⟨h1, rfl⟩
theorem rints_len {a c : Int} {n : Nat} : (rints a c n).length = n := by unfold rints; rw [List.length_map, List.length_range]
noncomputable abbrev nsHF : Names := [("x", .local), ("n", .local), ("i", .local)]
set_option maxHeartbeats 4000000 in
theorem heapify_spec {C : Cx} {p : Params} {n : Nat} {D : PV → Prop} {lt : PV → PV → Bool} (hf : FnAt C aG_heapify (fdOf p aG_heapify)) (hf1 : FnAt C aG__siftup (fdOf p aG__siftup)) (hf' : FnAt C aG__siftdown (fdOf p aG__siftdown)) (hg : Sub glH C.gl) (hlt : LtOk C n D lt) (hlt' : LtOk C (n + 1) D lt) {H : Addr} {l : List PV} (hz : l.length ≤ 1000) (hD : ∀ x ∈ l, D x) :
    FnSpec C (n + 3) (.ref aG_heapify) [.ref H] [] [(H, .list l)] (fun r σ' => r = .none ∧ σ' = [(H, .list (heapifyP lt (l.length / 2) l))]) := by
  have hg1 : Sub [("_siftup", .ref aG__siftup), ("len", .con (.builtin "len")), ("range", .con (.type "range")), ("reversed", .con (.type "reversed"))] C.gl := .cons (hg _ (by walk_at "zm")) (.cons (hg _ (by walk_at "zm")) (.cons (hg _ (by walk_at "zm")) (.cons (hg _ (by walk_at "zm")) .nil)))
  have hg2 : Sub [("_siftdown", .ref aG__siftdown), ("len", .con (.builtin "len"))] C.gl := .cons (hg _ (by walk_at "zm")) (.cons (hg _ (by walk_at "zm")) .nil)
  refine FnSpec.of (body := ?bd) ["x"] [.ref H] nsHF [] [("_siftup", .ref aG__siftup), ("len", .con (.builtin "len")), ("range", .con (.type "range")), ("reversed", .con (.type "reversed"))] (sc := ?sc) hf ?hb ?hsc ?hgl ?hbi ?hcl ?hok hg1 rfl ?_ ?_
  case hb => with_unfolding_all rfl
  case hsc => with_unfolding_all rfl
  case hgl => with_unfolding_all rfl
  case hbi => with_unfolding_all rfl
  case hcl => with_unfolding_all rfl
  case hok => kernel_rfl
  · intro im s vs kvs hk hv hkw
    obtain ⟨v, rfl, h1⟩ := one_v hv
    have : kvs = [] := by have := hkw.1; simpa using this
    subst this
    have e : bindArgs (fdOf p aG_heapify) ⟨[v], []⟩ = pure ((["x"].map Str.ofString).zip [v]) := by kernel_rfl
    refine ⟨[v], hv, ?_⟩
    intro M A E Q h
    rw [e]
    exact wpAny_pure h
  · intro env κ
    have hm : ((l.length : Int) / 2) = ((l.length / 2 : Nat) : Int) := by walk_at "zo"
    show Ex _ _ [("_siftup", .ref aG__siftup), ("len", .con (.builtin "len")), ("range", .con (.type "range")), ("reversed", .con (.type "reversed")), ("x", .ref H)] _ _
    refine Ex.cons <| Ex1.asg <| Ev.call (by walk_at "zm") <| EvL.cons <| Ev.name (by walk_at "zm") <| EvL.nil <| CallP.lenM (by walk_at "zm") (by walk_at "zo") <| As.name (by walk_at "zm") (by walk_at "zs") ?_
    refine Ex.cons <| Ex1.for <| Ev.call (by walk_at "zm") <| EvL.cons <| Ev.call (by walk_at "zm") <| EvL.cons <| Ev.binop <| Ev.name (by walk_at "zm") <| Ev.int <| Op2.fdiv (by walk_at "zo") (by walk_at "zo") <| EvL.nil <| CallP.range1 <| EvL.nil <| CallP.reversed (n := l.length / 2) (by rw [hm]; exact revSmall1 (by walk_at "zo")) (by rw [hm]; have := rangeSize1 0 (l.length / 2); rw [Int.zero_add] at this; exact this) fun I => ⟨_, [], [(H, .list l)], _, ItSrc.rit, fun _ h => h, .inr rfl, List.nodup_nil, ?_⟩
    refine ForT.inv (fun k ρ σ => ∃ l', σ = [(H, LO.list l')] ∧ Sub [("_siftup", .ref aG__siftup), ("x", .ref H)] ρ ∧ l'.length = l.length ∧ (∀ x ∈ l', D x) ∧ heapifyP lt (l.length / 2 - k) l' = heapifyP lt (l.length / 2) l) _ 0 ?_ ?_ ?_
    · rintro i q ρ σ hq ⟨l', rfl, hs, h1, h2, h3⟩
      obtain ⟨hi, rfl⟩ := rints_get hq
      obtain ⟨j, hj⟩ : ∃ j, l.length / 2 - (0 + i) = j + 1 := ⟨l.length / 2 - i - 1, by walk_at "zo"⟩
      rw [hj] at h3
      refine Con.rho2 ["_siftup", "x"] hs ?_
      refine As.nameN (j := (j : Int)) (by walk_at "zo") (by walk_at "zm") (by walk_at "zs") ?_
      refine Ex.cons <| Ex1.expr <| Ev.call (by walk_at "zm") <| EvL.cons <| Ev.name (by walk_at "zm") <| EvL.cons <| Ev.name (by walk_at "zm") <| EvL.nil <| CallP.of (φ := []) (siftup_spec (p := p) hf1 hf' hg2 hlt hlt' (by walk_at "zo") (by walk_at "zo") h2) (fun _ h => h) (.inr rfl) ?_
      rintro r σ' ⟨rfl, rfl⟩
      refine ⟨rfl, Ex.nil ?_⟩
      refine ⟨_, rfl, .cons (by walk_at "zm") (.cons (by walk_at "zm") .nil), by rw [siftUp_len]; exact h1, siftUp_all (by walk_at "zo") h2, ?_⟩
      rw [← h3, show l.length / 2 - (0 + i + 1) = j by walk_at "zo"]; rfl
    · exact ⟨l, rfl, .cons (by walk_at "zm") (.cons (by walk_at "zm") .nil), rfl, hD, rfl⟩
    · rintro ρ σ ⟨l', rfl, hs, h1, h2, h3⟩
      rw [rints_len, show l.length / 2 - (0 + l.length / 2) = 0 by walk_at "zo"] at h3
      refine Ex.nil ⟨rfl, ?_⟩
      rw [← h3]; rfl
end Mine.Tactic
end
local macro_rules | `(tactic| walk_at "zb") => `(tactic| repeat (first | exact Mine.Tactic.Sub.nil | refine Mine.Tactic.Sub.cons (by walk_at "zm") ?_))
section
open PySem PySem.W PyProof.Rows PySem.Calls
set_option Elab.async false
set_option maxRecDepth 100000
namespace Mine.Tactic

structure HdrK (C : Cx) (p : Params) (cN cV : Array Nat) : Prop where
  cls : ClsOk C.K aG_Headers
  fget : findIn C.K (.ref aG_Headers) (Str.ofString "get") = some (some (.ref aM_get))
  fconv : findIn C.K (.ref aG_Headers) (Str.ofString "_convert_string_type") = some (some (.ref aM__convert_string_type))
  fset : findIn C.K (.ref aG_Headers) (Str.ofString "setdefault") = some (some (.ref aM_setdefault))
  fval : findIn C.K (.ref aG_Headers) (Str.ofString "values") = some (some (.ref aM_values))
  finit : findIn C.K (.ref aG_Headers) (Str.ofString "__init__") = some (some (.ref aM___init__))
  fhd : findIn C.K (.ref aG_Headers) (Str.ofString "_headers") = some none
  ftk : takerIn C.K aG_Headers (Str.ofString "_headers") = some none
  tget : typeIn C.K (.ref aM_get) = some (.type "function")
  tconv : typeIn C.K (.ref aM__convert_string_type) = some (.type "function")
  tset : typeIn C.K (.ref aM_setdefault) = some (.type "function")
  tval : typeIn C.K (.ref aM_values) = some (.type "function")
  tinit : typeIn C.K (.ref aM___init__) = some (.type "function")
  keep : keepIn C.K (.ref aG_Headers) = true
  reN : ReAt C.K aG__name_disallowed_re cN
  reV : ReAt C.K aG__value_disallowed_re cV
  conv : FnAt C aM__convert_string_type (fdOf p aM__convert_string_type)
  get : FnAt C aM_get (fdOf p aM_get)
  set : FnAt C aM_setdefault (fdOf p aM_setdefault)
  val : FnAt C aM_values (fdOf p aM_values)
  init : FnAt C aM___init__ (fdOf p aM___init__)
  gl : Sub [("type", .con (.type "type")), ("str", .con (.type "str")), ("list", .con (.type "list")), ("_name_disallowed_re", .con (.ref aG__name_disallowed_re)), ("_value_disallowed_re", .con (.ref aG__value_disallowed_re))] C.gl
noncomputable abbrev nsCV : Names := [("self", .local), ("value", .local), ("name", .local), ("regex", .local)]
theorem kw1 {im : PM} {x : String} {q : PV} {kvs : List (Str × Value)} (h : KwR im [(x, q)] kvs) : ∃ v, kvs = [(Str.ofString x, v)] ∧ VR im q v := by
  obtain ⟨h1, h2⟩ := h
  obtain ⟨v, rfl⟩ := kvs1 h1
  obtain ⟨v', e, hv⟩ := one_v h2
  injection e with e _
  subst e
  exact ⟨v, rfl, hv⟩
set_option maxHeartbeats 4000000 in
theorem conv_spec {C : Cx} {p : Params} {n : Nat} {cN cV : Array Nat} (K : HdrK C p cN cV) {me q : PV} {l : List Nat} {b : Bool} (hq : Le q (.str l)) (hm : missB (if b then cN else cV) l = true) (hz : l.length ≤ 1000) :
    FnSpec C (n + 1) (.ref aM__convert_string_type) [me, q] [("name", .bool b)] [] (fun r σ' => r = q ∧ σ' = []) := by
  have hg : Sub [("type", .con (.type "type")), ("str", .con (.type "str")), ("_name_disallowed_re", .con (.ref aG__name_disallowed_re)), ("_value_disallowed_re", .con (.ref aG__value_disallowed_re))] C.gl :=
    .cons (K.gl _ (by walk_at "zm")) (.cons (K.gl _ (by walk_at "zm")) (.cons (K.gl _ (by walk_at "zm")) (.cons (K.gl _ (by walk_at "zm")) .nil)))
  refine FnSpec.of (body := ?bd) ["self", "value", "name"] [me, q, .bool b] nsCV [] [("type", .con (.type "type")), ("str", .con (.type "str")), ("_name_disallowed_re", .con (.ref aG__name_disallowed_re)), ("_value_disallowed_re", .con (.ref aG__value_disallowed_re))] (sc := ?sc) K.conv ?hb ?hsc ?hgl ?hbi ?hcl ?hok hg rfl ?_ ?_
  case hb => with_unfolding_all rfl
  case hsc => with_unfolding_all rfl
  case hgl => with_unfolding_all rfl
  case hbi => with_unfolding_all rfl
  case hcl => with_unfolding_all rfl
  case hok => kernel_rfl
  · intro im s vs kvs hk hv hkw
    obtain ⟨v, w, rfl, h1, h2⟩ := two_v hv
    obtain ⟨x, rfl, h3⟩ := kw1 hkw
    have e : bindArgs (fdOf p aM__convert_string_type) ⟨[v, w], [(Str.ofString "name", x)]⟩ = pure ((["self", "value", "name"].map Str.ofString).zip [v, w, x]) := by kernel_rfl
    refine ⟨[v, w, x], .cons h1 (.cons h2 (.cons h3 .nil)), ?_⟩
    intro M A E Q h
    rw [e]
    exact wpAny_pure h
  · intro env κ
    show Ex _ _ [("type", .con (.type "type")), ("str", .con (.type "str")), ("_name_disallowed_re", .con (.ref aG__name_disallowed_re)), ("_value_disallowed_re", .con (.ref aG__value_disallowed_re)), ("self", me), ("value", q), ("name", .bool b)] _ _
    refine Ex.cons <| Ex1.if <| Ts.compare <| Ev.call (by walk_at "zm") <| EvL.cons <| Ev.name (by walk_at "zm") <| EvL.nil <| CallP.weak (.cons hq .nil) <| CallP.typeStr <| Ev.name (by walk_at "zm") <| Op2.isType <| TrueOf.bool ?_
    rw [show (Value.type "str" == Value.type "str") = true from by decide]
    show Ex _ _ _ _ _
    cases b with
    | true =>
      refine Ex.cons <| Ex1.asg <| Ev.ifexp <| Ts.plain <| Ev.name (by walk_at "zm") <| TrueOf.bool ?_
      show Ev _ _ _ _ _
      refine Ev.name (by walk_at "zm") <| As.name (by walk_at "zm") (by walk_at "zs") ?_
      refine Ex.cons <| Ex1.if <| Ts.plain <| Ev.meth <| Ev.name (by walk_at "zm") ⟨_, _, MethP.search K.reN, EvL.cons <| Ev.name (by walk_at "zm") <| EvL.nil <| CallP.weak (.cons .refl (.cons hq .nil)) <| CallP.search K.reN hm (by walk_at "zo") <| TrueOf.none ?_⟩
      show Ex _ _ _ _ _
      refine Ex.nil ?_
      refine Ex.cons <| Ex1.ret <| Ev.name (by walk_at "zm") ⟨rfl, rfl⟩
    | false =>
      refine Ex.cons <| Ex1.asg <| Ev.ifexp <| Ts.plain <| Ev.name (by walk_at "zm") <| TrueOf.bool ?_
      show Ev _ _ _ _ _
      refine Ev.name (by walk_at "zm") <| As.name (by walk_at "zm") (by walk_at "zs") ?_
      refine Ex.cons <| Ex1.if <| Ts.plain <| Ev.meth <| Ev.name (by walk_at "zm") ⟨_, _, MethP.search K.reV, EvL.cons <| Ev.name (by walk_at "zm") <| EvL.nil <| CallP.weak (.cons .refl (.cons hq .nil)) <| CallP.search K.reV hm (by walk_at "zo") <| TrueOf.none ?_⟩
      show Ex _ _ _ _ _
      refine Ex.nil ?_
      refine Ex.cons <| Ex1.ret <| Ev.name (by walk_at "zm") ⟨rfl, rfl⟩
theorem binds_lit {s : Shared} {fd lit : FuncData} {args : Args} {b : List (Str × Value)} (e : fd = lit) (h : BindsTo s lit args b) : BindsTo s fd args b := e ▸ h

noncomputable abbrev Hdrs := List (List Nat × PV)
noncomputable def hdrP (h : List Nat × PV) : PV := .tup [.str h.1, h.2]
structure NamesOk (cN cV : Array Nat) (N V : List Nat → Prop) (low : List Nat → List Nat) : Prop where
  low : ∀ k, N k → Txt.lower (S k) = S (low k) ∧ k.length ≤ 1000 ∧ (low k).length ≤ 1000 ∧ missB cN k = true ∧ missB cN (low k) = true
  val : ∀ v, V v → v.length ≤ 1000 ∧ missB cV v = true
noncomputable def getP (low : List Nat → List Nat) (hs : Hdrs) (key : List Nat) : PV := match hs.find? (fun h => low h.1 == key) with | some h => h.2 | none => .none
noncomputable abbrev nsGT : Names := [("self", .local), ("name", .local), ("default", .local), ("k", .local), ("v", .local)]
noncomputable abbrev hdO (L : Addr) : PV := .obj aG_Headers [("_headers", .ref L)]
set_option maxHeartbeats 4000000 in
theorem get_spec {C : Cx} {p : Params} {n : Nat} {cN cV : Array Nat} {N V : List Nat → Prop} {low : List Nat → List Nat} (K : HdrK C p cN cV) (O : NamesOk cN cV N V low) (hd : C.K.lookup aD_get = some (tupO [.none] 0)) {L : Addr} {hs : Hdrs} {x : List Nat} (hx : N x) (hN : ∀ h ∈ hs, N h.1) (hz : hs.length ≤ 1000) :
    FnSpec C (n + 2) (.ref aM_get) [hdO L, .str x] [] [(L, .list (hs.map hdrP))] (fun r σ' => r = getP low hs (low x) ∧ σ' = [(L, .list (hs.map hdrP))]) := by
  refine FnSpec.of (body := ?bd) ["self", "name", "default"] [hdO L, .str x, .none] nsGT [] [] (sc := ?sc) K.get ?hb ?hsc ?hgl ?hbi ?hcl ?hok (fun p hp => nomatch hp) rfl ?_ ?_
  case hb => with_unfolding_all rfl
  case hsc => with_unfolding_all rfl
  case hgl => with_unfolding_all rfl
  case hbi => with_unfolding_all rfl
  case hcl => with_unfolding_all rfl
  case hok => kernel_rfl
  · intro im s vs kvs hk hv hkw
    obtain ⟨v, w, rfl, h1, h2⟩ := two_v hv
    have : kvs = [] := by have := hkw.1; simpa using this
    subst this
    refine ⟨[v, w, .none], .cons h1 (.cons h2 (.cons .none .nil)), ?_⟩
    refine binds_lit (lit := ?lit) ?e ?_
    case e => with_unfolding_all rfl
    refine BindsTo.of_defaults (k := ?k) rfl (hk _ _ hd) rfl ?h1 ?h2
    case h1 => rfl
    case h2 => kernel_rfl
  · intro env κ
    obtain ⟨o1, o2, o3, o4, o5⟩ := O.low x hx
    show Ex _ _ [("self", hdO L), ("name", .str x), ("default", .none)] _ _
    refine Ex.cons <| Ex1.asg <| Ev.methK ["name"] <| Ev.name (by walk_at "zm") ⟨_, _, MethP.obj K.cls K.fconv K.tconv (by decide), EvL.cons <| Ev.meth <| Ev.name (by walk_at "zm") ⟨_, _, MethP.str F.slot_str_lower F.type_str_lower, EvL.nil <| CallP.lower o1 (by walk_at "zo") <| EvL.nil <| EvK.cons <| Ev.bool <| EvK.nil ⟨rfl, CallP.of (φ := [(L, .list (hs.map hdrP))]) (conv_spec K (b := true) .refl o5 (by walk_at "zo")) (by simp) (.inr (by simp)) ?_⟩⟩⟩
    rintro r σ' ⟨rfl, rfl⟩
    refine As.name (by walk_at "zm") (by walk_at "zs") ?_
    refine Ex.cons <| Ex1.for <| Ev.attr <| Ev.name (by walk_at "zm") <| Op1.field K.cls K.fhd rfl ⟨[(L, .list (hs.map hdrP))], [(L, .list (hs.map hdrP))], [], _, ItSrc.led, fun _ h => h, .inr rfl, by simp, ?_⟩
    refine ForT.inv (fun k ρ σ => σ = [] ∧ Sub [("name", .str (low x)), ("default", .none)] ρ ∧ ∀ h ∈ hs.take k, (low h.1 == low x) = false) _ 0 ?_ ?_ ?_
    · rintro i q ρ σ hq ⟨rfl, hs', h1⟩
      rw [List.getElem?_map] at hq
      cases e : hs[i]? with
      | none => rw [e] at hq; cases hq
      | some h =>
        rw [e] at hq
        cases hq
        have hmem := List.mem_of_getElem? e
        obtain ⟨l1, l2, l3, l4, l5⟩ := O.low h.1 (hN h hmem)
        refine Con.rho2 ["name", "default"] hs' ?_
        refine As.tup (ps := [.str h.1, h.2]) (As.name (by walk_at "zm") (by walk_at "zs") <| As.name (by walk_at "zm") (by walk_at "zs") ?_) rfl rfl
        refine Ex.cons <| Ex1.if <| Ts.compare <| Ev.meth <| Ev.name (by walk_at "zm") ⟨_, _, MethP.str F.slot_str_lower F.type_str_lower, EvL.nil <| CallP.lower l1 (by walk_at "zo") <| Ev.name (by walk_at "zm") <| Op2.eqS <| TrueOf.bool ?_⟩
        refine ite_b (fun hl => ?_) (fun hl => ?_)
        · refine Ex.cons <| Ex1.ret <| Ev.name (by walk_at "zm") ?_
          refine ⟨?_, rfl⟩
          unfold getP
          have : hs.find? (fun h => low h.1 == low x) = some h := by
            rw [List.find?_eq_some_iff_getElem]
            obtain ⟨hi, he⟩ := List.getElem?_eq_some_iff.mp e
            refine ⟨hl, i, hi, he, fun j hj => ?_⟩
            have := h1 hs[j] (by rw [List.mem_take_iff_getElem]; exact ⟨j, by walk_at "zo", rfl⟩)
            rw [this]; rfl
          rw [this]
        · refine Ex.nil ?_
          refine Ex.nil ?_
          refine ⟨rfl, .cons (by walk_at "zm") (.cons (by walk_at "zm") .nil), fun g hg => ?_⟩
          rw [show 0 + i + 1 = i + 1 by walk_at "zo", List.take_add_one, e] at hg
          rcases List.mem_append.mp hg with hg | hg
          · exact h1 g (by rw [show 0 + i = i by walk_at "zo"]; exact hg)
          · rw [List.mem_singleton.mp hg]; exact hl
    · exact ⟨rfl, .cons (by walk_at "zm") (.cons (by walk_at "zm") .nil), fun h hh => by simp at hh⟩
    · rintro ρ σ ⟨rfl, hs', h1⟩
      rw [List.length_map, Nat.zero_add, List.take_length] at h1
      refine Tr.rho2 ["name", "default"] hs' ?_
      refine Ex.cons <| Ex1.ret <| Ev.name (by walk_at "zm") ?_
      refine ⟨?_, rfl⟩
      unfold getP
      rw [List.find?_eq_none.mpr fun h hh => by rw [h1 h hh]; decide]
noncomputable def setP (low : List Nat → List Nat) (hs : Hdrs) (x : List Nat) (v : PV) : PV × Hdrs := match hs.find? (fun h => low h.1 == low x) with | some h => (h.2, hs) | none => (v, hs ++ [(x, v)])
noncomputable abbrev nsSE : Names := [("self", .local), ("name", .local), ("value", .local), ("result", .local)]
set_option maxHeartbeats 4000000 in
theorem set_spec {C : Cx} {p : Params} {n : Nat} {cN cV : Array Nat} {N V : List Nat → Prop} {low : List Nat → List Nat} (K : HdrK C p cN cV) (O : NamesOk cN cV N V low) (hd : C.K.lookup aD_get = some (tupO [.none] 0)) {L : Addr} {hs : Hdrs} {x v : List Nat} {q : PV} (hq : Le q (.str v)) (hx : N x) (hv : V v) (hN : ∀ h ∈ hs, N h.1) (hL : ∀ h ∈ hs, ∃ l, Le h.2 (.str l)) (hz : hs.length ≤ 1000) :
    FnSpec C (n + 3) (.ref aM_setdefault) [hdO L, .str x, q] [] [(L, .list (hs.map hdrP))] (fun r σ' => r = (setP low hs x q).1 ∧ σ' = [(L, .list ((setP low hs x q).2.map hdrP))]) := by
  refine FnSpec.of (body := ?bd) ["self", "name", "value"] [hdO L, .str x, q] nsSE [] [] (sc := ?sc) K.set ?hb ?hsc ?hgl ?hbi ?hcl ?hok (fun p hp => nomatch hp) rfl ?_ ?_
  case hb => with_unfolding_all rfl
  case hsc => with_unfolding_all rfl
  case hgl => with_unfolding_all rfl
  case hbi => with_unfolding_all rfl
  case hcl => with_unfolding_all rfl
  case hok => kernel_rfl
  · intro im s vs kvs hk hv hkw
    obtain ⟨v, w, x, rfl, h1, h2, h3⟩ := three_v hv
    have : kvs = [] := by have := hkw.1; simpa using this
    subst this
    have e : bindArgs (fdOf p aM_setdefault) ⟨[v, w, x], []⟩ = pure ((["self", "name", "value"].map Str.ofString).zip [v, w, x]) := by kernel_rfl
    refine ⟨[v, w, x], hv, ?_⟩
    intro M A E Q h
    rw [e]
    exact wpAny_pure h
  · intro env κ
    obtain ⟨o1, o2, o3, o4, o5⟩ := O.low x hx
    obtain ⟨w1, w2⟩ := O.val v hv
    show Ex _ _ [("self", hdO L), ("name", .str x), ("value", q)] _ _
    refine Ex.cons <| Ex1.asg <| Ev.meth <| Ev.name (by walk_at "zm") ⟨_, _, MethP.obj K.cls K.fget K.tget (by decide), EvL.cons <| Ev.name (by walk_at "zm") <| EvL.nil <| CallP.of (φ := []) (get_spec K O hd hx hN hz) (fun _ h => h) (.inr rfl) ?_⟩
    rintro r σ' ⟨rfl, rfl⟩
    refine As.name (by walk_at "zm") (by walk_at "zs") ?_
    unfold setP getP
    cases e0 : hs.find? (fun h => low h.1 == low x) with
    | none =>
      refine Ex.cons <| Ex1.if <| Ts.compare <| Ev.name (by walk_at "zm") <| Ev.none <| Op2.isNone nn_none <| TrueOf.bool ?_
      show Ex _ _ _ _ _
      refine Ex.cons <| Ex1.expr <| Ev.meth <| Ev.attr <| Ev.name (by walk_at "zm") <| Op1.field K.cls K.fhd rfl ⟨_, _, MethP.led (by walk_at "zm") F.slot_list_append F.type_list_append, EvL.cons <| Ev.tuple <| EvL.cons <| Ev.methK ["name"] <| Ev.name (by walk_at "zm") ⟨_, _, MethP.obj K.cls K.fconv K.tconv (by decide), EvL.cons <| Ev.name (by walk_at "zm") <| EvL.nil <| EvK.cons <| Ev.bool <| EvK.nil ⟨rfl, CallP.of (φ := [(L, .list (hs.map hdrP))]) (conv_spec K (b := true) .refl o4 (by walk_at "zo")) (by simp) (.inr (by simp)) ?_⟩⟩⟩
      rintro r σ' ⟨rfl, rfl⟩
      refine EvL.cons <| Ev.methK ["name"] <| Ev.name (by walk_at "zm") ⟨_, _, MethP.obj K.cls K.fconv K.tconv (by decide), EvL.cons <| Ev.name (by walk_at "zm") <| EvL.nil <| EvK.cons <| Ev.bool <| EvK.nil ⟨rfl, CallP.of (φ := [(L, .list (hs.map hdrP))]) (conv_spec K (b := false) hq w2 (by walk_at "zo")) (by simp) (.inr (by simp)) ?_⟩⟩
      rintro r σ' ⟨rfl, rfl⟩
      refine EvL.nil ⟨by simp, EvL.nil <| CallP.append .head (by rw [List.length_map]; walk_at "zo") ⟨rfl, ?_⟩⟩
      refine Ex.cons <| Ex1.ret <| Ev.name (by walk_at "zm") ⟨rfl, ?_⟩
      simp [hdrP]
    | some h =>
      obtain ⟨l0, hl0⟩ := hL h (List.mem_of_find?_eq_some e0)
      refine Ex.cons <| Ex1.if <| Ts.compare <| Ev.name (by walk_at "zm") <| Ev.none <| Op2.isNone (fun im v hv => nn_str im v (hl0 im v hv)) <| TrueOf.bool ?_
      show Ex _ _ _ _ _
      refine Ex.cons <| Ex1.ret <| Ev.name (by walk_at "zm") ⟨rfl, rfl⟩
noncomputable abbrev nsIN : Names := [("self", .local), ("headers", .local), ("k", .local), ("v", .local)]
set_option maxHeartbeats 4000000 in
theorem init_spec {C : Cx} {p : Params} {n : Nat} {cN cV : Array Nat} (K : HdrK C p cN cV) (hd : C.K.lookup aD___init__ = some (tupO [.none] 0)) {x d : Addr} :
    FnSpec C (n + 1) (.ref aM___init__) [.ref x] [] [(x, .ins aG_Headers d), (d, .att [])] (fun r σ' => r = .none ∧ ∃ l σ'', σ' = (x, .ins aG_Headers d) :: (d, .att l) :: σ'' ∧ ∃ D, l = [("_headers", .ref D)] ∧ σ'' = [(D, .list [])]) := by
  have hg : Sub [("type", .con (.type "type")), ("list", .con (.type "list"))] C.gl := .cons (K.gl _ (by walk_at "zm")) (.cons (K.gl _ (by walk_at "zm")) .nil)
  refine FnSpec.of (body := ?bd) ["self", "headers"] [.ref x, .none] nsIN [] [("type", .con (.type "type")), ("list", .con (.type "list"))] (sc := ?sc) K.init ?hb ?hsc ?hgl ?hbi ?hcl ?hok hg rfl ?_ ?_
  case hb => with_unfolding_all rfl
  case hsc => with_unfolding_all rfl
  case hgl => with_unfolding_all rfl
  case hbi => with_unfolding_all rfl
  case hcl => with_unfolding_all rfl
  case hok => kernel_rfl
  · intro im s vs kvs hk hv hkw
    obtain ⟨v, rfl, h1⟩ := one_v hv
    have : kvs = [] := by have := hkw.1; simpa using this
    subst this
    refine ⟨[v, .none], .cons h1 (.cons .none .nil), ?_⟩
    refine binds_lit (lit := ?lit) ?e ?_
    case e => with_unfolding_all rfl
    refine BindsTo.of_defaults (k := ?k) rfl (hk _ _ hd) rfl ?h1 ?h2
    case h1 => rfl
    case h2 => kernel_rfl
  · intro env κ
    show Ex _ _ [("type", .con (.type "type")), ("list", .con (.type "list")), ("self", .ref x), ("headers", .none)] _ _
    refine Ex.cons <| Ex1.asg <| Ev.ifexp <| Ts.compare <| Ev.name (by walk_at "zm") <| Ev.none <| Op2.isNotNone nn_none <| TrueOf.bool ?_
    show Ev _ _ _ _ _
    refine Ev.listM <| EvL.nil ⟨by simp, fun D => As.name (by walk_at "zm") (by walk_at "zs") ?_⟩
    refine Ex.cons <| Ex1.if <| Ts.compare <| Ev.call (by walk_at "zm") <| EvL.cons <| Ev.name (by walk_at "zm") <| EvL.nil <| CallP.typeLed (by walk_at "zm") <| Ev.name (by walk_at "zm") <| Op2.isNotType <| TrueOf.bool ?_
    rw [show (!(Value.type "list" == Value.type "list")) = false from by decide]
    show Ex _ _ _ _ _
    refine Ex.nil ?_
    refine Ex.cons <| Ex1.setField <| Ev.name (by walk_at "zm") <| Ev.name (by walk_at "zm") ⟨aG_Headers, x, d, _, rfl, K.cls, K.ftk, by walk_at "zm", .tail (.tail .head), ?_⟩
    refine Ex.cons <| Ex1.if <| Ts.plain <| Ev.bool <| TrueOf.bool ?_
    show Ex _ _ _ _ _
    refine Ex.cons <| Ex1.for <| Ev.name (by walk_at "zm") ⟨[(D, .list [])], [(D, .list [])], [(x, .ins aG_Headers d), (d, .att [("_headers", .ref D)])], [], ItSrc.led, fun _ h => h, .inr rfl, by simp, ?_⟩
    refine Ex.nil ?_
    refine Tr.led (σ' := [(x, .ins aG_Headers d), (d, .att [("_headers", .ref D)]), (D, .list [])]) (by intro q hq; simp at hq ⊢; rcases hq with h | h | h <;> simp [h]) (fun hn => ?_) ?_
    · have e : ([(x, LO.ins aG_Headers d), (d, .att [("_headers", .ref D)]), (D, .list [])].map (·.1)) = [x, d, D] := rfl
      have e2 : (([(D, LO.list [])] ++ [(x, LO.ins aG_Headers d), (d, .att [("_headers", .ref D)])]).map (·.1)) = [D, x, d] := rfl
      rw [e2] at hn
      rw [e]
      simp at hn ⊢
      exact ⟨⟨hn.2, Ne.symm hn.1.1⟩, Ne.symm hn.1.2⟩
    · exact Ex.nil ⟨rfl, _, _, rfl, D, rfl, rfl⟩
theorem new_spec {C : Cx} {p : Params} {n : Nat} {cN cV : Array Nat} (K : HdrK C p cN cV) (hd : C.K.lookup aD___init__ = some (tupO [.none] 0)) :
    FnSpec C (n + 2) (.ref aG_Headers) [] [] [] (fun r σ' => ∃ D, r = hdO D ∧ σ' = [(D, .list [])]) :=
  FnSpec.make K.cls K.finit K.tinit K.keep fun x d => FnSpec.mono (init_spec (n := n) K hd) fun r σ' ⟨h1, l, σ'', h2, D, h3, h4⟩ => ⟨h1, l, σ'', h2, D, by rw [h3], h4⟩
noncomputable abbrev nsVA : Names := [("self", .local)]
set_option maxHeartbeats 4000000 in
theorem values_spec {C : Cx} {p : Params} {n : Nat} {cN cV : Array Nat} (K : HdrK C p cN cV) {L : Addr} {hs : Hdrs} (hz : hs.length ≤ 1000) :
    FnSpec C (n + 1) (.ref aM_values) [hdO L] [] [(L, .list (hs.map hdrP))] (fun r σ' => r = .lst (hs.map (·.2)) ∧ σ' = [(L, .list (hs.map hdrP))]) := by
  refine FnSpec.of (body := ?bd) ["self"] [hdO L] nsVA [] [] (sc := ?sc) K.val ?hb ?hsc ?hgl ?hbi ?hcl ?hok (fun p hp => nomatch hp) rfl ?_ ?_
  case hb => with_unfolding_all rfl
  case hsc => with_unfolding_all rfl
  case hgl => with_unfolding_all rfl
  case hbi => with_unfolding_all rfl
  case hcl => with_unfolding_all rfl
  case hok => kernel_rfl
  · intro im s vs kvs hk hv hkw
    obtain ⟨v, rfl, h1⟩ := one_v hv
    have : kvs = [] := by have := hkw.1; simpa using this
    subst this
    have e : bindArgs (fdOf p aM_values) ⟨[v], []⟩ = pure ((["self"].map Str.ofString).zip [v]) := by kernel_rfl
    refine ⟨[v], hv, ?_⟩
    intro M A E Q h
    rw [e]
    exact wpAny_pure h
  · intro env κ
    show Ex _ _ [("self", hdO L)] _ _
    refine Ex.cons <| Ex1.ret <| Ev.comp (hsc := ?hsc) <| Ev.attr <| Ev.name (by walk_at "zm") <| Op1.field K.cls K.fhd rfl ⟨[(L, .list (hs.map hdrP))], [(L, .list (hs.map hdrP))], [], _, [("k", .local), ("v", .local)], [], [], [], ItSrc.led, fun _ h => h, .inr rfl, by simp, ?hck, (fun _ h => nomatch h), (fun _ h => nomatch h), ?_⟩
    case hsc => kernel_rfl
    case hck => kernel_rfl
    intro env' κ'
    refine compItems.fa (compInner_mono _) [] hdrP (fun h => [h.2]) 1000 hs [] _ ?_ (by walk_at "zb") ?_ ?_
    · intro h hh acc ρ hacc hs'
      refine Con.rho2 [] hs' ?_
      refine As.tup (ps := [.str h.1, h.2]) (As.name (by walk_at "zm") (by walk_at "zs") <| As.name (by walk_at "zm") (by walk_at "zs") ?_) rfl rfl
      show compInner _ _ _ _ _ _ _
      exact Ev.name (by walk_at "zm") ⟨by walk_at "zo", rfl, rfl, by walk_at "zb"⟩
    · rw [flat_one, List.nil_append, List.length_map]; exact hz
    · intro ρ _
      rw [flat_one, List.nil_append]
      exact ⟨rfl, rfl⟩
end Mine.Tactic
end
section
open PySem PySem.W PyProof.Rows PySem.Calls
set_option Elab.async false
set_option maxRecDepth 100000
namespace Mine.Tactic
noncomputable def escW (c : Nat) : List Nat := if c = 45 ∨ c = 46 then [92, c] else [c]
structure PlainC (es : List DictEntry) (c : Nat) : Prop where
  lt : c < 128
  fi : (tabFind es (c : Int) = none ∧ escW c = [c]) ∨ ∃ x t, tabFind es (c : Int) = some (.str x t) ∧ x = S (escW c) ∧ (escW c).length = 2
  n1 : c ≠ 42
  n2 : c ≠ 63
  n3 : c ≠ 91
structure TrK (C : Cx) (p : Params) (es : List DictEntry) : Prop where
  tab : ∃ n, TabK C.K 189 es n
  allI : es.all intEntry = true
  esc : FnAt C aG_escape (fdOf p aG_escape)
  tra : FnAt C aG__translate (fdOf p aG__translate)
  joi : FnAt C aG__join_translated_parts (fdOf p aG__join_translated_parts)
  top : FnAt C aG_translate (fdOf p aG_translate)
  gl : Sub [("isinstance", .con (.builtin "isinstance")), ("str", .con (.type "str")), ("_special_chars_map", .con (.ref aG__special_chars_map)), ("escape", .ref aG_escape), ("len", .con (.builtin "len")), ("object", .con (.type "object")), ("_translate", .ref aG__translate), ("_join_translated_parts", .ref aG__join_translated_parts)] C.gl
noncomputable abbrev nsES : Names := [("pattern", .local)]
set_option maxHeartbeats 4000000 in
theorem escape_spec {C : Cx} {p : Params} {n : Nat} {es : List DictEntry} (T : TrK C p es) {c : Nat} (hc : PlainC es c) : FnSpec C (n + 1) (.ref aG_escape) [.str [c]] [] [] (fun r σ' => r = .str (escW c) ∧ σ' = []) := by
  have hg : Sub [("isinstance", .con (.builtin "isinstance")), ("str", .con (.type "str")), ("_special_chars_map", .con (.ref aG__special_chars_map))] C.gl := .cons (T.gl _ (by walk_at "zm")) (.cons (T.gl _ (by walk_at "zm")) (.cons (T.gl _ (by walk_at "zm")) .nil))
  refine FnSpec.of (body := ?bd) ["pattern"] [.str [c]] nsES [] [("isinstance", .con (.builtin "isinstance")), ("str", .con (.type "str")), ("_special_chars_map", .con (.ref aG__special_chars_map))] (sc := ?sc) T.esc ?hb ?hsc ?hgl ?hbi ?hcl ?hok hg rfl ?_ ?_
  case hb => with_unfolding_all rfl
  case hsc => with_unfolding_all rfl
  case hgl => with_unfolding_all rfl
  case hbi => with_unfolding_all rfl
  case hcl => with_unfolding_all rfl
  case hok => kernel_rfl
  · intro im s vs kvs hk hv hkw
    obtain ⟨v, rfl, h1⟩ := one_v hv
    have : kvs = [] := by have := hkw.1; simpa using this
    subst this
    have e : bindArgs (fdOf p aG_escape) ⟨[v], []⟩ = pure ((["pattern"].map Str.ofString).zip [v]) := by kernel_rfl
    refine ⟨[v], hv, ?_⟩
    intro M A E Q h
    rw [e]
    exact wpAny_pure h
  · intro env κ
    obtain ⟨nn, hT⟩ := T.tab
    show Ex _ _ [("isinstance", .con (.builtin "isinstance")), ("str", .con (.type "str")), ("_special_chars_map", .con (.ref aG__special_chars_map)), ("pattern", .str [c])] _ _
    refine Ex.cons <| Ex1.if <| Ts.plain <| Ev.call (by walk_at "zm") <| EvL.cons <| Ev.name (by walk_at "zm") <| EvL.cons <| Ev.name (by walk_at "zm") <| EvL.nil <| CallP.isStr <| TrueOf.bool ?_
    show Ex _ _ _ _ _
    refine Ex.cons <| Ex1.ret <| Ev.meth <| Ev.name (by walk_at "zm") ⟨_, _, MethP.str F.slot_str_translate F.type_str_translate, EvL.cons <| Ev.name (by walk_at "zm") <| EvL.nil <| CallP.transl hT T.allI hc.lt hc.fi ⟨rfl, rfl⟩⟩
noncomputable abbrev Parts := List (Option (List Nat))
noncomputable def partP (Z : Addr) : Option (List Nat) → PV
  | none => .ref Z
  | some l => .str l
noncomputable def transP (q : List Nat) : List Nat → Parts → Parts
  | [], acc => acc
  | c :: r, acc => if c = 42 then (if acc.getLast? = some none then transP q r acc else transP q r (acc ++ [none])) else if c = 63 then transP q r (acc ++ [some q]) else transP q r (acc ++ [some (escW c)])
noncomputable abbrev nsTR : Names := [("pat", .local), ("STAR", .local), ("QUESTION_MARK", .local), ("res", .local), ("add", .local), ("i", .local), ("n", .local), ("c", .local)]
noncomputable abbrev glTR : Rho := [("len", .con (.builtin "len")), ("escape", .ref aG_escape)]
set_option maxHeartbeats 4000000 in
theorem trans_spec {C : Cx} {p : Params} {n : Nat} {es : List DictEntry} (T : TrK C p es) {pat q : List Nat} {Z : Addr} (hp : ∀ c ∈ pat, c = 42 ∨ c = 63 ∨ PlainC es c) (hz : pat.length ≤ 1000) :
    FnSpec C (n + 2) (.ref aG__translate) [.str pat, .ref Z, .str q] [] [] (fun r σ' => ∃ R, r = .ref R ∧ σ' = [(R, .list ((transP q pat []).map (partP Z)))]) := by
  have hg : Sub glTR C.gl := .cons (T.gl _ (by walk_at "zm")) (.cons (T.gl _ (by walk_at "zm")) .nil)
  refine FnSpec.of (body := ?bd) ["pat", "STAR", "QUESTION_MARK"] [.str pat, .ref Z, .str q] nsTR [] glTR (sc := ?sc) T.tra ?hb ?hsc ?hgl ?hbi ?hcl ?hok hg rfl ?_ ?_
  case hb => with_unfolding_all rfl
  case hsc => with_unfolding_all rfl
  case hgl => with_unfolding_all rfl
  case hbi => with_unfolding_all rfl
  case hcl => with_unfolding_all rfl
  case hok => kernel_rfl
  · intro im s vs kvs hk hv hkw
    obtain ⟨v, w, x, rfl, h1, h2, h3⟩ := three_v hv
    have : kvs = [] := by have := hkw.1; simpa using this
    subst this
    have e : bindArgs (fdOf p aG__translate) ⟨[v, w, x], []⟩ = pure ((["pat", "STAR", "QUESTION_MARK"].map Str.ofString).zip [v, w, x]) := by kernel_rfl
    refine ⟨[v, w, x], hv, ?_⟩
    intro M A E Q h
    rw [e]
    exact wpAny_pure h
  · intro env κ
    show Ex _ _ [("len", .con (.builtin "len")), ("escape", .ref aG_escape), ("pat", .str pat), ("STAR", .ref Z), ("QUESTION_MARK", .str q)] _ _
    refine Ex.cons <| Ex1.asg <| Ev.listM <| EvL.nil ⟨by simp, fun R => As.name (by walk_at "zm") (by walk_at "zs") ?_⟩
    refine Ex.cons <| Ex1.asg <| Ev.attr <| Ev.name (by walk_at "zm") <| Op1.boundAppend (by walk_at "zm") <| As.name (by walk_at "zm") (by walk_at "zs") ?_
    refine Ex.cons <| Ex1.asgSwap (by walk_at "zm") (by walk_at "zm") (ok := ?ok) <| Ev.tuple <| EvL.cons <| Ev.int <| EvL.cons <| Ev.call (by walk_at "zm") <| EvL.cons <| Ev.name (by walk_at "zm") <| EvL.nil <| CallP.lenS (by walk_at "zo") <| EvL.nil ⟨by simp, _, _, _, _, rfl, (by walk_at "zs"), (by walk_at "zs"), ?_⟩
    case ok => kernel_rfl
    refine Ex.cons <| Ex1.while (fun k ρ σ => ∃ i acc, k = pat.length - i ∧ i ≤ pat.length ∧ σ = [(R, LO.list (acc.map (partP Z)))] ∧ Sub [("escape", .ref aG_escape), ("pat", .str pat), ("STAR", .ref Z), ("QUESTION_MARK", .str q), ("res", .ref R), ("add", .bm "list.append" R), ("i", .int (i : Int)), ("n", .int pat.length)] ρ ∧ acc.length ≤ i ∧ transP q (pat.drop i) acc = transP q pat []) ?_ pat.length ?_
    · rintro k ρ σ ⟨i, acc, rfl, hi, rfl, hs, hacc, h4⟩
      refine Tr.rho2 ["escape", "pat", "STAR", "QUESTION_MARK", "res", "add", "i", "n"] hs ?_
      refine Ts.compare <| Ev.name (by walk_at "zm") <| Ev.name (by walk_at "zm") <| Op2.lt <| TrueOf.bool ?_
      refine ite_dec (fun hak => ?_) (fun hak => ?_)
      · have hil : i < pat.length := by walk_at "zo"
        obtain ⟨c, hc⟩ : ∃ c, pat[i]? = some c := ⟨pat[i], List.getElem?_eq_getElem hil⟩
        have hcm := hp c (List.mem_of_getElem? hc)
        have hdr : pat.drop i = c :: pat.drop (i + 1) := by
          rw [List.drop_eq_getElem_cons hil]
          rw [List.getElem?_eq_getElem hil] at hc
          cases hc; rfl
        rw [hdr] at h4
        refine Ex.cons <| Ex1.asg <| Ev.sub <| Ev.name (by walk_at "zm") <| Ev.name (by walk_at "zm") <| Op2.itemS (c := c) (by walk_at "zo") (by walk_at "zo") (by walk_at "zo") (by unfold pyIx; rw [if_neg (by walk_at "zo")]; exact hc) <| As.name (by walk_at "zm") (by walk_at "zs") ?_
        refine Ex.cons <| Ex1.asg <| Ev.binop <| Ev.name (by walk_at "zm") <| Ev.int <| Op2.add <| As.nameN (j := ((i + 1 : Nat) : Int)) (by walk_at "zo") (by walk_at "zm") (by walk_at "zs") ?_
        refine Ex.cons (Tr.mono (Q := fun fl ρ₁ σ₁ => fl = Fl.next ∧ ∃ acc' : Parts, σ₁ = [(R, LO.list (acc'.map (partP Z)))] ∧ ρ₁ = [("escape", .ref aG_escape), ("pat", .str pat), ("STAR", .ref Z), ("QUESTION_MARK", .str q), ("res", .ref R), ("add", .bm "list.append" R), ("i", .int ((i + 1 : Nat) : Int)), ("n", .int pat.length), ("c", .str [c])] ∧ acc'.length ≤ i + 1 ∧ transP q (pat.drop (i + 1)) acc' = transP q pat []) ?_ ?_)
        · refine Ex1.if <| Ts.compare <| Ev.name (by walk_at "zm") <| Ev.str <| Op2.eqS <| TrueOf.bool ?_
          have app : ∀ x, (acc ++ [x]).map (partP Z) = acc.map (partP Z) ++ [partP Z x] := fun x => by rw [List.map_append]; rfl
          have hz' : (acc.map (partP Z)).length ≤ 16000000 := by rw [List.length_map]; walk_at "zo"
          have la : ∀ x : Option (List Nat), (acc ++ [x]).length ≤ i + 1 := fun x => by rw [List.length_append]; show _ + 1 ≤ _; walk_at "zo"
          by_cases c1 : c = 42
          · rw [transP, if_pos c1] at h4
            rw [show ([c] == cs "*") = true by subst c1; decide]
            show Ex _ _ _ _ _
            refine Ex.cons <| Ex1.if <| Ts.bool <| TsAll.or <| Ts.not <| Ts.plain <| Ev.name (by walk_at "zm") <| TrueOf.led (by walk_at "zm") (by walk_at "zo") ?_
            rcases List.eq_nil_or_concat acc with rfl | ⟨acc0, x, rfl⟩
            · show Ex _ _ _ _ _
              rw [if_neg (by simp)] at h4
              refine Ex.cons <| Ex1.expr <| Ev.call (by walk_at "zm") <| EvL.cons <| Ev.name (by walk_at "zm") <| EvL.nil <| CallP.appendB .head hz' ⟨rfl, ?_⟩
              refine Ex.nil ?_
              exact Ex.nil ⟨rfl, [none], rfl, rfl, la none, h4⟩
            · have hne : (!(!((acc0 ++ [x]).map (partP Z)).isEmpty)) = false := by simp
              rw [List.concat_eq_append] at *
              rw [hne]
              show TsAll _ _ _ _ _ _
              have hlen : ((acc0 ++ [x]).map (partP Z)).length = acc0.length + 1 := by simp
              have hlast : ((acc0 ++ [x]).map (partP Z))[pyIx (-1) ((acc0 ++ [x]).map (partP Z)).length]? = some (partP Z x) := by
                rw [hlen]
                have : pyIx (-1) (acc0.length + 1) = acc0.length := by unfold pyIx; rw [if_pos (by walk_at "zo")]; walk_at "zo"
                rw [this, List.map_append, List.getElem?_append_right (by simp)]; simp
              rw [List.getLast?_append, List.getLast?_singleton] at h4
              simp only [Option.some_or, Option.some.injEq] at h4
              refine TsAll.or <| Ts.compare <| Ev.sub <| Ev.name (by walk_at "zm") <| Ev.unary <| Ev.int <| Op1.neg <| Op2.itemM (by walk_at "zm") (by rw [hlen]; walk_at "zo") (by walk_at "zo") (by walk_at "zo") hlast <| Ev.name (by walk_at "zm") ?_
              cases x with
              | none =>
                rw [if_pos rfl] at h4
                refine Op2.isNotSame <| TrueOf.bool ?_
                show TsAll _ _ _ _ _ _
                refine TsAll.nilOr ?_
                show Ex _ _ _ _ _
                refine Ex.nil ?_
                exact Ex.nil ⟨rfl, acc0 ++ [none], rfl, rfl, by walk_at "zo", h4⟩
              | some l =>
                rw [if_neg (by simp)] at h4
                refine Op2.isNotStrRef <| TrueOf.bool ?_
                show Ex _ _ _ _ _
                refine Ex.cons <| Ex1.expr <| Ev.call (by walk_at "zm") <| EvL.cons <| Ev.name (by walk_at "zm") <| EvL.nil <| CallP.appendB .head hz' ⟨rfl, ?_⟩
                refine Ex.nil ?_
                exact Ex.nil ⟨rfl, acc0 ++ [some l] ++ [none], by rw [app]; rfl, rfl, la _, h4⟩
          · rw [transP, if_neg c1] at h4
            rw [show ([c] == cs "*") = false by rw [show cs "*" = [42] by decide]; simpa using c1]
            show Ex _ _ _ _ _
            refine Ex.cons <| Ex1.if <| Ts.compare <| Ev.name (by walk_at "zm") <| Ev.str <| Op2.eqS <| TrueOf.bool ?_
            by_cases c2 : c = 63
            · rw [if_pos c2] at h4
              rw [show ([c] == cs "?") = true by subst c2; decide]
              show Ex _ _ _ _ _
              refine Ex.cons <| Ex1.expr <| Ev.call (by walk_at "zm") <| EvL.cons <| Ev.name (by walk_at "zm") <| EvL.nil <| CallP.appendB .head hz' ⟨rfl, ?_⟩
              refine Ex.nil ?_
              refine Ex.nil ⟨rfl, acc ++ [some q], by rw [app]; rfl, rfl, la _, h4⟩
            · rw [if_neg c2] at h4
              have hpl : PlainC es c := by rcases hcm with h | h | h; exact absurd h c1; exact absurd h c2; exact h
              rw [show ([c] == cs "?") = false by rw [show cs "?" = [63] by decide]; simpa using c2]
              show Ex _ _ _ _ _
              refine Ex.cons <| Ex1.if <| Ts.compare <| Ev.name (by walk_at "zm") <| Ev.str <| Op2.eqS <| TrueOf.bool ?_
              rw [show ([c] == cs "[") = false by rw [show cs "[" = [91] by decide]; simpa using hpl.n3]
              show Ex _ _ _ _ _
              refine Ex.cons <| Ex1.expr <| Ev.call (by walk_at "zm") <| EvL.cons <| Ev.call (by walk_at "zm") <| EvL.cons <| Ev.name (by walk_at "zm") <| EvL.nil <| CallP.of (φ := [(R, .list (acc.map (partP Z)))]) (escape_spec (n := n) T hpl) (by simp) (.inr (by simp)) ?_
              rintro r σ' ⟨rfl, rfl⟩
              refine EvL.nil <| CallP.appendB .head hz' ⟨rfl, ?_⟩
              refine Ex.nil ?_
              refine Ex.nil ?_
              refine Ex.nil ⟨rfl, acc ++ [some (escW c)], by rw [app]; rfl, rfl, la _, h4⟩
        · rintro _ _ _ ⟨rfl, acc', rfl, rfl, h1, h2⟩
          exact Ex.nil ⟨pat.length - (i + 1), by walk_at "zo", i + 1, acc', rfl, by walk_at "zo", rfl, .cons (by walk_at "zm") (.cons (by walk_at "zm") (.cons (by walk_at "zm") (.cons (by walk_at "zm") (.cons (by walk_at "zm") (.cons (by walk_at "zm") (.cons (by walk_at "zm") (.cons (by walk_at "zm") .nil))))))), h1, h2⟩
      · have hin : i = pat.length := by walk_at "zo"
        subst hin
        rw [List.drop_length] at h4
        refine Ex.cons <| Ex1.assert <| Ts.compare <| Ev.name (by walk_at "zm") <| Ev.name (by walk_at "zm") <| Op2.eq <| TrueOf.bool ⟨by simp, ?_⟩
        refine Ex.cons <| Ex1.ret <| Ev.name (by walk_at "zm") ⟨R, rfl, ?_⟩
        rw [← h4]; rfl
    · exact ⟨0, [], rfl, by walk_at "zo", rfl, .cons (by walk_at "zm") (.cons (by walk_at "zm") (.cons (by walk_at "zm") (.cons (by walk_at "zm") (.cons (by walk_at "zm") (.cons (by walk_at "zm") (.cons (by walk_at "zm") (.cons (by walk_at "zm") .nil))))))), by simp, rfl⟩
end Mine.Tactic
end
section
open PySem PySem.W PyProof.Rows PySem.Calls
set_option Elab.async false
set_option maxRecDepth 100000
namespace Mine.Tactic
noncomputable def spanS : Parts → List (List Nat) × Parts
  | some l :: r => (l :: (spanS r).1, (spanS r).2)
  | p => ([], p)
noncomputable def joinT : Nat → Parts → List (List Nat) → List (List Nat)
  | 0, _, acc => acc
  | _ + 1, [], acc => acc
  | f + 1, _ :: r, acc => if r = [] then acc ++ [cs ".*"] else if (spanS r).2 = [] then acc ++ [cs ".*", (spanS r).1.flatten] else joinT f (spanS r).2 (acc ++ [cs "(?>.*?" ++ (spanS r).1.flatten ++ cs ")"])
noncomputable def joinP (parts : Parts) : List Nat := cs "(?s:" ++ (joinT parts.length (spanS parts).2 (spanS parts).1).flatten ++ cs ")\\Z"
noncomputable def Alt (parts : Parts) : Prop := ∀ i, parts[i]? = some none → parts[i + 1]? ≠ some none
theorem spanS_cons {l : List Nat} {r : Parts} : spanS (some l :: r) = (l :: (spanS r).1, (spanS r).2) := rfl
theorem spanS_none {r : Parts} : spanS (none :: r) = ([], none :: r) := rfl
theorem spanS_nil : spanS [] = ([], []) := rfl
theorem drop_at {parts : Parts} {i : Nat} {x : Option (List Nat)} (h : parts[i]? = some x) : parts.drop i = x :: parts.drop (i + 1) := by
  obtain ⟨hi, he⟩ := List.getElem?_eq_some_iff.mp h
  rw [List.drop_eq_getElem_cons hi, he]
theorem getP_at {parts : Parts} {i : Nat} {x : Option (List Nat)} {Z : Addr} (h : parts[i]? = some x) : (parts.map (partP Z)).getD i .none = partP Z x := by
  rw [List.getD_eq_getElem?_getD, List.getElem?_map, h]; rfl
section
variable {G : Gx} {ρ : Rho} {σ : Led}
theorem notStar {i : Nat} {Z I : Addr} {parts : Parts} {e1 e2 : Expr} {p1 : Pos} {Q : Bool → Rho → Led → Prop} (hz : parts.length ≤ 1000) (hi : i ≤ parts.length) (hm : (I, LO.list (parts.map (partP Z))) ∈ σ)
    (h1 : Ts G e1 ρ σ (fun b ρ₁ σ₁ => b = decide ((i : Int) < (parts.length : Int)) ∧ ρ₁ = ρ ∧ σ₁ = σ)) (h2 : i < parts.length → ∀ x, parts[i]? = some x → Ts G e2 ρ σ (fun b ρ₁ σ₁ => b = x.isSome ∧ ρ₁ = ρ ∧ σ₁ = σ))
    (k1 : ∀ l, parts[i]? = some (some l) → Q true ρ σ) (k2 : parts[i]? = some none → Q false ρ σ) (k3 : i = parts.length → Q false ρ σ) : Ts G (.BoolOp .And [e1, e2] p1) ρ σ Q := by
  refine Ts.bool <| TsAll.and <| Tr.mono h1 fun b ρ₁ σ₁ hqx => ?_
  obtain ⟨hb, hr, hs⟩ := hqx
  subst hb; subst hr; subst hs
  refine ite_dec (fun hlt => ?_) (fun hlt => ?_)
  · have hlt' : i < parts.length := by walk_at "zo"
    obtain ⟨x, hx⟩ : ∃ x, parts[i]? = some x := ⟨parts[i], List.getElem?_eq_getElem hlt'⟩
    refine TsAll.and <| Tr.mono (h2 hlt' x hx) fun b ρ₁ σ₁ hqx => ?_
    obtain ⟨hb, hr, hs⟩ := hqx
    subst hb; subst hr; subst hs
    cases x with
    | none => exact k2 hx
    | some l => exact TsAll.nilAnd (k1 l hx)
  · exact k3 (by walk_at "zo")
end
theorem joinT_nil : ∀ (f : Nat) (acc : List (List Nat)), joinT f [] acc = acc
  | 0, _ => rfl
  | _ + 1, _ => rfl
theorem joinT_step {f : Nat} {x : Option (List Nat)} {r : Parts} {acc : List (List Nat)} : joinT (f + 1) (x :: r) acc = if r = [] then acc ++ [cs ".*"] else if (spanS r).2 = [] then acc ++ [cs ".*", (spanS r).1.flatten] else joinT f (spanS r).2 (acc ++ [cs "(?>.*?" ++ (spanS r).1.flatten ++ cs ")"]) := rfl
theorem flat_len (ls : List (List Nat)) : ls.flatten.length = (ls.map List.length).sum := List.length_flatten
noncomputable abbrev nsJO : Names := [("inp", .local), ("STAR", .local), ("res", .local), ("add", .local), ("i", .local), ("n", .local), ("fixed", .local)]
set_option maxHeartbeats 4000000 in
theorem join_spec {C : Cx} {p : Params} {n : Nat} {es : List DictEntry} (T : TrK C p es) {parts : Parts} {Z I : Addr} (ha : Alt parts) (hz : parts.length ≤ 1000) (hw : ∀ l, some l ∈ parts → l.length ≤ 1000) :
    FnSpec C (n + 1) (.ref aG__join_translated_parts) [.ref I, .ref Z] [] [(I, .list (parts.map (partP Z)))] (fun r σ' => r = .str (joinP parts)) := by
  have hg : Sub [("len", .con (.builtin "len"))] C.gl := .cons (T.gl _ (by walk_at "zm")) .nil
  refine FnSpec.of (body := ?bd) ["inp", "STAR"] [.ref I, .ref Z] nsJO [] [("len", .con (.builtin "len"))] (sc := ?sc) T.joi ?hb ?hsc ?hgl ?hbi ?hcl ?hok hg rfl ?_ ?_
  case hb => with_unfolding_all rfl
  case hsc => with_unfolding_all rfl
  case hgl => with_unfolding_all rfl
  case hbi => with_unfolding_all rfl
  case hcl => with_unfolding_all rfl
  case hok => kernel_rfl
  · intro im s vs kvs hk hv hkw
    obtain ⟨v, w, rfl, h1, h2⟩ := two_v hv
    have : kvs = [] := by have := hkw.1; simpa using this
    subst this
    have e : bindArgs (fdOf p aG__join_translated_parts) ⟨[v, w], []⟩ = pure ((["inp", "STAR"].map Str.ofString).zip [v, w]) := by kernel_rfl
    refine ⟨[v, w], hv, ?_⟩
    intro M A E Q h
    rw [e]
    exact wpAny_pure h
  · intro env κ
    have hpl : (parts.map (partP Z)).length = parts.length := List.length_map _
    show Ex _ _ [("len", .con (.builtin "len")), ("inp", .ref I), ("STAR", .ref Z)] _ _
    refine Ex.cons <| Ex1.asg <| Ev.listM <| EvL.nil ⟨by simp, fun R => As.name (by walk_at "zm") (by walk_at "zs") ?_⟩
    refine Ex.cons <| Ex1.asg <| Ev.attr <| Ev.name (by walk_at "zm") <| Op1.boundAppend (by walk_at "zm") <| As.name (by walk_at "zm") (by walk_at "zs") ?_
    refine Ex.cons <| Ex1.asgSwap (by walk_at "zm") (by walk_at "zm") (ok := ?ok) <| Ev.tuple <| EvL.cons <| Ev.int <| EvL.cons <| Ev.call (by walk_at "zm") <| EvL.cons <| Ev.name (by walk_at "zm") <| EvL.nil <| CallP.lenM (by walk_at "zm") (by walk_at "zo") <| EvL.nil ⟨by simp, _, _, _, _, rfl, (by walk_at "zs"), (by walk_at "zs"), ?_⟩
    case ok => kernel_rfl
    rw [hpl]
    refine Ex.cons (Tr.mono (Q := fun fl ρ σ => fl = Fl.next ∧ ∃ (i : Nat) (acc : List (List Nat)), i ≤ parts.length ∧ (i = parts.length ∨ parts[i]? = some none) ∧ σ = [(R, LO.list (acc.map .str)), (I, .list (parts.map (partP Z)))] ∧ Sub [("inp", .ref I), ("STAR", .ref Z), ("res", .ref R), ("add", .bm "list.append" R), ("i", .int (i : Int)), ("n", .int parts.length)] ρ ∧ acc.length ≤ i ∧ (acc.map List.length).sum ≤ 1010 * i ∧ spanS parts = (acc, parts.drop i)) (Ex1.while (fun k ρ σ => ∃ (i : Nat) (acc : List (List Nat)), k = parts.length - i ∧ i ≤ parts.length ∧ σ = [(R, LO.list (acc.map .str)), (I, .list (parts.map (partP Z)))] ∧ Sub [("inp", .ref I), ("STAR", .ref Z), ("res", .ref R), ("add", .bm "list.append" R), ("i", .int (i : Int)), ("n", .int parts.length)] ρ ∧ acc.length ≤ i ∧ (acc.map List.length).sum ≤ 1010 * i ∧ acc ++ (spanS (parts.drop i)).1 = (spanS parts).1 ∧ (spanS (parts.drop i)).2 = (spanS parts).2) ?_ parts.length ?_) ?_)
    · rintro k ρ σ ⟨i, acc, rfl, hi, rfl, hs, hacc, haw, h4, h5⟩
      refine Tr.rho2 ["inp", "STAR", "res", "add", "i", "n"] hs ?_
      have hra : (acc.map PV.str).length ≤ 16000000 := by rw [List.length_map]; walk_at "zo"
      refine notStar (I := I) (Z := Z) hz hi (by walk_at "zm") (Ts.compare <| Ev.name (by walk_at "zm") <| Ev.name (by walk_at "zm") <| Op2.lt <| TrueOf.bool ⟨rfl, rfl, rfl⟩) (fun hlt x hx => ?_) (fun l hx => ?_) (fun hx => ?_) (fun hx => ?_)
      · refine Ts.compare <| Ev.sub <| Ev.name (by walk_at "zm") <| Ev.name (by walk_at "zm") <| Op2.itemMn (by walk_at "zm") (by walk_at "zo") (by walk_at "zo") <| Ev.name (by walk_at "zm") ?_
        rw [getP_at hx]
        cases x with
        | none => exact Op2.isNotSame <| TrueOf.bool ⟨rfl, rfl, rfl⟩
        | some l => exact Op2.isNotStrRef <| TrueOf.bool ⟨rfl, rfl, rfl⟩
      · have hlt : i < parts.length := (List.getElem?_eq_some_iff.mp hx).1
        have hll := hw l (List.mem_of_getElem? hx)
        rw [drop_at hx, spanS_cons] at h4 h5
        show Ex _ _ _ _ _
        refine Ex.cons <| Ex1.expr <| Ev.call (by walk_at "zm") <| EvL.cons <| Ev.sub <| Ev.name (by walk_at "zm") <| Ev.name (by walk_at "zm") <| Op2.itemMn (by walk_at "zm") (by walk_at "zo") (by walk_at "zo") ?_
        rw [getP_at hx]
        refine EvL.nil <| CallP.appendB .head hra ⟨rfl, ?_⟩
        refine Ex.cons <| Ex1.aug (by walk_at "zm") <| Ev.int <| Op2.iadd (c := ((i + 1 : Nat) : Int)) (by walk_at "zo") <| store_con (by walk_at "zm") (by walk_at "zs") ?_
        refine Ex.nil ⟨parts.length - (i + 1), by walk_at "zo", i + 1, acc ++ [l], rfl, by walk_at "zo", by rw [List.map_append]; rfl, .cons (by walk_at "zm") (.cons (by walk_at "zm") (.cons (by walk_at "zm") (.cons (by walk_at "zm") (.cons (by walk_at "zm") (.cons (by walk_at "zm") .nil))))), by rw [List.length_append]; show _ + 1 ≤ _; walk_at "zo", ?_, ?_, h5⟩
        · rw [List.map_append, List.sum_append]; show _ + (l.length + 0) ≤ _; walk_at "zo"
        · rw [← h4]; simp
      · refine ⟨rfl, i, acc, hi, .inr hx, rfl, .cons (by walk_at "zm") (.cons (by walk_at "zm") (.cons (by walk_at "zm") (.cons (by walk_at "zm") (.cons (by walk_at "zm") (.cons (by walk_at "zm") .nil))))), hacc, haw, ?_⟩
        rw [drop_at hx, spanS_none] at h4 h5
        rw [drop_at hx, Prod.ext_iff]
        exact ⟨by rw [← h4]; simp, by rw [← h5]⟩
      · refine ⟨rfl, i, acc, hi, .inl hx, rfl, .cons (by walk_at "zm") (.cons (by walk_at "zm") (.cons (by walk_at "zm") (.cons (by walk_at "zm") (.cons (by walk_at "zm") (.cons (by walk_at "zm") .nil))))), hacc, haw, ?_⟩
        rw [hx, List.drop_length, spanS_nil] at h4 h5
        rw [hx, List.drop_length, Prod.ext_iff]
        exact ⟨by rw [← h4]; simp, by rw [← h5]⟩
    · exact ⟨0, [], rfl, by walk_at "zo", rfl, .cons (by walk_at "zm") (.cons (by walk_at "zm") (.cons (by walk_at "zm") (.cons (by walk_at "zm") (.cons (by walk_at "zm") (.cons (by walk_at "zm") .nil))))), by simp, by simp, rfl, rfl⟩
    · rintro _ ρ _ ⟨rfl, i0, acc0, hi0, hs0, rfl, hsub, hacc0, haw0, hspan⟩
      refine Tr.rho2 ["inp", "STAR", "res", "add", "i", "n"] hsub ?_
      have jlen : ∀ (e : List (List Nat)), (e.map List.length).sum + (e.map PV.str).length * (cs "").length = (e.map List.length).sum := fun e => by rw [show (cs "").length = 0 by decide]; walk_at "zo"
      refine Ex.cons (Tr.mono (Q := fun fl ρ σ => fl = Fl.next ∧ ∃ acc : List (List Nat), σ = [(R, LO.list (acc.map .str)), (I, .list (parts.map (partP Z)))] ∧ Sub [("res", .ref R), ("i", .int parts.length), ("n", .int parts.length)] ρ ∧ acc.length ≤ parts.length + 2 ∧ (acc.map List.length).sum ≤ 1010 * parts.length + 1010 ∧ acc = joinT parts.length (spanS parts).2 (spanS parts).1)
        (Ex1.while (fun k ρ σ => ∃ (i : Nat) (acc : List (List Nat)) (f : Nat), k = parts.length - i ∧ i ≤ parts.length ∧ (i = parts.length ∨ parts[i]? = some none) ∧ σ = [(R, LO.list (acc.map .str)), (I, .list (parts.map (partP Z)))] ∧ Sub [("inp", .ref I), ("STAR", .ref Z), ("res", .ref R), ("add", .bm "list.append" R), ("i", .int (i : Int)), ("n", .int parts.length)] ρ ∧ acc.length ≤ i + 1 ∧ (acc.map List.length).sum ≤ 1010 * i + 10 ∧ parts.length ≤ i + f ∧ joinT f (parts.drop i) acc = joinT parts.length (spanS parts).2 (spanS parts).1) ?_ (parts.length - i0) ?_) ?_)
      · rintro k ρ σ ⟨i, acc, f, rfl, hi, hst, rfl, hs, hacc, haw, hf, h4⟩
        refine Tr.rho2 ["inp", "STAR", "res", "add", "i", "n"] hs ?_
        have hra : (acc.map PV.str).length ≤ 1000000 := by rw [List.length_map]; walk_at "zo"
        refine Ts.compare <| Ev.name (by walk_at "zm") <| Ev.name (by walk_at "zm") <| Op2.lt <| TrueOf.bool ?_
        refine ite_dec (fun hlt => ?_) (fun hlt => ?_)
        · have hlt' : i < parts.length := by walk_at "zo"
          have hx : parts[i]? = some none := by rcases hst with h | h; walk_at "zo"; exact h
          obtain ⟨f, rfl⟩ : ∃ f', f = f' + 1 := ⟨f - 1, by walk_at "zo"⟩
          rw [drop_at hx, joinT_step] at h4
          refine Ex.cons <| Ex1.assert <| Ts.compare <| Ev.sub <| Ev.name (by walk_at "zm") <| Ev.name (by walk_at "zm") <| Op2.itemMn (by walk_at "zm") (by walk_at "zo") (by walk_at "zo") <| Ev.name (by walk_at "zm") ?_
          rw [getP_at hx]
          refine Op2.isSameR <| TrueOf.bool ⟨rfl, ?_⟩
          refine Ex.cons <| Ex1.aug (by walk_at "zm") <| Ev.int <| Op2.iadd (c := ((i + 1 : Nat) : Int)) (by walk_at "zo") <| store_con (by walk_at "zm") (by walk_at "zs") ?_
          refine Ex.cons <| Ex1.if <| Ts.compare <| Ev.name (by walk_at "zm") <| Ev.name (by walk_at "zm") <| Op2.eq <| TrueOf.bool ?_
          by_cases hi1 : i + 1 = parts.length
          · rw [if_pos (by rw [hi1, List.drop_length])] at h4
            rw [show (((i + 1 : Nat) : Int) == (parts.length : Int)) = true by rw [hi1]; simp]
            show Ex _ _ _ _ _
            refine Ex.cons <| Ex1.expr <| Ev.call (by walk_at "zm") <| EvL.cons <| Ev.str <| EvL.nil <| CallP.appendB .head (by walk_at "zo") ⟨rfl, ?_⟩
            refine Ex.cons <| Ex1.brk ?_
            refine ⟨rfl, acc ++ [cs ".*"], by rw [List.map_append]; rfl, .cons (by walk_at "zm") (.cons (by rw [← hi1]; walk_at "zm") (.cons (by walk_at "zm") .nil)), by rw [List.length_append]; show _ + 1 ≤ _; walk_at "zo", ?_, h4⟩
            rw [List.map_append, List.sum_append]; show _ + ((cs ".*").length + 0) ≤ _; rw [show (cs ".*").length = 2 by decide]; walk_at "zo"
          · obtain ⟨y, hy⟩ : ∃ y, parts[i + 1]? = some y := ⟨parts[i + 1], List.getElem?_eq_getElem (by walk_at "zo")⟩
            obtain ⟨l, rfl⟩ : ∃ l, y = some l := by cases y with | none => exact absurd hy (ha i hx) | some l => exact ⟨l, rfl⟩
            rw [if_neg (by rw [drop_at hy]; simp)] at h4
            rw [show (((i + 1 : Nat) : Int) == (parts.length : Int)) = false by simpa using (fun h => hi1 (by walk_at "zo"))]
            show Ex _ _ _ _ _
            refine Ex.nil ?_
            refine Ex.cons <| Ex1.assert <| Ts.compare <| Ev.sub <| Ev.name (by walk_at "zm") <| Ev.name (by walk_at "zm") <| Op2.itemMn (by walk_at "zm") (by walk_at "zo") (by walk_at "zo") <| Ev.name (by walk_at "zm") ?_
            rw [getP_at hy]
            refine Op2.isNotStrRef <| TrueOf.bool ⟨rfl, ?_⟩
            refine Ex.cons <| Ex1.asg <| Ev.listM <| EvL.nil ⟨by simp, fun FX => As.name (by walk_at "zm") (by walk_at "zs") ?_⟩
            refine Ex.cons (Tr.mono (Q := fun fl ρ σ => fl = Fl.next ∧ ∃ (j : Nat) (fx : List (List Nat)), i + 1 ≤ j ∧ j ≤ parts.length ∧ (j = parts.length ∨ parts[j]? = some none) ∧ σ = [(FX, LO.list (fx.map .str)), (R, .list (acc.map .str)), (I, .list (parts.map (partP Z)))] ∧ Sub [("inp", .ref I), ("STAR", .ref Z), ("res", .ref R), ("add", .bm "list.append" R), ("i", .int (j : Int)), ("n", .int parts.length), ("fixed", .ref FX)] ρ ∧ fx.length ≤ j ∧ (fx.map List.length).sum ≤ 1000 * (j - (i + 1)) ∧ spanS (parts.drop (i + 1)) = (fx, parts.drop j))
              (Ex1.while (fun k ρ σ => ∃ (j : Nat) (fx : List (List Nat)), k = parts.length - j ∧ i + 1 ≤ j ∧ j ≤ parts.length ∧ σ = [(FX, LO.list (fx.map .str)), (R, .list (acc.map .str)), (I, .list (parts.map (partP Z)))] ∧ Sub [("inp", .ref I), ("STAR", .ref Z), ("res", .ref R), ("add", .bm "list.append" R), ("i", .int (j : Int)), ("n", .int parts.length), ("fixed", .ref FX)] ρ ∧ fx.length ≤ j ∧ (fx.map List.length).sum ≤ 1000 * (j - (i + 1)) ∧ fx ++ (spanS (parts.drop j)).1 = (spanS (parts.drop (i + 1))).1 ∧ (spanS (parts.drop j)).2 = (spanS (parts.drop (i + 1))).2) ?_ (parts.length - (i + 1)) ?_) ?_)
            · rintro k ρ σ ⟨j, fx, rfl, hj1, hj, rfl, hs, hfl, hfw, h5, h6⟩
              refine Tr.rho2 ["inp", "STAR", "res", "add", "i", "n", "fixed"] hs ?_
              have hrf : (fx.map PV.str).length ≤ 16000000 := by rw [List.length_map]; walk_at "zo"
              refine notStar (I := I) (Z := Z) hz hj (by walk_at "zm") (Ts.compare <| Ev.name (by walk_at "zm") <| Ev.name (by walk_at "zm") <| Op2.lt <| TrueOf.bool ⟨rfl, rfl, rfl⟩) (fun hlt x hx => ?_) (fun l hx => ?_) (fun hx => ?_) (fun hx => ?_)
              · refine Ts.compare <| Ev.sub <| Ev.name (by walk_at "zm") <| Ev.name (by walk_at "zm") <| Op2.itemMn (by walk_at "zm") (by walk_at "zo") (by walk_at "zo") <| Ev.name (by walk_at "zm") ?_
                rw [getP_at hx]
                cases x with
                | none => exact Op2.isNotSame <| TrueOf.bool ⟨rfl, rfl, rfl⟩
                | some l => exact Op2.isNotStrRef <| TrueOf.bool ⟨rfl, rfl, rfl⟩
              · have hlt : j < parts.length := (List.getElem?_eq_some_iff.mp hx).1
                have hll := hw l (List.mem_of_getElem? hx)
                rw [drop_at hx, spanS_cons] at h5 h6
                show Ex _ _ _ _ _
                refine Ex.cons <| Ex1.expr <| Ev.meth <| Ev.name (by walk_at "zm") ⟨_, _, MethP.led (by walk_at "zm") F.slot_list_append F.type_list_append, EvL.cons <| Ev.sub <| Ev.name (by walk_at "zm") <| Ev.name (by walk_at "zm") <| Op2.itemMn (by walk_at "zm") (by walk_at "zo") (by walk_at "zo") ?_⟩
                rw [getP_at hx]
                refine EvL.nil <| CallP.append .head hrf ⟨rfl, ?_⟩
                refine Ex.cons <| Ex1.aug (by walk_at "zm") <| Ev.int <| Op2.iadd (c := ((j + 1 : Nat) : Int)) (by walk_at "zo") <| store_con (by walk_at "zm") (by walk_at "zs") ?_
                refine Ex.nil ⟨parts.length - (j + 1), by walk_at "zo", j + 1, fx ++ [l], rfl, by walk_at "zo", by walk_at "zo", by rw [List.map_append]; rfl, .cons (by walk_at "zm") (.cons (by walk_at "zm") (.cons (by walk_at "zm") (.cons (by walk_at "zm") (.cons (by walk_at "zm") (.cons (by walk_at "zm") (.cons (by walk_at "zm") .nil)))))), by rw [List.length_append]; show _ + 1 ≤ _; walk_at "zo", ?_, ?_, h6⟩
                · rw [List.map_append, List.sum_append]; show _ + (l.length + 0) ≤ _; walk_at "zo"
                · rw [← h5]; simp
              · refine ⟨rfl, j, fx, hj1, hj, .inr hx, rfl, .cons (by walk_at "zm") (.cons (by walk_at "zm") (.cons (by walk_at "zm") (.cons (by walk_at "zm") (.cons (by walk_at "zm") (.cons (by walk_at "zm") (.cons (by walk_at "zm") .nil)))))), hfl, hfw, ?_⟩
                rw [drop_at hx, spanS_none] at h5 h6
                rw [Prod.ext_iff]
                exact ⟨by rw [← h5]; simp, by rw [← h6, drop_at hx]⟩
              · refine ⟨rfl, j, fx, hj1, hj, .inl hx, rfl, .cons (by walk_at "zm") (.cons (by walk_at "zm") (.cons (by walk_at "zm") (.cons (by walk_at "zm") (.cons (by walk_at "zm") (.cons (by walk_at "zm") (.cons (by walk_at "zm") .nil)))))), hfl, hfw, ?_⟩
                rw [hx, List.drop_length, spanS_nil] at h5 h6
                rw [Prod.ext_iff]
                exact ⟨by rw [← h5]; simp, by rw [← h6, hx, List.drop_length]⟩
            · exact ⟨i + 1, [], rfl, by walk_at "zo", by walk_at "zo", rfl, .cons (by walk_at "zm") (.cons (by walk_at "zm") (.cons (by walk_at "zm") (.cons (by walk_at "zm") (.cons (by walk_at "zm") (.cons (by walk_at "zm") (.cons (by walk_at "zm") .nil)))))), by simp, by simp, rfl, rfl⟩
            · rintro _ ρ _ ⟨rfl, j, fx, hj1, hj, hjs, rfl, hsub, hfl, hfw, hspan2⟩
              refine Tr.rho2 ["inp", "STAR", "res", "add", "i", "n", "fixed"] hsub ?_
              rw [hspan2] at h4
              dsimp only at h4
              refine Ex.cons <| Ex1.asg <| Ev.meth <| Ev.str ⟨_, _, MethP.str F.slot_str_join F.type_str_join, EvL.cons <| Ev.name (by walk_at "zm") <| EvL.nil <| CallP.joinM (ls := fx) (by walk_at "zm") rfl (by rw [show (cs "").length = 0 by decide]; walk_at "zo") <| As.name (by walk_at "zm") (by walk_at "zs") ?_⟩
              rw [pyJoin_flat]
              have hl := flat_len fx
              refine Ex.cons <| Ex1.if <| Ts.compare <| Ev.name (by walk_at "zm") <| Ev.name (by walk_at "zm") <| Op2.eq <| TrueOf.bool ?_
              by_cases hj2 : j = parts.length
              · rw [if_pos (by rw [hj2, List.drop_length])] at h4
                rw [show ((j : Int) == (parts.length : Int)) = true by rw [hj2]; simp]
                show Ex _ _ _ _ _
                refine Ex.cons <| Ex1.expr <| Ev.call (by walk_at "zm") <| EvL.cons <| Ev.str <| EvL.nil <| CallP.appendB (.tail .head) (by walk_at "zo") ⟨rfl, ?_⟩
                refine Ex.cons <| Ex1.expr <| Ev.call (by walk_at "zm") <| EvL.cons <| Ev.name (by walk_at "zm") <| EvL.nil <| CallP.appendB (.tail .head) (by rw [List.length_append]; show _ + 1 ≤ _; walk_at "zo") ⟨rfl, ?_⟩
                refine Ex.nil ?_
                refine Tr.led (σ' := [(R, .list ((acc ++ [cs ".*", fx.flatten]).map .str)), (I, .list (parts.map (partP Z)))]) (by intro q hq; simp at hq ⊢; rcases hq with h | h <;> simp [h]) (fun hn => (List.nodup_cons.mp hn).2) ?_
                refine Ex.nil ⟨0, by walk_at "zo", j, acc ++ [cs ".*", fx.flatten], parts.length, by walk_at "zo", hj, .inl hj2, rfl, .cons (by walk_at "zm") (.cons (by walk_at "zm") (.cons (by walk_at "zm") (.cons (by walk_at "zm") (.cons (by walk_at "zm") (.cons (by walk_at "zm") .nil))))), by rw [List.length_append]; show _ + 2 ≤ _; walk_at "zo", ?_, by walk_at "zo", ?_⟩
                · rw [List.map_append, List.sum_append]; show _ + ((cs ".*").length + (fx.flatten.length + 0)) ≤ _; rw [show (cs ".*").length = 2 by decide]; walk_at "zo"
                · rw [hj2, List.drop_length, joinT_nil]; exact h4
              · have hjn : parts[j]? = some none := by rcases hjs with h | h; exact absurd h hj2; exact h
                rw [if_neg (by rw [drop_at hjn]; simp)] at h4
                rw [show ((j : Int) == (parts.length : Int)) = false by simpa using (fun h => hj2 (by walk_at "zo"))]
                show Ex _ _ _ _ _
                have c1 : (cs "(?>.*?").length = 6 := by decide
                have c2 : (cs ")").length = 1 := by decide
                refine Ex.cons <| Ex1.expr <| Ev.call (by walk_at "zm") <| EvL.cons <| Ev.fstr <| JP.cons <| Ev.str ⟨_, rfl, by simp [c1], JP.cons <| Ev.fval <| Ev.name (by walk_at "zm") ⟨_, rfl, by walk_at "zo", _, rfl, by simp [c1]; walk_at "zo", JP.cons <| Ev.str ⟨_, rfl, by simp [c1, c2]; walk_at "zo", JP.nil (by simp [c1, c2]; walk_at "zo") ?_⟩⟩⟩
                refine EvL.nil <| CallP.appendB (.tail .head) (by walk_at "zo") ⟨rfl, ?_⟩
                refine Ex.nil ?_
                refine Tr.led (σ' := [(R, .list ((acc ++ [cs "(?>.*?" ++ fx.flatten ++ cs ")"]).map .str)), (I, .list (parts.map (partP Z)))]) (by intro q hq; simp at hq ⊢; rcases hq with h | h <;> simp [h]) (fun hn => (List.nodup_cons.mp hn).2) ?_
                refine Ex.nil ⟨parts.length - j, by walk_at "zo", j, _, f, rfl, hj, .inr hjn, rfl, .cons (by walk_at "zm") (.cons (by walk_at "zm") (.cons (by walk_at "zm") (.cons (by walk_at "zm") (.cons (by walk_at "zm") (.cons (by walk_at "zm") .nil))))), by rw [List.length_append]; show _ + 1 ≤ _; walk_at "zo", ?_, by walk_at "zo", h4⟩
                rw [List.map_append, List.sum_append]; show _ + ((cs "(?>.*?" ++ fx.flatten ++ cs ")").length + 0) ≤ _; simp [c1, c2]; walk_at "zo"
        · have : i = parts.length := by walk_at "zo"
          subst this
          rw [List.drop_length, joinT_nil] at h4
          exact ⟨rfl, acc, rfl, .cons (by walk_at "zm") (.cons (by walk_at "zm") (.cons (by walk_at "zm") .nil)), by walk_at "zo", by walk_at "zo", h4⟩
      · refine ⟨i0, acc0, parts.length, rfl, hi0, hs0, rfl, .cons (by walk_at "zm") (.cons (by walk_at "zm") (.cons (by walk_at "zm") (.cons (by walk_at "zm") (.cons (by walk_at "zm") (.cons (by walk_at "zm") .nil))))), by walk_at "zo", by walk_at "zo", by walk_at "zo", by rw [hspan]⟩
      · rintro _ ρ _ ⟨rfl, acc, rfl, hsub, h1, h2, h3⟩
        refine Tr.rho2 ["res", "i", "n"] hsub ?_
        refine Ex.cons <| Ex1.assert <| Ts.compare <| Ev.name (by walk_at "zm") <| Ev.name (by walk_at "zm") <| Op2.eq <| TrueOf.bool ⟨by simp, ?_⟩
        refine Ex.cons <| Ex1.asg <| Ev.meth <| Ev.str ⟨_, _, MethP.str F.slot_str_join F.type_str_join, EvL.cons <| Ev.name (by walk_at "zm") <| EvL.nil <| CallP.joinM (ls := acc) (by walk_at "zm") rfl (by rw [show (cs "").length = 0 by decide]; walk_at "zo") <| As.name (by walk_at "zm") (by walk_at "zs") ?_⟩
        rw [pyJoin_flat]
        have hl := flat_len acc
        have c1 : (cs "(?s:").length = 4 := by decide
        have c2 : (cs ")\\Z").length = 3 := by decide
        refine Ex.cons <| Ex1.ret <| Ev.fstr <| JP.cons <| Ev.str ⟨_, rfl, by simp [c1], JP.cons <| Ev.fval <| Ev.name (by walk_at "zm") ⟨_, rfl, by walk_at "zo", _, rfl, by simp [c1]; walk_at "zo", JP.cons <| Ev.str ⟨_, rfl, by simp [c1, c2]; walk_at "zo", JP.nil (by simp [c1, c2]; walk_at "zo") ?_⟩⟩⟩
        unfold joinP
        rw [← h3]
        simp
end Mine.Tactic
end
section
open PySem PySem.W PyProof.Rows PySem.Calls
set_option Elab.async false
set_option maxRecDepth 100000
namespace Mine.Tactic
theorem alt_some {acc : Parts} {l : List Nat} (h : Alt acc) : Alt (acc ++ [some l]) := fun i hi hn => by
  by_cases h1 : i + 1 < acc.length
  · rw [List.getElem?_append_left (by walk_at "zo")] at hi hn
    exact h i hi hn
  · by_cases h2 : i + 1 = acc.length
    · rw [h2, List.getElem?_append_right (by walk_at "zo"), Nat.sub_self] at hn; simp at hn
    · rw [List.getElem?_eq_none (by rw [List.length_append]; show _ + 1 ≤ _; walk_at "zo")] at hn; cases hn
theorem alt_none {acc : Parts} (h : Alt acc) (hl : acc.getLast? ≠ some none) : Alt (acc ++ [none]) := fun i hi hn => by
  by_cases h1 : i + 1 < acc.length
  · rw [List.getElem?_append_left (by walk_at "zo")] at hi hn
    exact h i hi hn
  · by_cases h2 : i + 1 = acc.length
    · rw [List.getElem?_append_left (by walk_at "zo")] at hi
      apply hl
      rw [List.getLast?_eq_getElem?, ← hi]; congr 1; walk_at "zo"
    · rw [List.getElem?_eq_none (by rw [List.length_append]; show _ + 1 ≤ _; walk_at "zo")] at hn; cases hn
theorem transP_alt {q : List Nat} : ∀ (pat : List Nat) (acc : Parts), Alt acc → Alt (transP q pat acc)
  | [], _, h => h
  | c :: r, acc, h => by
    unfold transP
    split
    · split
      · exact transP_alt r _ h
      · rename_i hl; exact transP_alt r _ (alt_none h hl)
    · split
      · exact transP_alt r _ (alt_some h)
      · exact transP_alt r _ (alt_some h)
theorem transP_len {q : List Nat} : ∀ (pat : List Nat) (acc : Parts), (transP q pat acc).length ≤ pat.length + acc.length
  | [], acc => by unfold transP; walk_at "zo"
  | c :: r, acc => by
    have h1 := fun x : Option (List Nat) => transP_len (q := q) r (acc ++ [x])
    have h2 := transP_len (q := q) r acc
    have e : ∀ x : Option (List Nat), (acc ++ [x]).length = acc.length + 1 := fun x => by rw [List.length_append]; rfl
    unfold transP
    rw [List.length_cons]
    split
    · split
      · walk_at "zo"
      · have := h1 none; rw [e] at this; walk_at "zo"
    · split
      · have := h1 (some q); rw [e] at this; walk_at "zo"
      · have := h1 (some (escW c)); rw [e] at this; walk_at "zo"
theorem transP_w {q : List Nat} (hq : q.length ≤ 1000) : ∀ (pat : List Nat) (acc : Parts), (∀ l, some l ∈ acc → l.length ≤ 1000) → ∀ l, some l ∈ transP q pat acc → l.length ≤ 1000
  | [], _, h => h
  | c :: r, acc, h => by
    have ad : ∀ x : Option (List Nat), (∀ l, x = some l → l.length ≤ 1000) → ∀ l, some l ∈ acc ++ [x] → l.length ≤ 1000 := fun x hx l hl => by
      rcases List.mem_append.mp hl with hl | hl
      · exact h l hl
      · exact hx l (List.mem_singleton.mp hl).symm
    unfold transP
    split
    · split
      · exact transP_w hq r _ h
      · exact transP_w hq r _ (ad none fun l e => nomatch e)
    · split
      · exact transP_w hq r _ (ad (some q) fun l e => by cases e; exact hq)
      · exact transP_w hq r _ (ad (some (escW c)) fun l e => by cases e; unfold escW; split <;> simp)
noncomputable abbrev nsTP : Names := [("pat", .local), ("STAR", .local), ("parts", .local)]
noncomputable abbrev glTP : Rho := [("object", .con (.type "object")), ("_translate", .ref aG__translate), ("_join_translated_parts", .ref aG__join_translated_parts)]
set_option maxHeartbeats 4000000 in
theorem translate_spec {C : Cx} {p : Params} {n : Nat} {es : List DictEntry} (T : TrK C p es) {pat : List Nat} (hp : ∀ c ∈ pat, c = 42 ∨ c = 63 ∨ PlainC es c) (hz : pat.length ≤ 1000) :
    FnSpec C (n + 3) (.ref aG_translate) [.str pat] [] [] (fun r σ' => r = .str (joinP (transP (cs ".") pat []))) := by
  have hg : Sub glTP C.gl := .cons (T.gl _ (by walk_at "zm")) (.cons (T.gl _ (by walk_at "zm")) (.cons (T.gl _ (by walk_at "zm")) .nil))
  refine FnSpec.of (body := ?bd) ["pat"] [.str pat] nsTP [] glTP (sc := ?sc) T.top ?hb ?hsc ?hgl ?hbi ?hcl ?hok hg rfl ?_ ?_
  case hb => with_unfolding_all rfl
  case hsc => with_unfolding_all rfl
  case hgl => with_unfolding_all rfl
  case hbi => with_unfolding_all rfl
  case hcl => with_unfolding_all rfl
  case hok => kernel_rfl
  · intro im s vs kvs hk hv hkw
    obtain ⟨v, rfl, h1⟩ := one_v hv
    have : kvs = [] := by have := hkw.1; simpa using this
    subst this
    have e : bindArgs (fdOf p aG_translate) ⟨[v], []⟩ = pure ((["pat"].map Str.ofString).zip [v]) := by kernel_rfl
    refine ⟨[v], hv, ?_⟩
    intro M A E Q h
    rw [e]
    exact wpAny_pure h
  · intro env κ
    show Ex _ _ [("object", .con (.type "object")), ("_translate", .ref aG__translate), ("_join_translated_parts", .ref aG__join_translated_parts), ("pat", .str pat)] _ _
    refine Ex.cons <| Ex1.asg <| Ev.call (by walk_at "zm") <| EvL.nil <| CallP.object fun Z => As.name (by walk_at "zm") (by walk_at "zs") ?_
    refine Ex.cons <| Ex1.asg <| Ev.call (by walk_at "zm") <| EvL.cons <| Ev.name (by walk_at "zm") <| EvL.cons <| Ev.name (by walk_at "zm") <| EvL.cons <| Ev.str <| EvL.nil <| CallP.of (φ := []) (trans_spec (n := n) T hp hz) (fun _ h => h) (.inr rfl) ?_
    rintro r σ' ⟨R, rfl, rfl⟩
    refine As.name (by walk_at "zm") (by walk_at "zs") ?_
    have l1 := transP_len (q := cs ".") pat []
    refine Ex.cons <| Ex1.ret <| Ev.call (by walk_at "zm") <| EvL.cons <| Ev.name (by walk_at "zm") <| EvL.cons <| Ev.name (by walk_at "zm") <| EvL.nil <| CallP.of (φ := []) (join_spec (n := n + 1) T (transP_alt pat [] fun i h => by simp at h) (by simp at l1; walk_at "zo") (transP_w (by decide) pat [] fun l h => nomatch h)) (fun _ h => h) (.inr rfl) ?_
    rintro r σ' rfl
    rfl
end Mine.Tactic
end
section
open PySem PySem.W PyProof.Rows PySem.Calls
set_option Elab.async false
set_option maxRecDepth 100000
namespace Mine.Tactic
noncomputable abbrev gp (l : List PV) (i : Nat) : PV := l.getD i .none
theorem gp_set {l : List PV} {i j : Nat} {x : PV} (hi : i < l.length) : gp (l.set i x) j = if i = j then x else gp l j := by
  unfold gp
  rw [List.getD_eq_getElem?_getD, List.getElem?_set, List.getD_eq_getElem?_getD]
  by_cases h : i = j
  · rw [if_pos h, if_pos h, if_pos hi]; rfl
  · rw [if_neg h, if_neg h]
noncomputable def Kid (i c : Nat) : Prop := c = 2 * i + 1 ∨ c = 2 * i + 2
structure OrdOn (D : PV → Prop) (lt : PV → PV → Bool) : Prop where
  tr : ∀ a b c, D a → D b → D c → lt b a = false → lt c b = false → lt c a = false
  tot : ∀ a b, D a → D b → lt a b = true → lt b a = false
section
variable {D : PV → Prop} {lt : PV → PV → Bool}
noncomputable def HP (lt : PV → PV → Bool) (s : Nat) (l : List PV) : Prop := ∀ i c, s ≤ i → Kid i c → c < l.length → lt (gp l c) (gp l i) = false
inductive Below (s : Nat) : Nat → Prop
  | refl : Below s s
  | kid {i c : Nat} : Below s i → Kid i c → Below s c
theorem Below.le {s p : Nat} (h : Below s p) : s ≤ p := by
  induction h with
  | refl => exact Nat.le_refl _
  | kid _ hk ih => unfold Kid at hk; walk_at "zo"
theorem Below.up {s p : Nat} (h : Below s p) (hs : s < p) : Below s ((p - 1) / 2) := by
  cases h with
  | refl => exact absurd hs (Nat.lt_irrefl _)
  | @kid i c hb hk =>
    have : (p - 1) / 2 = i := by unfold Kid at hk; walk_at "zo"
    rw [this]; exact hb
structure Hole (lt : PV → PV → Bool) (s p : Nat) (l : List PV) : Prop where
  d : Below s p
  h2 : p < l.length
  a : ∀ i c, s ≤ i → Kid i c → c < l.length → i ≠ p → c ≠ p → lt (gp l c) (gp l i) = false
  b : ∀ q c, s ≤ q → Kid q p → Kid p c → c < l.length → lt (gp l c) (gp l q) = false
theorem gp_D {l : List PV} (hD : ∀ x ∈ l, D x) {i : Nat} (h : i < l.length) : D (gp l i) := hD _ (getD_mem h)
theorem set_swap {l : List PV} {p q : Nat} {x : PV} (hp : p < l.length) (hq : q < l.length) (hne : p ≠ q) : ((l.set p (gp l q)).set q x).Perm (l.set p x) := by
  have hp' : p < (l.set p x).length := by rw [List.length_set]; exact hp
  have hq' : q < (l.set p x).length := by rw [List.length_set]; exact hq
  have := List.set_set_perm (as := l.set p x) hp' hq'
  have e1 : (l.set p x)[q] = gp l q := by
    rw [List.getElem_set_ne hne]; unfold gp; rw [List.getD_eq_getElem?_getD, List.getElem?_eq_getElem hq]; rfl
  have e2 : (l.set p x)[p] = x := List.getElem_set_self _
  rw [e1, e2, List.set_set] at this
  exact this
theorem siftU_ok (O : OrdOn D lt) {s : Nat} {x : PV} (_hx : D x) : ∀ (f p : Nat) (l : List PV), (∀ y ∈ l, D y) → Hole lt s p l → l.length ≤ p + f →
    Hole lt s (siftU lt f p l).1 (siftU lt f p l).2 ∧ (∀ y ∈ (siftU lt f p l).2, D y) ∧ ¬ 2 * (siftU lt f p l).1 + 1 < (siftU lt f p l).2.length ∧ ((siftU lt f p l).2.set (siftU lt f p l).1 x).Perm (l.set p x)
  | 0, p, l, hD, H, hf => absurd H.h2 (by walk_at "zo")
  | f + 1, p, l, hD, H, hf => by
    rw [siftU_step]
    split
    · rename_i hc
      have hk := childP_lt (lt := lt) hc
      have hck : Kid p (childP lt (2 * p + 1) l) := by unfold Kid childP; split <;> walk_at "zo"
      have hbest : ∀ c, Kid p c → c < l.length → lt (gp l c) (gp l (childP lt (2 * p + 1) l)) = false := by
        intro c hkc hcl
        have irr : ∀ y, D y → lt y y = false := fun y hy => by
          cases e : lt y y with
          | false => rfl
          | true => rw [← e]; exact O.tot y y hy hy e
        unfold childP
        split
        · rename_i h
          rcases hkc with rfl | rfl
          · exact h.2
          · exact irr _ (gp_D hD hcl)
        · rename_i h
          rcases hkc with rfl | rfl
          · exact irr _ (gp_D hD hcl)
          · have : lt (gp l (2 * p + 1)) (gp l (2 * p + 1 + 1)) = true := by
              cases e : lt (gp l (2 * p + 1)) (gp l (2 * p + 1 + 1)) with
              | true => rfl
              | false => exact absurd ⟨hcl, e⟩ h
            exact O.tot _ _ (gp_D hD hc) (gp_D hD hcl) this
      generalize childP lt (2 * p + 1) l = c' at hk hck hbest ⊢
      have hpc : p ≠ c' := by unfold Kid at hck; walk_at "zo"
      have H' : Hole lt s c' (l.set p (gp l c')) := by
        refine ⟨H.d.kid hck, by rw [List.length_set]; exact hk.2, ?_, ?_⟩
        · intro i c hi hkid hcl hic hcc
          rw [List.length_set] at hcl
          rw [gp_set H.h2, gp_set H.h2]
          by_cases e1 : p = c
          · rw [if_pos e1]
            subst e1
            by_cases e2 : p = i
            · unfold Kid at hkid; walk_at "zo"
            · rw [if_neg e2]; exact H.b i c' hi hkid hck hk.2
          · rw [if_neg e1]
            by_cases e2 : p = i
            · rw [if_pos e2]; subst e2; exact hbest c hkid hcl
            · rw [if_neg e2]; exact H.a i c hi hkid hcl (fun e => e2 e.symm) (fun e => e1 e.symm)
        · intro q d hq hkq hkd hdl
          rw [List.length_set] at hdl
          have hqp : q = p := by unfold Kid at hkq hck; walk_at "zo"
          subst hqp
          rw [gp_set H.h2, gp_set H.h2, if_pos rfl, if_neg (by unfold Kid at hkd hck; walk_at "zo")]
          exact H.a c' d (by have := H.d.le; unfold Kid at hck; walk_at "zo") hkd hdl (fun e => hpc e.symm) (by unfold Kid at hkd hck; walk_at "zo")
      obtain ⟨k1, k2, k3, k4⟩ := siftU_ok O _hx f c' (l.set p (gp l c')) (set_all hD (gp_D hD hk.2)) H' (by rw [List.length_set]; unfold Kid at hck; walk_at "zo")
      exact ⟨k1, k2, k3, k4.trans (set_swap H.h2 hk.2 hpc)⟩
    · rename_i hc
      exact ⟨H, hD, hc, .refl _⟩
theorem siftD_ok (O : OrdOn D lt) {s : Nat} {x : PV} (hx : D x) : ∀ (f p : Nat) (l : List PV), (∀ y ∈ l, D y) → Hole lt s p l → (∀ c, Kid p c → c < l.length → lt (gp l c) x = false) → p ≤ f →
    HP lt s (siftD lt s x f p l) ∧ (siftD lt s x f p l).Perm (l.set p x) := by
  have done : ∀ (p : Nat) (l : List PV), Hole lt s p l → (∀ c, Kid p c → c < l.length → lt (gp l c) x = false) → (∀ q, s ≤ q → Kid q p → lt x (gp l q) = false) → HP lt s (l.set p x) := by
    intro p l H hb hq i c hi hk hc
    rw [List.length_set] at hc
    rw [gp_set H.h2, gp_set H.h2]
    by_cases e1 : p = c
    · subst e1
      rw [if_pos rfl, if_neg (by unfold Kid at hk; walk_at "zo")]
      exact hq i hi hk
    · rw [if_neg e1]
      by_cases e2 : p = i
      · rw [if_pos e2]; subst e2; exact hb c hk hc
      · rw [if_neg e2]; exact H.a i c hi hk hc (fun e => e2 e.symm) (fun e => e1 e.symm)
  intro f
  induction f with
  | zero =>
    intro p l hD H hb hf
    have : p = 0 := by walk_at "zo"
    subst this
    exact ⟨done 0 l H hb fun q _ hk => by unfold Kid at hk; walk_at "zo", .refl _⟩
  | succ f ih =>
    intro p l hD H hb hf
    rw [siftD_step]
    split
    · rename_i hs
      have hkp : Kid ((p - 1) / 2) p := by unfold Kid; walk_at "zo"
      have hql : (p - 1) / 2 < l.length := by have := H.h2; walk_at "zo"
      split
      · rename_i hlt
        have hne : p ≠ (p - 1) / 2 := by walk_at "zo"
        have hbel := H.d.up hs
        generalize hq : (p - 1) / 2 = q at *
        have hDq := gp_D hD hql
        have hsq := hbel.le
        · have H' : Hole lt s q (l.set p (gp l q)) := by
            refine ⟨hbel, by rw [List.length_set]; exact hql, ?_, ?_⟩
            · intro i c hi hk hc hiq hcq
              rw [List.length_set] at hc
              rw [gp_set H.h2, gp_set H.h2]
              by_cases e1 : p = c
              · subst e1
                exact absurd (show i = q by unfold Kid at hk hkp; walk_at "zo") hiq
              · rw [if_neg e1]
                by_cases e2 : p = i
                · rw [if_pos e2]; subst e2; exact H.b q c hsq hkp hk hc
                · rw [if_neg e2]; exact H.a i c hi hk hc (fun e => e2 e.symm) (fun e => e1 e.symm)
            · intro r c hr hkr hkc hc
              rw [List.length_set] at hc
              rw [gp_set H.h2, gp_set H.h2]
              have hrp : ¬ p = r := by unfold Kid at hkr hkp; walk_at "zo"
              rw [if_neg hrp]
              have h1 := H.a r q hr hkr hql (fun e => hrp e.symm) (fun e => hne e.symm)
              by_cases e1 : p = c
              · rw [if_pos e1]; exact h1
              · rw [if_neg e1]
                have h2 := H.a q c hsq hkc hc (fun e => hne e.symm) (fun e => e1 e.symm)
                exact O.tr _ _ _ (gp_D hD (by unfold Kid at hkr; walk_at "zo")) hDq (gp_D hD hc) h1 h2
          have hb' : ∀ c, Kid q c → c < (l.set p (gp l q)).length → lt (gp (l.set p (gp l q)) c) x = false := by
            intro c hk hc
            rw [List.length_set] at hc
            rw [gp_set H.h2]
            have h1 := O.tot _ _ hx hDq hlt
            by_cases e1 : p = c
            · rw [if_pos e1]; exact h1
            · rw [if_neg e1]
              exact O.tr _ _ _ hx hDq (gp_D hD hc) h1 (H.a q c hsq hk hc (fun e => hne e.symm) (fun e => e1 e.symm))
          obtain ⟨k1, k2⟩ := ih q (l.set p (gp l q)) (set_all hD hDq) H' hb' (by walk_at "zo")
          exact ⟨k1, k2.trans (set_swap H.h2 hql hne)⟩
      · rename_i hlt
        refine ⟨done p l H hb fun q' hq' hk => ?_, .refl _⟩
        have : q' = (p - 1) / 2 := by unfold Kid at hk; walk_at "zo"
        rw [this]; simpa using hlt
    · rename_i hs
      exact ⟨done p l H hb fun q' hq' hk => absurd hs (by have := H.d.le; unfold Kid at hk; walk_at "zo"), .refl _⟩
theorem siftUp_ok (O : OrdOn D lt) {s : Nat} {l : List PV} (hs : s < l.length) (hD : ∀ y ∈ l, D y) (h : HP lt (s + 1) l) : HP lt s (siftUp lt s l) ∧ (siftUp lt s l).Perm l := by
  have hx : D (gp l s) := gp_D hD hs
  have H0 : Hole lt s s l := ⟨.refl, hs, fun i c hi hk hc hi' _ => h i c (by walk_at "zo") hk hc, fun q c hq hk _ _ => absurd hq (by unfold Kid at hk; walk_at "zo")⟩
  obtain ⟨k1, k2, k3, k4⟩ := siftU_ok O hx l.length s l hD H0 (by walk_at "zo")
  unfold siftUp
  have e0 : l.set s (gp l s) = l := by
    apply List.ext_getElem?
    intro j
    rw [List.getElem?_set]
    by_cases e : s = j
    · subst e
      rw [if_pos rfl, if_pos hs, List.getElem?_eq_getElem hs]; unfold gp; rw [List.getD_eq_getElem?_getD, List.getElem?_eq_getElem hs]; rfl
    · rw [if_neg e]
  generalize hp : (siftU lt l.length s l).1 = p at *
  generalize hl : (siftU lt l.length s l).2 = m at *
  have hset : ∀ j, gp (m.set p (gp l s)) j = if p = j then gp l s else gp m j := fun j => gp_set k1.h2
  have H1 : Hole lt s p (m.set p (gp l s)) := by
    refine ⟨k1.d, by rw [List.length_set]; exact k1.h2, fun i c hi hk hc hip hcp => ?_, fun q c hq hk1 hk2 hc => ?_⟩
    · rw [List.length_set] at hc
      rw [hset, hset, if_neg (fun e => hcp e.symm), if_neg (fun e => hip e.symm)]
      exact k1.a i c hi hk hc hip hcp
    · rw [List.length_set] at hc
      exact absurd hc (by unfold Kid at hk2; walk_at "zo")
  obtain ⟨j1, j2⟩ := siftD_ok O hx p p (m.set p (gp l s)) (set_all k2 hx) H1 (fun c hk hc => by rw [List.length_set] at hc; exact absurd hc (by unfold Kid at hk; walk_at "zo")) (Nat.le_refl _)
  refine ⟨j1, j2.trans ?_⟩
  rw [List.set_set]
  exact k4.trans (by rw [e0])
theorem perm_D {l m : List PV} (h : m.Perm l) (hD : ∀ y ∈ l, D y) : ∀ y ∈ m, D y := fun y hy => hD y (h.mem_iff.mp hy)
theorem heapify_ok (O : OrdOn D lt) : ∀ (k : Nat) (l : List PV), k ≤ l.length → (∀ y ∈ l, D y) → HP lt k l → HP lt 0 (heapifyP lt k l) ∧ (heapifyP lt k l).Perm l
  | 0, l, _, _, h => ⟨h, .refl _⟩
  | k + 1, l, hk, hD, h => by
    obtain ⟨h1, h2⟩ := siftUp_ok O (by walk_at "zo") hD h
    obtain ⟨h3, h4⟩ := heapify_ok O k (siftUp lt k l) (by rw [h2.length_eq]; walk_at "zo") (perm_D h2 hD) h1
    exact ⟨h3, h4.trans h2⟩
theorem heapify_half (O : OrdOn D lt) {l : List PV} (hD : ∀ y ∈ l, D y) : HP lt 0 (heapifyP lt (l.length / 2) l) ∧ (heapifyP lt (l.length / 2) l).Perm l :=
  heapify_ok O _ l (by walk_at "zo") hD fun i c hi hk hc => by unfold Kid at hk; walk_at "zo"
theorem heap_least (O : OrdOn D lt) {l : List PV} (hD : ∀ y ∈ l, D y) (h : HP lt 0 l) : ∀ i, i < l.length → lt (gp l i) (gp l 0) = false := by
  intro i
  induction i using Nat.strongRecOn with
  | _ i ih =>
    intro hi
    by_cases h0 : i = 0
    · subst h0
      cases e : lt (gp l 0) (gp l 0) with
      | false => rfl
      | true => rw [← e]; exact O.tot _ _ (gp_D hD hi) (gp_D hD hi) e
    · have hk : Kid ((i - 1) / 2) i := by unfold Kid; walk_at "zo"
      have hq : (i - 1) / 2 < l.length := by walk_at "zo"
      exact O.tr _ _ _ (gp_D hD (by walk_at "zo")) (gp_D hD hq) (gp_D hD hi) (ih ((i - 1) / 2) (by walk_at "zo") hq) (h _ i (Nat.zero_le _) hk hi)
theorem heappop_ok (O : OrdOn D lt) {l : List PV} (h0 : 0 < l.length) (hD : ∀ y ∈ l, D y) (h : HP lt 0 l) :
    HP lt 0 (heappopP lt l).2 ∧ ((heappopP lt l).1 :: (heappopP lt l).2).Perm l ∧ ∀ y ∈ (heappopP lt l).2, lt y (heappopP lt l).1 = false := by
  have mem : ∀ y ∈ l, lt y (gp l 0) = false := fun y hy => by
    obtain ⟨i, hi, rfl⟩ := List.mem_iff_getElem.mp hy
    have := heap_least O hD h i hi
    have e : gp l i = l[i] := by unfold gp; rw [List.getD_eq_getElem?_getD, List.getElem?_eq_getElem hi]; rfl
    rwa [e] at this
  unfold heappopP
  split
  · rename_i h1
    obtain ⟨x, rfl⟩ : ∃ x, l = [x] := by
      match l, h0, h1 with
      | [x], _, _ => exact ⟨x, rfl⟩
    exact ⟨fun i c _ _ hc => absurd hc (Nat.not_lt_zero _), .refl _, fun y hy => nomatch hy⟩
  · rename_i h1
    obtain ⟨x, r, rfl⟩ : ∃ x r, l = x :: r := by cases l with | nil => cases h0 | cons x r => exact ⟨x, r, rfl⟩
    have hr : r ≠ [] := by rintro rfl; exact h1 (Nat.le_refl _)
    obtain ⟨m, z, rfl⟩ : ∃ m z, r = m ++ [z] := ⟨_, _, (List.dropLast_concat_getLast hr).symm⟩
    have e1 : (x :: (m ++ [z])).dropLast = x :: m := by rw [← List.cons_append, List.dropLast_concat]
    have e2 : (x :: (m ++ [z])).getD ((x :: (m ++ [z])).length - 1) .none = z := by
      rw [← List.cons_append, List.length_append, List.getD_eq_getElem?_getD]
      simp
    rw [e1, e2]
    have e3 : (x :: m).set 0 z = z :: m := rfl
    rw [e3]
    have hp : (z :: m).Perm (m ++ [z]) := (List.perm_append_singleton z m).symm
    have hDz : ∀ y ∈ z :: m, D y := fun y hy => hD y (.tail _ (hp.mem_iff.mp hy))
    have gpm : ∀ i, 0 < i → i < m.length + 1 → gp (z :: m) i = gp (x :: (m ++ [z])) i := fun i hi hl => by
      obtain ⟨j, rfl⟩ : ∃ j, i = j + 1 := ⟨i - 1, by walk_at "zo"⟩
      unfold gp
      rw [List.getD_eq_getElem?_getD, List.getD_eq_getElem?_getD, List.getElem?_cons_succ, List.getElem?_cons_succ, List.getElem?_append_left (by walk_at "zo")]
    have hH : HP lt (0 + 1) (z :: m) := fun i c hi hk hc => by
      rw [List.length_cons] at hc
      have hci : i < c := by unfold Kid at hk; walk_at "zo"
      rw [gpm i (by walk_at "zo") (by walk_at "zo"), gpm c (by walk_at "zo") hc]
      exact h i c (Nat.zero_le _) hk (by rw [List.length_cons, List.length_append]; show c < m.length + 1 + 1; walk_at "zo")
    obtain ⟨k1, k2⟩ := siftUp_ok O (s := 0) (l := z :: m) (by simp) hDz hH
    refine ⟨k1, (k2.trans hp).cons x, fun y hy => mem y (.tail _ ((k2.trans hp).mem_iff.mp hy))⟩
end
end Mine.Tactic
end
section
open PySem PySem.W PyProof.Rows PySem.Calls
set_option Elab.async false
set_option maxRecDepth 100000
namespace Mine.Tactic
noncomputable def item3 (a b c : Int) : PV := .tup [.int a, .int b, .int c]
noncomputable def lt3 : PV → PV → Bool
  | .tup a, .tup b => ltPs a b
  | _, _ => false
noncomputable def isT3 (p : PV) : Prop := ∃ a b c : Int, p = item3 a b c
theorem lt3_ok {C : Cx} {n : Nat} : LtOk C n isT3 lt3 := fun env κ ns cn ρ σ p q Q ⟨a, b, c, ha⟩ ⟨d, e, f, hb⟩ h => by
  subst ha; subst hb
  exact Op2.ltT rfl h
theorem lt3_iff (a b c d e f : Int) : lt3 (item3 a b c) (item3 d e f) = true ↔ (a < d ∨ (a = d ∧ (b < e ∨ (b = e ∧ c < f)))) := by
  show (if (a == d) then (if (b == e) then (if (c == f) then false else decide (c < f)) else decide (b < e)) else decide (a < d)) = true ↔ _
  by_cases e1 : a = d
  · subst e1
    rw [beq_self_eq_true, if_pos rfl]
    by_cases e2 : b = e
    · subst e2
      rw [beq_self_eq_true, if_pos rfl]
      by_cases e3 : c = f
      · subst e3
        rw [beq_self_eq_true, if_pos rfl]
        constructor
        · intro h; cases h
        · intro h; walk_at "zo"
      · rw [beq_eq_false_iff_ne.mpr e3, if_neg (by decide), decide_eq_true_eq]; walk_at "zo"
    · rw [beq_eq_false_iff_ne.mpr e2, if_neg (by decide), decide_eq_true_eq]; walk_at "zo"
  · rw [beq_eq_false_iff_ne.mpr e1, if_neg (by decide), decide_eq_true_eq]; walk_at "zo"
theorem lx_neg {a d : Int} {P : Prop} : ¬ (a < d ∨ (a = d ∧ P)) ↔ (d < a ∨ (d = a ∧ ¬ P)) :=
  ⟨fun h => (Int.lt_or_eq_of_le (Int.not_lt.mp fun k => h (.inl k))).imp_right fun e => ⟨e, fun k => h (.inr ⟨e.symm, k⟩)⟩,
   fun h k => h.elim (fun h => k.elim (fun k => Int.lt_irrefl _ (Int.lt_trans h k)) fun k => Int.lt_irrefl a (k.1 ▸ h : a < a)) fun h => k.elim (fun k => Int.lt_irrefl a (h.1 ▸ k : a < a)) fun k => h.2 k.2⟩
theorem lx_tr {a b c : Int} {P Q R : Prop} (t : P → Q → R) (h : b < a ∨ (b = a ∧ P)) (k : c < b ∨ (c = b ∧ Q)) : c < a ∨ (c = a ∧ R) :=
  h.elim (fun h => .inl (k.elim (fun k => Int.lt_trans k h) fun k => k.1 ▸ h)) fun h => k.elim (fun k => .inl (h.1 ▸ k)) fun k => .inr ⟨k.1.trans h.1, t h.2 k.2⟩
theorem lt3_neg (a b c d e f : Int) : lt3 (item3 a b c) (item3 d e f) = false ↔ (d < a ∨ (d = a ∧ (e < b ∨ (e = b ∧ ¬ c < f)))) := by
  rw [← Bool.not_eq_true, lt3_iff, lx_neg, lx_neg]
theorem lt3_ord : OrdOn isT3 lt3 := by
  refine ⟨?_, ?_⟩
  · rintro _ _ _ ⟨a, b, c, rfl⟩ ⟨d, e, f, rfl⟩ ⟨g, h, i, rfl⟩ h1 h2
    rw [lt3_neg] at h1 h2 ⊢
    exact lx_tr (lx_tr fun p q k => q (Int.lt_of_le_of_lt (Int.not_lt.mp p) k)) h2 h1
  · rintro _ _ ⟨a, b, c, rfl⟩ ⟨d, e, f, rfl⟩ h
    rw [lt3_iff] at h
    rw [lt3_neg]
    exact h.imp_right fun h => ⟨h.1, h.2.imp_right fun h => ⟨h.1, Int.not_lt.mpr (Int.le_of_lt h.2)⟩⟩
theorem item3_le {a b c d e f : Int} (h : lt3 (item3 d e f) (item3 a b c) = false) : a ≤ d :=
  ((lt3_neg ..).mp h).elim Int.le_of_lt fun h => Int.le_of_eq h.1
theorem pop3 {α : Type} [BEq α] [LawfulBEq α] {f : α → PV} (hT : ∀ a, isT3 (f a)) (inj : ∀ a b, f a = f b → a = b) {R : List α} {hp : List PV} (hP : hp.Perm (R.map f)) (hH : HP lt3 0 hp) (h0 : 0 < hp.length) :
    ∃ q ∈ R, (heappopP lt3 hp).1 = f q ∧ (heappopP lt3 hp).2.Perm ((R.erase q).map f) ∧ HP lt3 0 (heappopP lt3 hp).2 ∧ (heappopP lt3 hp).2.length + 1 = hp.length ∧ ∀ r ∈ R.erase q, lt3 (f r) (f q) = false := by
  have hD : ∀ y ∈ hp, isT3 y := fun y hy => by
    obtain ⟨x, _, rfl⟩ := List.mem_map.mp (hP.mem_iff.mp hy)
    exact hT x
  obtain ⟨h1, h2, h3⟩ := heappop_ok lt3_ord h0 hD hH
  obtain ⟨q, hq, e⟩ := List.mem_map.mp (hP.mem_iff.mp (h2.mem_iff.mp (.head _)))
  have hpr : (heappopP lt3 hp).2.Perm ((R.erase q).map f) := by
    have a : ((heappopP lt3 hp).1 :: (heappopP lt3 hp).2).Perm (f q :: (R.erase q).map f) := (h2.trans hP).trans ((List.perm_cons_erase hq).map f)
    rw [← e] at a
    exact a.cons_inv
  refine ⟨q, hq, e.symm, hpr, h1, h2.length_eq, fun r hr => ?_⟩
  have := h3 (f r) (hpr.mem_iff.mpr (List.mem_map_of_mem hr))
  rw [← e] at this
  exact this
structure HeapK (C : Cx) (p : Params) : Prop where
  sd : FnAt C aG__siftdown (fdOf p aG__siftdown)
  su : FnAt C aG__siftup (fdOf p aG__siftup)
  hp : FnAt C aG_heappop (fdOf p aG_heappop)
  hf : FnAt C aG_heapify (fdOf p aG_heapify)
  gl : Sub glH C.gl
end Mine.Tactic
end
section
set_option Elab.async false
set_option maxRecDepth 100000
namespace Mine.Tactic
noncomputable def maxN : List Nat → Nat
  | [] => 0
  | a :: l => max a (maxN l)
theorem maxN_le {x : Nat} : ∀ {l : List Nat}, x ∈ l → x ≤ maxN l
  | a :: l, h => by
    rcases List.mem_cons.mp h with rfl | h
    · exact Nat.le_max_left _ _
    · exact Nat.le_trans (maxN_le h) (Nat.le_max_right _ _)
theorem maxN_mem : ∀ {l : List Nat}, l ≠ [] → maxN l ∈ l
  | [a], _ => by show max a 0 ∈ _; rw [Nat.max_eq_left (Nat.zero_le _)]; exact .head _
  | a :: b :: l, _ => by
    have ih := maxN_mem (l := b :: l) (List.cons_ne_nil _ _)
    show max a (maxN (b :: l)) ∈ _
    by_cases h : maxN (b :: l) ≤ a
    · rw [Nat.max_eq_left h]; exact .head _
    · rw [Nat.max_eq_right (Nat.le_of_lt (Nat.lt_of_not_le h))]; exact .tail _ ih
noncomputable def ovOk (w v : List Nat) (k : Nat) : Bool := w.drop (w.length - k) == v.take k
noncomputable def ovs (w v : List Nat) : List Nat := (List.range (min w.length v.length)).filter (ovOk w v)
noncomputable def ovl (w v : List Nat) : Nat := maxN (ovs w v)
theorem mem_ovs {w v : List Nat} {k : Nat} : k ∈ ovs w v ↔ (k < w.length ∧ k < v.length) ∧ w.drop (w.length - k) = v.take k := by
  unfold ovs ovOk
  rw [List.mem_filter, List.mem_range, Nat.lt_min, beq_iff_eq]
theorem ovl_ge {w v : List Nat} {k : Nat} (h1 : k < w.length) (h2 : k < v.length) (h : w.drop (w.length - k) = v.take k) : k ≤ ovl w v := maxN_le (mem_ovs.mpr ⟨⟨h1, h2⟩, h⟩)
theorem ovl_mem {w v : List Nat} (hw : w ≠ []) (hv : v ≠ []) : ovl w v ∈ ovs w v := by
  refine maxN_mem (List.ne_nil_of_mem (a := 0) (mem_ovs.mpr ⟨⟨List.length_pos_iff.mpr hw, List.length_pos_iff.mpr hv⟩, ?_⟩))
  rw [Nat.sub_zero, List.drop_length, List.take_zero]
theorem ovl_ok {w v : List Nat} (hw : w ≠ []) (hv : v ≠ []) : ovl w v < w.length ∧ ovl w v < v.length ∧ w.drop (w.length - ovl w v) = v.take (ovl w v) := by
  obtain ⟨⟨a, b⟩, c⟩ := mem_ovs.mp (ovl_mem hw hv)
  exact ⟨a, b, c⟩
theorem ovl_monge {w v w' v' : List Nat} (hw : w ≠ []) (hv : v ≠ []) (hw' : w' ≠ []) (hv' : v' ≠ []) (h1 : ovl w v' ≤ ovl w v) (h2 : ovl w' v ≤ ovl w v) : ovl w v' + ovl w' v ≤ ovl w v + ovl w' v' := by
  obtain ⟨o1, o2, o3⟩ := ovl_ok hw hv
  obtain ⟨a1, a2, a3⟩ := ovl_ok hw hv'
  obtain ⟨b1, b2, b3⟩ := ovl_ok hw' hv
  by_cases hle : ovl w v' + ovl w' v ≤ ovl w v
  · exact Nat.le_trans hle (Nat.le_add_right _ _)
  generalize ovl w v = o at *
  generalize ovl w v' = a at *
  generalize ovl w' v = b at *
  obtain ⟨c, hc⟩ : ∃ c, a + b = o + c := ⟨a + b - o, by walk_at "zo"⟩
  have hck : c ≤ ovl w' v' := by
    refine ovl_ge (by walk_at "zo") (by walk_at "zo") ?_
    have e1 : w'.drop (w'.length - c) = (w'.drop (w'.length - b)).drop (b - c) := by rw [List.drop_drop]; congr 1; walk_at "zo"
    have e2 : v'.take c = (v'.take a).take c := by rw [List.take_take, Nat.min_eq_left (by walk_at "zo")]
    have e3 : w.drop (w.length - a) = (w.drop (w.length - o)).drop (o - a) := by rw [List.drop_drop]; congr 1; walk_at "zo"
    rw [e1, e2, ← a3, e3, o3, b3, List.drop_take, List.drop_take, List.take_take]
    rw [show b - c = o - a by walk_at "zo", Nat.min_eq_left (by walk_at "zo")]
    congr 1; walk_at "zo"
  walk_at "zo"

noncomputable abbrev Prs2 := List (Nat × Nat)
noncomputable def FreeP (P : Prs2) (q : Nat × Nat) : Prop := q.1 ∉ P.map (·.1) ∧ q.2 ∉ P.map (·.2)
noncomputable def In4 (q : Nat × Nat) : Prop := q.1 < 4 ∧ q.2 < 4
noncomputable def PartM (M : Prs2) : Prop := (M.map (·.1)).Nodup ∧ (M.map (·.2)).Nodup
inductive GrF (s : Nat × Nat → Nat) : Prs2 → Prs2 → Prop
  | nil {P : Prs2} : GrF s P []
  | cons {P L : Prs2} {p : Nat × Nat} : In4 p → FreeP P p → (∀ q, In4 q → FreeP P q → s q ≤ s p) → GrF s (P ++ [p]) L → GrF s P (p :: L)
theorem GrF.snoc {s : Nat × Nat → Nat} {p : Nat × Nat} (h1 : In4 p) : ∀ {P L : Prs2}, GrF s P L → FreeP (P ++ L) p → (∀ q, In4 q → FreeP (P ++ L) q → s q ≤ s p) → GrF s P (L ++ [p])
  | P, _, .nil, h2, h3 => by rw [List.append_nil] at h2 h3; exact .cons h1 h2 h3 .nil
  | P, _, .cons (L := L) (p := r) a b c d, h2, h3 => by
    rw [List.append_cons] at h2 h3
    exact .cons a b c (d.snoc h1 h2 h3)
structure Monge (s : Nat × Nat → Nat) : Prop where
  mo : ∀ i j i' j', In4 (i, j) → In4 (i', j') → s (i, j') ≤ s (i, j) → s (i', j) ≤ s (i, j) → s (i, j') + s (i', j) ≤ s (i, j) + s (i', j')
theorem FreeP.snoc {P : Prs2} {p q : Nat × Nat} (h : FreeP P q) (h1 : q.1 ≠ p.1) (h2 : q.2 ≠ p.2) : FreeP (P ++ [p]) q := by
  unfold FreeP
  rw [List.map_append, List.map_append, List.mem_append, List.mem_append]
  exact ⟨fun e => e.elim h.1 fun e => h1 (List.mem_singleton.mp e), fun e => e.elim h.2 fun e => h2 (List.mem_singleton.mp e)⟩
theorem exch {s : Nat × Nat → Nat} (hM : Monge s) {P M : Prs2} {p : Nat × Nat} (hp : In4 p) (hmax : ∀ q, In4 q → FreeP P q → s q ≤ s p) (h4 : ∀ q ∈ M, In4 q) (hf : ∀ q ∈ M, FreeP P q) (hpm : PartM M) (hne : M ≠ []) (hfp : FreeP P p) :
    ∃ M' : Prs2, (∀ q ∈ M', In4 q) ∧ (∀ q ∈ M', FreeP (P ++ [p]) q) ∧ PartM M' ∧ M.length = M'.length + 1 ∧ (M.map s).sum ≤ s p + (M'.map s).sum := by
  obtain ⟨n1, n2⟩ := hpm
  by_cases hr : p.1 ∈ M.map (·.1)
  · obtain ⟨a, ha, ea⟩ := List.mem_map.mp hr
    obtain ⟨M1, M2, rfl⟩ := List.append_of_mem ha
    have pm : (M1 ++ a :: M2).Perm (a :: (M1 ++ M2)) := List.perm_middle
    have n1' := (pm.map (·.1)).nodup_iff.mp n1
    have n2' := (pm.map (·.2)).nodup_iff.mp n2
    rw [List.map_cons, List.nodup_cons] at n1' n2'
    have hs : ((M1 ++ a :: M2).map s).sum = s a + ((M1 ++ M2).map s).sum := by rw [(pm.map s).sum_nat]; rfl
    have hl : (M1 ++ a :: M2).length = (M1 ++ M2).length + 1 := pm.length_eq
    have hsub : ∀ q ∈ M1 ++ M2, q ∈ M1 ++ a :: M2 := fun q hq => pm.mem_iff.mpr (.tail _ hq)
    by_cases hc : p.2 ∈ (M1 ++ M2).map (·.2)
    · obtain ⟨b, hb, eb⟩ := List.mem_map.mp hc
      obtain ⟨N1, N2, eN⟩ := List.append_of_mem hb
      rw [eN] at hs hl hsub n1' n2'
      have pm2 : (N1 ++ b :: N2).Perm (b :: (N1 ++ N2)) := List.perm_middle
      have m1 := (pm2.map (·.1)).nodup_iff.mp n1'.2
      have m2 := (pm2.map (·.2)).nodup_iff.mp n2'.2
      rw [List.map_cons, List.nodup_cons] at m1 m2
      have k1 : a.1 ∉ (N1 ++ N2).map (·.1) := fun e => n1'.1 ((pm2.map (·.1)).mem_iff.mpr (.tail _ e))
      have k2 : a.2 ∉ (N1 ++ N2).map (·.2) := fun e => n2'.1 ((pm2.map (·.2)).mem_iff.mpr (.tail _ e))
      have hbm : b ∈ N1 ++ b :: N2 := by simp
      have hab1 : b.1 ≠ a.1 := fun e => n1'.1 (e ▸ List.mem_map_of_mem hbm)
      have hab2 : b.2 ≠ a.2 := fun e => n2'.1 (e ▸ List.mem_map_of_mem hbm)
      have ia := h4 a ha
      have ib := h4 b (hsub b hbm)
      have fa := hf a ha
      have fb := hf b (hsub b hbm)
      have hsub2 : ∀ q ∈ N1 ++ N2, q ∈ M1 ++ a :: M2 := fun q hq => hsub q (pm2.mem_iff.mpr (.tail _ hq))
      refine ⟨(b.1, a.2) :: (N1 ++ N2), ?_, ?_, ⟨?_, ?_⟩, ?_, ?_⟩
      · intro q hq
        rcases List.mem_cons.mp hq with rfl | hq
        · exact ⟨ib.1, ia.2⟩
        · exact h4 q (hsub2 q hq)
      · intro q hq
        rcases List.mem_cons.mp hq with rfl | hq
        · exact FreeP.snoc ⟨fb.1, fa.2⟩ (by rw [← ea]; exact hab1) (by rw [← eb]; exact Ne.symm hab2)
        · refine FreeP.snoc (hf q (hsub2 q hq)) (fun e => k1 ?_) (fun e => m2.1 ?_)
          · rw [ea, ← e]; exact List.mem_map_of_mem hq
          · rw [eb, ← e]; exact List.mem_map_of_mem hq
      · rw [List.map_cons, List.nodup_cons]; exact ⟨m1.1, m1.2⟩
      · rw [List.map_cons, List.nodup_cons]; exact ⟨k2, m2.2⟩
      · rw [hl, pm2.length_eq]; rfl
      · have hs2 : ((N1 ++ b :: N2).map s).sum = s b + ((N1 ++ N2).map s).sum := by rw [(pm2.map s).sum_nat]; rfl
        have hmo := hM.mo p.1 p.2 b.1 a.2 hp ⟨ib.1, ia.2⟩ (by show s (p.1, a.2) ≤ s p; rw [show (p.1, a.2) = a by rw [← ea]]; exact hmax a ia fa) (by show s (b.1, p.2) ≤ s p; rw [show (b.1, p.2) = b by rw [← eb]]; exact hmax b ib fb)
        have e1 : s (p.1, a.2) = s a := by rw [← ea]
        have e2 : s (b.1, p.2) = s b := by rw [← eb]
        rw [e1, e2] at hmo
        rw [hs, hs2, List.map_cons, List.sum_cons]
        have : s (p.1, p.2) = s p := rfl
        walk_at "zo"
    · refine ⟨M1 ++ M2, fun q hq => h4 q (hsub q hq), fun q hq => FreeP.snoc (hf q (hsub q hq)) (fun e => n1'.1 ?_) (fun e => hc ?_), ⟨n1'.2, n2'.2⟩, hl, ?_⟩
      · rw [ea, ← e]; exact List.mem_map_of_mem hq
      · rw [← e]; exact List.mem_map_of_mem hq
      · rw [hs]; exact Nat.add_le_add_right (hmax a (h4 a ha) (hf a ha)) _
  · obtain ⟨b, hbm, hbc⟩ : ∃ b ∈ M, p.2 ∈ M.map (·.2) → b.2 = p.2 := by
      by_cases hc : p.2 ∈ M.map (·.2)
      · obtain ⟨b, hb, eb⟩ := List.mem_map.mp hc
        exact ⟨b, hb, fun _ => eb⟩
      · obtain ⟨b, hb⟩ := List.exists_mem_of_ne_nil M hne
        exact ⟨b, hb, fun h => absurd h hc⟩
    obtain ⟨M1, M2, rfl⟩ := List.append_of_mem hbm
    have pm : (M1 ++ b :: M2).Perm (b :: (M1 ++ M2)) := List.perm_middle
    have n1' := (pm.map (·.1)).nodup_iff.mp n1
    have n2' := (pm.map (·.2)).nodup_iff.mp n2
    rw [List.map_cons, List.nodup_cons] at n1' n2'
    have hs : ((M1 ++ b :: M2).map s).sum = s b + ((M1 ++ M2).map s).sum := by rw [(pm.map s).sum_nat]; rfl
    have hl : (M1 ++ b :: M2).length = (M1 ++ M2).length + 1 := pm.length_eq
    have hsub : ∀ q ∈ M1 ++ M2, q ∈ M1 ++ b :: M2 := fun q hq => pm.mem_iff.mpr (.tail _ hq)
    refine ⟨M1 ++ M2, fun q hq => h4 q (hsub q hq), fun q hq => FreeP.snoc (hf q (hsub q hq)) (fun e => hr ?_) (fun e => ?_), ⟨n1'.2, n2'.2⟩, hl, ?_⟩
    · rw [← e]; exact List.mem_map_of_mem (hsub q hq)
    · have hb2 : b.2 = p.2 := hbc (by rw [← e]; exact List.mem_map_of_mem (hsub q hq))
      refine n2'.1 ?_
      rw [hb2, ← e]; exact List.mem_map_of_mem hq
    · rw [hs]; exact Nat.add_le_add_right (hmax b (h4 b hbm) (hf b hbm)) _
theorem GrF.best {s : Nat × Nat → Nat} (hM : Monge s) : ∀ {L P M : Prs2}, GrF s P L → (∀ q ∈ M, In4 q) → (∀ q ∈ M, FreeP P q) → PartM M → M.length ≤ L.length → (M.map s).sum ≤ ((L.take M.length).map s).sum
  | L, P, [], _, _, _, _, _ => by simp
  | [], P, q :: M, _, _, _, _, hl => by simp at hl
  | p :: L, P, q :: M, .cons a b c d, h4, hf, hpm, hl => by
    obtain ⟨M', m1, m2, m3, m4, m5⟩ := exch hM a c h4 hf hpm (List.cons_ne_nil _ _) b
    have ih := d.best hM m1 m2 m3 (by rw [m4, List.length_cons] at hl; walk_at "zo")
    have e : (((p :: L).take (q :: M).length).map s).sum = s p + ((L.take M'.length).map s).sum := by rw [m4]; rfl
    rw [e]; exact Nat.le_trans m5 (Nat.add_le_add_left ih _)
theorem GrF.part {s : Nat × Nat → Nat} : ∀ {L P : Prs2}, GrF s P L → PartM P → PartM (P ++ L)
  | [], P, _, h => by rw [List.append_nil]; exact h
  | p :: L, P, .cons a b c d, h => by
    rw [List.append_cons]
    refine d.part ⟨?_, ?_⟩
    · rw [List.map_append]; exact List.nodup_append.mpr ⟨h.1, by simp, fun x hx y hy e => b.1 (by have e2 : x = p.1 := e.trans (List.mem_singleton.mp hy); exact e2 ▸ hx)⟩
    · rw [List.map_append]; exact List.nodup_append.mpr ⟨h.2, by simp, fun x hx y hy e => b.2 (by have e2 : x = p.2 := e.trans (List.mem_singleton.mp hy); exact e2 ▸ hx)⟩
theorem GrF.in4 {s : Nat × Nat → Nat} : ∀ {L P : Prs2}, GrF s P L → ∀ q ∈ L, In4 q
  | p :: L, P, .cons a _ _ d, q, hq => by
    rcases List.mem_cons.mp hq with rfl | hq
    · exact a
    · exact d.in4 q hq
theorem GrF.free {s : Nat × Nat → Nat} : ∀ {L P : Prs2}, GrF s P L → ∀ q ∈ L, FreeP P q
  | p :: L, P, .cons _ b _ d, q, hq => by
    rcases List.mem_cons.mp hq with rfl | hq
    · exact b
    · have := d.free q hq
      unfold FreeP at this ⊢
      rw [List.map_append, List.map_append, List.mem_append, List.mem_append] at this
      exact ⟨fun e => this.1 (.inl e), fun e => this.2 (.inl e)⟩
theorem GrF.desc {s : Nat × Nat → Nat} : ∀ {L P : Prs2}, GrF s P L → (L.map s).Pairwise (· ≥ ·)
  | [], P, _ => .nil
  | p :: L, P, .cons a b c d => by
    rw [List.map_cons]
    refine List.pairwise_cons.mpr ⟨fun x hx => ?_, d.desc⟩
    obtain ⟨q, hq, rfl⟩ := List.mem_map.mp hx
    have := d.free q hq
    unfold FreeP at this
    rw [List.map_append, List.map_append, List.mem_append, List.mem_append] at this
    exact c q (d.in4 q hq) ⟨fun e => this.1 (.inl e), fun e => this.2 (.inl e)⟩
end Mine.Tactic
end
section
set_option Elab.async false
set_option maxRecDepth 100000
namespace Mine.Tactic
theorem maxN_le_of {m : Nat} : ∀ {l : List Nat}, (∀ x ∈ l, x ≤ m) → maxN l ≤ m
  | [], _ => Nat.zero_le _
  | a :: l, h => Nat.max_le.mpr ⟨h a (.head _), maxN_le_of fun x hx => h x (.tail _ hx)⟩
noncomputable def ordStep (os : List (List Nat)) : List (List Nat) := os.flatMap fun o => ((List.range 4).filter fun j => !o.contains j).map fun j => o ++ [j]
noncomputable def ordN : Nat → List (List Nat)
  | 0 => [[]]
  | k + 1 => ordStep (ordN k)
noncomputable def sortD (l : List Nat) : List Nat := l.mergeSort fun a b => decide (b ≤ a)
theorem sortD_perm (l : List Nat) : (sortD l).Perm l := List.mergeSort_perm l _
theorem sortD_down (l : List Nat) : (sortD l).Pairwise (· ≥ ·) := by
  refine (List.pairwise_mergeSort (le := fun a b => decide (b ≤ a)) ?_ ?_ l).imp ?_
  · intro a b c h1 h2; exact decide_eq_true (Nat.le_trans (of_decide_eq_true h2) (of_decide_eq_true h1))
  · intro a b
    rw [Bool.or_eq_true]
    rcases Nat.le_total b a with h | h
    · exact .inl (decide_eq_true h)
    · exact .inr (decide_eq_true h)
  · intro a b h; exact of_decide_eq_true h
theorem sortD_uniq {m l : List Nat} (h : m.Perm l) (hp : m.Pairwise (· ≥ ·)) : m = sortD l :=
  (h.trans (sortD_perm l).symm).eq_of_pairwise (fun a b _ _ h1 h2 => Nat.le_antisymm h2 h1) hp (sortD_down l)
noncomputable def pairsO (o : List Nat) : Prs2 := (List.range 4).map fun i => (i, o.getD i 0)
noncomputable def rowO (s : Nat × Nat → Nat) (o : List Nat) : List Nat := sortD ((pairsO o).map s)
noncomputable def bestN (s : Nat × Nat → Nat) (k : Nat) : Nat := maxN ((ordN 4).map fun o => ((rowO s o).take k).sum)
theorem ord_ok : ∀ o ∈ ordN 4, (∀ q ∈ pairsO o, In4 q) ∧ PartM (pairsO o) := by
  have h : ((ordN 4).all fun o => ((pairsO o).all fun q => decide (q.1 < 4) && decide (q.2 < 4)) && (decide ((pairsO o).map (·.1)).Nodup && decide ((pairsO o).map (·.2)).Nodup)) = true := by decide +kernel
  intro o ho
  have := List.all_eq_true.mp h o ho
  rw [Bool.and_eq_true, Bool.and_eq_true, decide_eq_true_eq, decide_eq_true_eq, List.all_eq_true] at this
  exact ⟨fun q hq => by have := this.1 q hq; rw [Bool.and_eq_true, decide_eq_true_eq, decide_eq_true_eq] at this; exact this, this.2⟩
theorem sortPairs (s : Nat × Nat → Nat) (M : Prs2) : ∃ N : Prs2, N.Perm M ∧ N.map s = sortD (M.map s) := by
  refine ⟨M.mergeSort fun a b => decide (s b ≤ s a), List.mergeSort_perm _ _, sortD_uniq ((List.mergeSort_perm _ _).map s) ?_⟩
  rw [List.pairwise_map]
  refine (List.pairwise_mergeSort (le := fun a b => decide (s b ≤ s a)) ?_ ?_ M).imp ?_
  · intro a b c h1 h2; exact decide_eq_true (Nat.le_trans (of_decide_eq_true h2) (of_decide_eq_true h1))
  · intro a b
    rw [Bool.or_eq_true]
    rcases Nat.le_total (s b) (s a) with h | h
    · exact .inl (decide_eq_true h)
    · exact .inr (decide_eq_true h)
  · intro a b h; exact of_decide_eq_true h
theorem all4 : ∀ a b c d : Fin 4, [a.1, b.1, c.1, d.1].Nodup → [a.1, b.1, c.1, d.1] ∈ ordN 4 := by
  have h : ((List.range 4).all fun a => (List.range 4).all fun b => (List.range 4).all fun c => (List.range 4).all fun d => !decide [a, b, c, d].Nodup || (ordN 4).contains [a, b, c, d]) = true := by decide +kernel
  intro a b c d hn
  have h := List.all_eq_true.mp h a.1 (List.mem_range.mpr a.2)
  have h := List.all_eq_true.mp h b.1 (List.mem_range.mpr b.2)
  have h := List.all_eq_true.mp h c.1 (List.mem_range.mpr c.2)
  have h := List.all_eq_true.mp h d.1 (List.mem_range.mpr d.2)
  rw [decide_eq_true hn, Bool.not_true, Bool.false_or, List.contains_iff_mem] at h
  exact h
theorem perm_of_sub {α : Type} : ∀ {l m : List α}, l.Nodup → (∀ x ∈ l, x ∈ m) → m.length ≤ l.length → l.Perm m
  | [], m, _, _, h => by rw [List.length_eq_zero_iff.mp (Nat.le_zero.mp h)]
  | a :: l, m, hn, hs, hl => by
    obtain ⟨h1, h2⟩ := List.nodup_cons.mp hn
    obtain ⟨m1, m2, rfl⟩ := List.append_of_mem (hs a (.head _))
    refine ((perm_of_sub h2 (fun x hx => ?_) ?_).cons a).trans List.perm_middle.symm
    · have := (List.perm_middle (a := a) (l₁ := m1) (l₂ := m2)).mem_iff.mp (hs x (.tail _ hx))
      rcases List.mem_cons.mp this with rfl | h
      · exact absurd hx h1
      · exact h
    · have := (List.perm_middle (a := a) (l₁ := m1) (l₂ := m2)).length_eq
      rw [this] at hl
      exact Nat.le_of_succ_le_succ hl
theorem order_of {L : Prs2} (h4 : ∀ q ∈ L, In4 q) (hp : PartM L) (hl : L.length = 4) : ∃ o ∈ ordN 4, (pairsO o).Perm L := by
  obtain ⟨n1, n2⟩ := hp
  have hrow : (L.map (·.1)).Perm (List.range 4) := by
    refine perm_of_sub n1 (fun x hx => ?_) ?_
    · obtain ⟨q, hq, rfl⟩ := List.mem_map.mp hx; exact List.mem_range.mpr (h4 q hq).1
    · rw [List.length_range, List.length_map, hl]; exact Nat.le_refl _
  have hat : ∀ i, i < 4 → ∃ j, j < 4 ∧ (i, j) ∈ L := fun i hi => by
    obtain ⟨q, hq, e⟩ := List.mem_map.mp (hrow.mem_iff.mpr (List.mem_range.mpr hi))
    exact ⟨q.2, (h4 q hq).2, by rw [← e]; exact hq⟩
  obtain ⟨a, ha, la⟩ := hat 0 (by decide)
  obtain ⟨b, hb, lb⟩ := hat 1 (by decide)
  obtain ⟨c, hc, lc⟩ := hat 2 (by decide)
  obtain ⟨d, hd, ld⟩ := hat 3 (by decide)
  have hperm : (pairsO [a, b, c, d]).Perm L := by
    refine perm_of_sub ?_ ?_ ?_
    · refine List.Pairwise.of_map (S := (· ≠ ·)) (·.1) (fun x y h e => h (by rw [e])) ?_
      show ([0, 1, 2, 3] : List Nat).Nodup
      decide
    · intro q hq
      have hq : q = (0, a) ∨ q = (1, b) ∨ q = (2, c) ∨ q = (3, d) := by simpa [pairsO, List.range_succ] using hq
      rcases hq with rfl | rfl | rfl | rfl <;> assumption
    · rw [hl]; exact Nat.le_refl 4
  refine ⟨[a, b, c, d], all4 ⟨a, ha⟩ ⟨b, hb⟩ ⟨c, hc⟩ ⟨d, hd⟩ ?_, hperm⟩
  exact (hperm.map (·.2)).nodup_iff.mpr n2
theorem best_ok {s : Nat × Nat → Nat} (hM : Monge s) {L : Prs2} (hG : GrF s [] L) (hl : L.length = 4) {k : Nat} (hk : k ≤ 4) : bestN s k = ((L.map s).take k).sum := by
  refine Nat.le_antisymm (maxN_le_of fun x hx => ?_) ?_
  · obtain ⟨o, ho, rfl⟩ := List.mem_map.mp hx
    obtain ⟨h4, n1, n2⟩ := ord_ok o ho
    obtain ⟨N, hN, eN⟩ := sortPairs s (pairsO o)
    unfold rowO
    rw [← eN, ← List.map_take, ← List.map_take]
    have hl4 : N.length = 4 := hN.length_eq
    have hkl : (N.take k).length = k := by rw [List.length_take, hl4, Nat.min_eq_left hk]
    have hs : ∀ q ∈ N.take k, In4 q := fun q hq => h4 q (hN.mem_iff.mp (List.mem_of_mem_take hq))
    have hpm : PartM (N.take k) := ⟨by rw [List.map_take]; exact ((hN.map (·.1)).nodup_iff.mpr n1).sublist (List.take_sublist _ _), by rw [List.map_take]; exact ((hN.map (·.2)).nodup_iff.mpr n2).sublist (List.take_sublist _ _)⟩
    have := hG.best hM hs (fun q _ => ⟨fun h => (List.not_mem_nil h).elim, fun h => (List.not_mem_nil h).elim⟩) hpm (by rw [hkl, hl]; exact hk)
    rw [hkl] at this
    exact this
  · obtain ⟨o, ho, hp⟩ := order_of hG.in4 (hG.part (P := []) ⟨.nil, .nil⟩) hl
    refine maxN_le (List.mem_map.mpr ⟨o, ho, ?_⟩)
    unfold rowO
    rw [← sortD_uniq (hp.symm.map s) hG.desc]

noncomputable def cutW (W : Nat → List Nat) (nx : Nat → Nat) (i : Nat) : List Nat := (W i).take ((W i).length - ovl (W i) (W (nx i)))
noncomputable def ringW (W : Nat → List Nat) (nx : Nat → Nat) (is : List Nat) : List Nat := is.flatMap (cutW W nx)
noncomputable def laidW (W : Nat → List Nat) (nx : Nat → Nat) (is : List Nat) : List (Nat × List Nat) := (List.range is.length).map fun t => ((ringW W nx (is.take t)).length, W (is.getD t 0))
theorem laidW_snoc (W : Nat → List Nat) (nx : Nat → Nat) (is : List Nat) (i : Nat) : laidW W nx (is ++ [i]) = laidW W nx is ++ [((ringW W nx is).length, W i)] := by
  unfold laidW
  rw [List.length_append, List.length_singleton, List.range_succ, List.map_append, List.map_singleton]
  congr 1
  · refine List.map_congr_left fun t ht => ?_
    have ht := List.mem_range.mp ht
    rw [List.take_append_of_le_length (Nat.le_of_lt ht), List.getD_eq_getElem?_getD, List.getD_eq_getElem?_getD, List.getElem?_append_left ht]
  · rw [List.take_append_of_le_length (Nat.le_refl _), List.take_length, List.getD_eq_getElem?_getD, List.getElem?_append_right (Nat.le_refl _), Nat.sub_self]; rfl
theorem ringW_snoc (W : Nat → List Nat) (nx : Nat → Nat) (is : List Nat) (i : Nat) : ringW W nx (is ++ [i]) = ringW W nx is ++ cutW W nx i := by
  unfold ringW; rw [List.flatMap_append]; simp
structure Cyc (nx : Nat → Nat) (is : List Nat) : Prop where
  st : ∀ t, t + 1 < is.length → is.getD (t + 1) 0 = nx (is.getD t 0)
  fin : ∀ t, t + 1 = is.length → is.getD 0 0 = nx (is.getD t 0)
theorem rep_at {l : List Nat} : ∀ {k n : Nat}, n < k * l.length → (List.replicate k l).flatten[n]? = l[n % l.length]?
  | 0, n, h => by walk_at "zo"
  | k + 1, n, h => by
    rw [List.replicate_succ, List.flatten_cons]
    by_cases hn : n < l.length
    · rw [List.getElem?_append_left hn, Nat.mod_eq_of_lt hn]
    · rw [List.getElem?_append_right (Nat.le_of_not_lt hn), rep_at (k := k) (by rw [Nat.succ_mul] at h; walk_at "zo"), Nat.mod_eq_sub_mod (Nat.le_of_not_lt hn)]
theorem cut_pos {W : Nat → List Nat} {nx : Nat → Nat} {i : Nat} (hW : ∀ i, W i ≠ []) : 0 < (cutW W nx i).length := by
  unfold cutW
  obtain ⟨h1, _, _⟩ := ovl_ok (hW i) (hW (nx i))
  rw [List.length_take]; walk_at "zo"
theorem ring_split {W : Nat → List Nat} {nx : Nat → Nat} {is : List Nat} {t : Nat} (ht : t < is.length) : ringW W nx is = ringW W nx (is.take t) ++ (cutW W nx (is.getD t 0) ++ ringW W nx (is.drop (t + 1))) := by
  have e : is = is.take t ++ (is.getD t 0 :: is.drop (t + 1)) := by
    rw [List.getD_eq_getElem?_getD, List.getElem?_eq_getElem ht, Option.getD_some, ← List.drop_eq_getElem_cons ht, List.take_append_drop]
  conv => lhs; rw [e]
  unfold ringW
  rw [List.flatMap_append, List.flatMap_cons]
theorem ring_pt {W : Nat → List Nat} {nx : Nat → Nat} (hW : ∀ i, W i ≠ []) {is : List Nat} (hC : Cyc nx is) : ∀ (p t : Nat), t < is.length → p < (W (is.getD t 0)).length → (ringW W nx is)[((ringW W nx (is.take t)).length + p) % (ringW W nx is).length]? = (W (is.getD t 0))[p]? := by
  intro p
  induction p using Nat.strongRecOn with
  | _ p ih =>
    intro t ht hp
    have hs := ring_split (W := W) (nx := nx) ht
    obtain ⟨o1, o2, o3⟩ := ovl_ok (hW (is.getD t 0)) (hW (nx (is.getD t 0)))
    have hcl : (cutW W nx (is.getD t 0)).length = (W (is.getD t 0)).length - ovl (W (is.getD t 0)) (W (nx (is.getD t 0))) := by unfold cutW; rw [List.length_take]; walk_at "zo"
    have hlen : (ringW W nx is).length = (ringW W nx (is.take t)).length + ((cutW W nx (is.getD t 0)).length + (ringW W nx (is.drop (t + 1))).length) := by rw [hs, List.length_append, List.length_append]
    by_cases hc : p < (cutW W nx (is.getD t 0)).length
    · rw [Nat.mod_eq_of_lt (by walk_at "zo"), hs, List.getElem?_append_right (Nat.le_add_right _ _), Nat.add_sub_cancel_left, List.getElem?_append_left hc]
      unfold cutW
      rw [List.getElem?_take_of_lt (by walk_at "zo")]
    · have hp' : p - (cutW W nx (is.getD t 0)).length < ovl (W (is.getD t 0)) (W (nx (is.getD t 0))) := by walk_at "zo"
      have hcp := cut_pos (nx := nx) (i := is.getD t 0) hW
      have e1 : (W (is.getD t 0))[p]? = (W (nx (is.getD t 0)))[p - (cutW W nx (is.getD t 0)).length]? := by
        have := congrArg (fun l : List Nat => l[p - (cutW W nx (is.getD t 0)).length]?) o3
        rw [List.getElem?_drop, List.getElem?_take_of_lt hp'] at this
        rw [← this]; congr 1; walk_at "zo"
      by_cases hl : t + 1 < is.length
      · have e2 := hC.st t hl
        have h1 := ih (p - (cutW W nx (is.getD t 0)).length) (by walk_at "zo") (t + 1) hl (by rw [e2]; walk_at "zo")
        rw [e2] at h1
        rw [e1, ← h1]
        congr 2
        have : is.take (t + 1) = is.take t ++ [is.getD t 0] := by rw [List.take_add_one, List.getD_eq_getElem?_getD, List.getElem?_eq_getElem ht]; rfl
        rw [this, ringW_snoc, List.length_append]; walk_at "zo"
      · have hfin : t + 1 = is.length := by walk_at "zo"
        have e2 := hC.fin t hfin
        have h1 := ih (p - (cutW W nx (is.getD t 0)).length) (by walk_at "zo") 0 (by walk_at "zo") (by rw [e2]; walk_at "zo")
        rw [e2] at h1
        rw [e1, ← h1]
        have hd : ringW W nx (is.drop (t + 1)) = [] := by rw [hfin, List.drop_length]; rfl
        rw [hd, List.length_nil] at hlen
        have h0 : (ringW W nx (is.take 0)).length = 0 := rfl
        rw [h0, Nat.zero_add, show (ringW W nx (is.take t)).length + p = (p - (cutW W nx (is.getD t 0)).length) + (ringW W nx is).length by walk_at "zo", Nat.add_mod_right]
theorem stand_ok {W : Nat → List Nat} {nx : Nat → Nat} (hW : ∀ i, W i ≠ []) (h5 : ∀ i, (W i).length ≤ 5) {is : List Nat} (hC : Cyc nx is) : ∀ q ∈ laidW W nx is, (((List.replicate 6 (ringW W nx is)).flatten.drop q.1).take q.2.length) = q.2 := by
  intro q hq
  obtain ⟨t, ht, rfl⟩ := List.mem_map.mp hq
  have ht := List.mem_range.mp ht
  have hs := ring_split (W := W) (nx := nx) ht
  have hcp := cut_pos (nx := nx) (i := is.getD t 0) hW
  have hlen : (ringW W nx is).length = (ringW W nx (is.take t)).length + ((cutW W nx (is.getD t 0)).length + (ringW W nx (is.drop (t + 1))).length) := by rw [hs, List.length_append, List.length_append]
  have h5 := h5 (is.getD t 0)
  refine List.ext_getElem? fun p => ?_
  show (((List.replicate 6 (ringW W nx is)).flatten.drop (ringW W nx (is.take t)).length).take (W (is.getD t 0)).length)[p]? = (W (is.getD t 0))[p]?
  by_cases hp : p < (W (is.getD t 0)).length
  · rw [List.getElem?_take_of_lt hp, List.getElem?_drop, rep_at (by walk_at "zo")]
    exact ring_pt hW hC p t ht hp
  · rw [List.getElem?_eq_none (l := W (is.getD t 0)) (by walk_at "zo"), List.getElem?_eq_none (by rw [List.length_take]; walk_at "zo")]
end Mine.Tactic
end
section
open PySem PySem.W PyProof.Rows PySem.Calls
set_option Elab.async false
set_option maxRecDepth 100000
namespace Mine.Tactic

noncomputable def esc2 (c : Nat) : List Nat := [92, c]
noncomputable def txtS (ks : List Nat) : List Nat := cs "(?s:.*" ++ ks.flatMap esc2 ++ cs ")\\Z"
noncomputable def InDH (c : Nat) : Prop := c = 45 ∨ c = 46
theorem inDH_esc {c : Nat} (h : InDH c) : escW c = esc2 c := if_pos h
theorem trans_dh {q : List Nat} : ∀ (ks : List Nat) (acc : Parts), (∀ c ∈ ks, InDH c) → transP q ks acc = acc ++ ks.map fun c => some (esc2 c)
  | [], acc, _ => (List.append_nil _).symm
  | c :: ks, acc, h => by
    have hc := h c (.head _)
    have h1 : c ≠ 42 := by rcases hc with rfl | rfl <;> decide
    have h2 : c ≠ 63 := by rcases hc with rfl | rfl <;> decide
    unfold transP
    rw [if_neg h1, if_neg h2, trans_dh ks _ (fun x hx => h x (.tail _ hx)), inDH_esc hc, List.append_assoc]; rfl
theorem span_some : ∀ ls : List (List Nat), spanS (ls.map some) = (ls, [])
  | [] => rfl
  | l :: ls => by rw [List.map_cons, spanS_cons, span_some ls]
theorem txt_of {ks : List Nat} (h : ∀ c ∈ ks, InDH c) (hne : ks ≠ []) : joinP (transP (cs ".") (42 :: ks) []) = txtS ks := by
  have e1 : transP (cs ".") (42 :: ks) [] = none :: ks.map fun c => some (esc2 c) := by
    show (if (42 : Nat) = 42 then _ else _) = _
    rw [if_pos rfl, if_neg (by simp), List.nil_append, trans_dh ks _ h]; rfl
  have e2 : (ks.map fun c => some (esc2 c)) = (ks.map esc2).map some := by rw [List.map_map]; rfl
  rw [e1]
  unfold joinP txtS
  rw [spanS_none, e2, List.length_cons, joinT_step, if_neg (by simpa using hne), span_some, if_pos rfl]
  have e3 : cs "(?s:" ++ cs ".*" = cs "(?s:.*" := by decide
  rw [← e3]
  simp [List.flatMap]
theorem FnSpec.frz {C : Cx} {n : Nat} {f : PV} {ps : List PV} {kw : List (String × PV)} {σ : Led} {l : List PV} (h : FnSpec C n f ps kw σ (fun r σ' => ∃ D, r = .ref D ∧ σ' = [(D, .list l)])) : FnSpec C n f ps kw σ (fun r σ' => r = .lst l ∧ σ' = []) := fun A bs im s fv vs kvs hA hS hf hv hk => by
  obtain ⟨a, b⟩ := h A bs im s fv vs kvs hA hS hf hv hk
  refine ⟨a, codeAny_mono b fun _ s' hqx => ?_⟩
  obtain ⟨v, e, im', p, σ', x, y, z, D, hp, hσ⟩ := hqx
  subst hp; subst hσ
  rw [y.ref_i] at e
  obtain ⟨⟨ws, m, ho, hws⟩, _, _⟩ := z.led (D, .list l) (.head _)
  obtain ⟨e2, z2⟩ := z.freezeObj ho
  exact ⟨.ref D, e, _, .lst l, [], x.trans e2, .lst (PM.put_self ..) (hws.mono e2.1), z2, rfl, rfl⟩
theorem txtS_pre (ks : List Nat) : pySl (txtS ks) none (some (6 : Int)) = cs "(?s:.*" := by
  unfold txtS; rw [List.append_assoc]; exact sl_pre (k := 6) (by decide)
theorem txtS_suf (ks : List Nat) : pySl (txtS ks) (some (-3 : Int)) none = cs ")\\Z" := sl_suf (k := 3) (by decide) (by decide)
theorem txtS_mid (ks : List Nat) : pySl (txtS ks) (some (6 : Int)) (some (-3 : Int)) = ks.flatMap esc2 := sl_mid (k := 6) (j := 3) (by decide) (by decide) (by decide)
theorem txtS_len (ks : List Nat) : (txtS ks).length = 9 + 2 * ks.length := by
  have h : ∀ ks : List Nat, (ks.flatMap esc2).length = 2 * ks.length := fun ks => by
    induction ks with
    | nil => rfl
    | cons c ks ih => rw [List.flatMap_cons, List.length_append, ih, List.length_cons]; show 2 + _ = _; walk_at "zo"
  unfold txtS
  rw [List.length_append, List.length_append, h, show (cs "(?s:.*").length = 6 by decide, show (cs ")\\Z").length = 3 by decide]; walk_at "zo"
theorem sl_from {a r : List Nat} {k : Nat} (h : a.length = k) : pySl (a ++ r) (some (k : Int)) none = r := by
  subst h
  unfold pySl clampI
  dsimp only
  rw [if_neg (by walk_at "zo"), Int.toNat_natCast, List.length_append, Nat.min_eq_left (by walk_at "zo"), List.drop_left, Nat.add_sub_cancel_left, List.take_length]
noncomputable abbrev nsS1 : Names := [("text", .local), ("body", .local), ("signs", .local), ("slash", .local)]
noncomputable def SgnI (D : Addr) (ks : List Nat) : Nat → Rho → Led → Prop := fun k ρ σ => ∃ i, k = ks.length - i ∧ i ≤ ks.length ∧ σ = [(D, .list ((ks.take i).map sgP))] ∧ Sub [("body", .str ((ks.drop i).flatMap esc2)), ("signs", .ref D)] ρ
set_option maxHeartbeats 8000000 in
theorem signs_spec {C : Cx} {p : Params} {n : Nat} (hf : FnAt C aG__law_signs (fdOf p aG__law_signs)) {ks : List Nat} (hk : ∀ c ∈ ks, InDH c) (hz : ks.length ≤ 100) :
    FnSpec C (n + 1) (.ref aG__law_signs) [.str (txtS ks)] [] [] (fun r σ' => r = .lst (ks.map sgP) ∧ σ' = []) := by
  refine FnSpec.frz ?_
  have hg : Sub [] C.gl := .nil
  refine FnSpec.of (body := ?bd) ["text"] [.str (txtS ks)] nsS1 [] [] (sc := ?sc) hf ?hb ?hsc ?hgl ?hbi ?hcl ?hok hg rfl ?_ ?_
  case hb => with_unfolding_all rfl
  case hsc => with_unfolding_all rfl
  case hgl => with_unfolding_all rfl
  case hbi => with_unfolding_all rfl
  case hcl => with_unfolding_all rfl
  case hok => kernel_rfl
  · intro im s vs kvs hk hv hkw
    obtain ⟨v, rfl, h1⟩ := one_v hv
    have : kvs = [] := by have := hkw.1; simpa using this
    subst this
    have e : bindArgs (fdOf p aG__law_signs) ⟨[v], []⟩ = pure ((["text"].map Str.ofString).zip [v]) := by kernel_rfl
    refine ⟨[v], hv, ?_⟩
    intro M A E Q h
    rw [e]
    exact wpAny_pure h
  · intro env κ
    show Ex _ _ [("text", .str (txtS ks))] _ _
    have hl := txtS_len ks
    refine Ex.cons <| Ex1.if <| Ts.compare <| Ev.binop <| Ev.slice <| Ev.name (by walk_at "zm") <| Ev.int ⟨_, rfl, SliceP.str (by walk_at "zo") ?_⟩
    rw [txtS_pre]
    refine Ev.slice <| Ev.name (by walk_at "zm") <| Ev.unary <| Ev.int <| Op1.neg ⟨_, rfl, SliceP.str (by walk_at "zo") ?_⟩
    rw [txtS_suf]
    refine Op2.addS (by decide) <| Ev.str <| Op2.neS <| TrueOf.bool ?_
    rw [show (cs "(?s:.*" ++ cs ")\\Z" != cs "(?s:.*)\\Z") = false by decide]
    show Ex _ _ _ _ _
    refine Ex.nil ?_
    refine Ex.cons <| Ex1.asgSwap (x := "body") (y := "signs") (by walk_at "zm") (by walk_at "zm") (ok := by kernel_rfl) <| Ev.tuple <| EvL.cons <| Ev.slice <| Ev.name (by walk_at "zm") <| Ev.int ⟨_, rfl, Ev.unary <| Ev.int <| Op1.neg ⟨_, rfl, SliceP.str (by walk_at "zo") ?_⟩⟩
    rw [txtS_mid]
    refine EvL.cons <| Ev.listM <| EvL.nil ⟨by simp, fun D => EvL.nil ⟨by simp, _, _, _, _, rfl, by walk_at "zs", by walk_at "zs", ?_⟩⟩
    refine Ex.cons <| Ex1.while (SgnI D ks) ?_ ks.length ?_
    · rintro k ρ σ ⟨i, rfl, hi, rfl, hs⟩
      refine Tr.rho2 ["body", "signs"] hs ?_
      have hfl : ((ks.drop i).flatMap esc2).length ≤ 200 := by
        have : ∀ l : List Nat, (l.flatMap esc2).length = 2 * l.length := fun l => by
          induction l with
          | nil => rfl
          | cons c l ih => rw [List.flatMap_cons, List.length_append, ih, List.length_cons]; show 2 + _ = _; walk_at "zo"
        rw [this, List.length_drop]; walk_at "zo"
      refine Ts.compare <| Ev.name (by walk_at "zm") <| Ev.str <| Op2.neS <| TrueOf.bool ?_
      by_cases hlt : i < ks.length
      · obtain ⟨c, hc⟩ : ∃ c, ks[i]? = some c := ⟨ks[i], List.getElem?_eq_getElem hlt⟩
        have hdr : ks.drop i = c :: ks.drop (i + 1) := by
          rw [List.drop_eq_getElem_cons hlt]
          rw [List.getElem?_eq_getElem hlt] at hc
          cases hc; rfl
        have hce : ks[i] = c := by rw [List.getElem?_eq_getElem hlt] at hc; exact Option.some.inj hc
        have htk : (ks.take (i + 1)).map sgP = (ks.take i).map sgP ++ [.str [c]] := by rw [List.take_add_one, hc, List.map_append]; rfl
        rw [hdr, List.flatMap_cons] at hfl ⊢
        generalize hr : (ks.drop (i + 1)).flatMap esc2 = rest at hfl ⊢
        rw [show (esc2 c ++ rest != cs "") = true by rw [bne_iff_ne, show cs "" = [] by decide]; simp [esc2]]
        show Ex _ _ _ _ _
        refine Ex.cons <| Ex1.asg <| Ev.ifexp <| Ts.compare <| Ev.sub <| Ev.name (by walk_at "zm") <| Ev.int <| Op2.itemS (c := 92) (by walk_at "zo") (by rw [List.length_append]; show (0 : Int) < ((2 + rest.length : Nat) : Int); walk_at "zo") (by walk_at "zo") rfl <| Ev.str <| Op2.eqS <| TrueOf.bool ?_
        rw [show ([92] == cs "\\") = true by decide]
        show Ev _ _ _ _ _
        refine Ev.int <| As.name (by walk_at "zm") (by walk_at "zs") ?_
        refine Ex.cons <| Ex1.expr <| Ev.meth <| Ev.name (by walk_at "zm") ⟨_, _, MethP.led (by walk_at "zm") F.slot_list_append F.type_list_append, EvL.cons <| Ev.ifexp <| Ts.compare <| Ev.sub <| Ev.name (by walk_at "zm") <| Ev.int <| Op2.itemS (c := 92) (by walk_at "zo") (by rw [List.length_append]; show (0 : Int) < ((2 + rest.length : Nat) : Int); walk_at "zo") (by walk_at "zo") rfl <| Ev.str <| Op2.eqS <| TrueOf.bool ?_⟩
        rw [show ([92] == cs ".") = false by decide]
        show Ev _ _ _ _ _
        refine Ev.slice <| Ev.name (by walk_at "zm") <| Ev.name (by walk_at "zm") ⟨_, rfl, Ev.binop <| Ev.name (by walk_at "zm") <| Ev.int <| Op2.add ⟨_, rfl, SliceP.str (by walk_at "zo") ?_⟩⟩
        rw [show pySl (esc2 c ++ rest) (some 1) (some (1 + 1)) = [c] from rfl]
        refine EvL.nil <| CallP.append .head (by rw [List.length_map, List.length_take]; walk_at "zo") ⟨rfl, ?_⟩
        refine Ex.cons <| Ex1.asg <| Ev.slice <| Ev.name (by walk_at "zm") <| Ev.binop <| Ev.name (by walk_at "zm") <| Ev.int <| Op2.add ⟨_, rfl, SliceP.str (by walk_at "zo") ?_⟩
        have e2 : pySl (esc2 c ++ rest) (some (1 + 1)) none = rest := sl_from (k := 2) rfl
        rw [e2]
        refine As.name (by walk_at "zm") (by walk_at "zs") ?_
        rw [← htk]
        exact Ex.nil ⟨ks.length - (i + 1), by walk_at "zo", i + 1, rfl, by walk_at "zo", rfl, by rw [hr]; walk_at "zb"⟩
      · have hin : i = ks.length := by walk_at "zo"
        subst hin
        rw [List.drop_length, show (([] : List Nat).flatMap esc2 != cs "") = false by decide]
        show Ex _ _ _ _ _
        refine Ex.cons <| Ex1.ret <| Ev.name (by walk_at "zm") ⟨D, rfl, ?_⟩
        rw [List.take_length]
    · exact ⟨0, rfl, Nat.zero_le _, rfl, by walk_at "zb"⟩
end Mine.Tactic
end
section
open PySem PySem.W PyProof.Rows PySem.Calls
set_option Elab.async false
set_option maxRecDepth 100000
namespace Mine.Tactic

noncomputable abbrev nsT1 : Names := [("signs", .local), ("word", .local)]
theorem zip_all_eq : ∀ {a b : List Nat}, a.length = b.length → (((a.zip b).filter fun x => x.1 != x.2).isEmpty) = (b == a)
  | [], [], _ => rfl
  | x :: a, y :: b, h => by
    have ih := zip_all_eq (a := a) (b := b) (Nat.succ.inj h)
    rw [List.zip_cons_cons, List.filter_cons]
    by_cases e : x = y
    · subst e
      rw [if_neg (by simp), ih]; simp
    · rw [if_pos (by simpa using e)]
      have : (y :: b == x :: a) = false := by rw [beq_eq_false_iff_ne]; intro q; injection q with q _; exact e q.symm
      rw [this]; rfl
  | [], _ :: _, h => nomatch h
  | _ :: _, [], h => nomatch h
set_option maxHeartbeats 8000000 in
theorem takes_spec {C : Cx} {p : Params} {n : Nat} (hf : FnAt C aG__law_takes (fdOf p aG__law_takes)) (hg : Sub [("zip", .con (.type "zip")), ("len", .con (.builtin "len"))] C.gl) {ks w : List Nat} (hk : ks.length ≤ w.length) (hz : w.length ≤ 100) (ha : ∀ c ∈ w, c < 128) (hne : ∀ c ∈ ks, InDH c) :
    FnSpec C (n + 1) (.ref aG__law_takes) [.lst (ks.map sgP), .str w] [] [] (fun r σ' => r = .bool (w.drop (w.length - ks.length) == ks) ∧ σ' = []) := by
  refine FnSpec.of (body := ?bd) ["signs", "word"] [.lst (ks.map sgP), .str w] nsT1 [] [("zip", .con (.type "zip")), ("len", .con (.builtin "len"))] (sc := ?sc) hf ?hb ?hsc ?hgl ?hbi ?hcl ?hok hg rfl ?_ ?_
  case hb => with_unfolding_all rfl
  case hsc => with_unfolding_all rfl
  case hgl => with_unfolding_all rfl
  case hbi => with_unfolding_all rfl
  case hcl => with_unfolding_all rfl
  case hok => kernel_rfl
  · intro im s vs kvs hk hv hkw
    obtain ⟨v, w, rfl, h1, h2⟩ := two_v hv
    have : kvs = [] := by have := hkw.1; simpa using this
    subst this
    have e : bindArgs (fdOf p aG__law_takes) ⟨[v, w], []⟩ = pure ((["signs", "word"].map Str.ofString).zip [v, w]) := by kernel_rfl
    refine ⟨[v, w], hv, ?_⟩
    intro M A E Q h
    rw [e]
    exact wpAny_pure h
  · intro env κ
    show Ex _ _ [("zip", .con (.type "zip")), ("len", .con (.builtin "len")), ("signs", .lst (ks.map sgP)), ("word", .str w)] _ _
    have e1 : pySl w (some ((w.length : Int) - (ks.length : Int))) none = w.drop (w.length - ks.length) := by
      unfold pySl clampI
      dsimp only
      rw [if_neg (by walk_at "zo"), show ((w.length : Int) - (ks.length : Int)).toNat = w.length - ks.length by walk_at "zo", Nat.min_eq_left (by walk_at "zo"), List.take_of_length_le (by rw [List.length_drop]; walk_at "zo")]
    have hvl : (w.drop (w.length - ks.length)).length = ks.length := by rw [List.length_drop]; walk_at "zo"
    have hva : (w.drop (w.length - ks.length)).all (· < 128) = true := List.all_eq_true.mpr fun c hc => decide_eq_true (ha c (List.mem_of_mem_drop hc))
    refine Ex.cons <| Ex1.ret <| Ev.compare <| Ev.compS (hsc := ?hsc) <| ForSrc.zip (by walk_at "zm") <| EvL.cons <| Ev.name (by walk_at "zm") <| EvL.cons <| Ev.slice <| Ev.name (by walk_at "zm") <| Ev.binop <| Ev.call (by walk_at "zm") <| EvL.cons <| Ev.name (by walk_at "zm") <| EvL.nil <| CallP.lenS (by walk_at "zo") <| Ev.call (by walk_at "zm") <| EvL.cons <| Ev.name (by walk_at "zm") <| EvL.nil <| CallP.lenL (by rw [List.length_map]; walk_at "zo") <| Op2.sub ⟨_, rfl, SliceP.str (by walk_at "zo") ?_⟩
    case hsc => kernel_rfl
    rw [List.length_map, e1]
    generalize w.drop (w.length - ks.length) = v at hvl hva ⊢
    refine EvL.nil ⟨_, _, _, _, rfl, .lst, .str hva, [("sign", .local), ("one", .local)], [], [], [], ?hck, (fun _ h => nomatch h), (fun _ h => nomatch h), ?_⟩
    case hck => kernel_rfl
    intro env' κ'
    have hp : pairs (ks.map sgP) (signs v) = (ks.zip v).map fun x => .tup [.str [x.1], .str [x.2]] := by
      unfold pairs signs
      rw [List.zip_map, List.map_map]; rfl
    rw [hp]
    refine compItems.fa (compInner_mono _) [] (fun x : Nat × Nat => .tup [.str [x.1], .str [x.2]]) (fun x => itIf (x.1 != x.2) (.str [x.2])) 1000 (ks.zip v) [] _ ?_ (by walk_at "zb") ?_ ?_
    · intro x hx acc ρ hacc hs'
      have hdh := hne x.1 (List.of_mem_zip hx).1
      refine Con.rho2 [] hs' ?_
      refine As.tup (ps := [.str [x.1], .str [x.2]]) (As.name (by walk_at "zm") (by walk_at "zs") <| As.name (by walk_at "zm") (by walk_at "zs") ?_) rfl rfl
      refine Ts.compare <| Ev.name (by walk_at "zm") <| Ev.tuple <| EvL.cons <| Ev.str <| EvL.cons <| Ev.name (by walk_at "zm") <| EvL.nil ⟨by simp, Op2.notInT (fun p hp => by rcases List.mem_cons.mp hp with rfl | hp; rfl; rw [List.mem_singleton.mp hp]; rfl) <| TrueOf.bool ?_⟩
      have e : (!hasP [.str (cs ""), .str [x.2]] (.str [x.1])) = (x.1 != x.2) := by
        show (!((cs "" == [x.1]) || (([x.2] == [x.1]) || false))) = _
        rw [show (cs "" == [x.1]) = false from rfl, Bool.false_or, Bool.or_false, bne, show ([x.2] == [x.1]) = (x.1 == x.2) by rw [Bool.eq_iff_iff, beq_iff_eq, beq_iff_eq]; simp [eq_comm]]
      rw [e]
      refine ite_b (fun h1 => ?_) (fun h1 => ?_)
      · show compInner _ _ _ _ _ _ _
        exact Ev.name (by walk_at "zm") ⟨by walk_at "zo", by rw [h1]; rfl, rfl, by walk_at "zb"⟩
      · exact ⟨by rw [h1]; rfl, rfl, by walk_at "zb"⟩
    · rw [flat_if, List.nil_append]; exact Nat.le_trans (if_len _ _ _) (by rw [List.length_zip]; walk_at "zo")
    intro ρ _
    rw [flat_if, List.nil_append]
    refine Ev.list <| EvL.nil ⟨by simp, Op2.eqEmptyL ⟨?_, rfl⟩⟩
    rw [List.isEmpty_map, zip_all_eq hvl.symm]
end Mine.Tactic
end
section
open PySem PySem.W PyProof.Rows PySem.Calls
set_option Elab.async false
set_option maxRecDepth 100000
namespace Mine.Tactic

structure WdsOk (W : List (List Nat)) : Prop where
  len : W.length = 4
  lo : ∀ w ∈ W, 2 ≤ w.length
  hi : ∀ w ∈ W, w.length ≤ 5
  dh : ∀ w ∈ W, ∀ c ∈ w, InDH c
noncomputable def hdP (w : List Nat) : PV := .lst ((List.range (w.length - 1)).map fun k => .lst ((w.take (k + 1)).map sgP))
noncomputable def rowW (W : List (List Nat)) (w : List Nat) : PV := .lst ((W.map fun v => (ovl w v : Int)).map .int)
noncomputable def shP (W : List (List Nat)) : PV := .lst (W.map (rowW W))
noncomputable abbrev nsSH : Names := [("words", .local), ("heads", .cell), ("shares", .local), ("word", .cell), ("row", .local), ("j", .cell), ("fits", .local)]
noncomputable abbrev glSH : Rho := [("range", .con (.type "range")), ("len", .con (.builtin "len")), ("min", .con (.builtin "min")), ("max", .con (.builtin "max"))]
noncomputable abbrev glS2 : Rho := [("_law_signs", .ref aG__law_signs), ("translate", .ref aG_translate), ("range", .con (.type "range")), ("len", .con (.builtin "len")), ("_law_takes", .ref aG__law_takes)]
theorem dh_lt {c : Nat} (h : InDH c) : c < 128 := by rcases h with rfl | rfl <;> decide
noncomputable def fitsL (w v : List Nat) : List Int := ((List.range (min w.length v.length - 1)).filter fun k => ovOk w v (k + 1)).map fun k : Nat => (1 + (k : Int) * 1)
theorem fits_max {w v : List Nat} (hw : w ≠ []) (hv : v ≠ []) : (ovl w v : Int) ∈ [(0 : Int)] ++ fitsL w v ∧ ∀ a ∈ [(0 : Int)] ++ fitsL w v, a ≤ (ovl w v : Int) := by
  obtain ⟨h1, h2, h3⟩ := ovl_ok hw hv
  constructor
  · by_cases h0 : ovl w v = 0
    · rw [h0]; exact .head _
    · refine List.mem_append_right _ (List.mem_map.mpr ⟨ovl w v - 1, List.mem_filter.mpr ⟨List.mem_range.mpr (by walk_at "zo"), ?_⟩, by walk_at "zo"⟩)
      rw [show ovl w v - 1 + 1 = ovl w v by walk_at "zo"]
      exact beq_iff_eq.mpr h3
  · intro a ha
    rcases List.mem_append.mp ha with ha | ha
    · rw [List.mem_singleton.mp ha]; walk_at "zo"
    · obtain ⟨k, hk, rfl⟩ := List.mem_map.mp ha
      obtain ⟨hk, ho⟩ := List.mem_filter.mp hk
      have hk := List.mem_range.mp hk
      have := ovl_ge (w := w) (v := v) (k := k + 1) (by walk_at "zo") (by walk_at "zo") (beq_iff_eq.mp ho)
      walk_at "zo"
noncomputable def ShI (W : List (List Nat)) (S : Addr) : Nat → Rho → Led → Prop := fun k ρ σ => σ = [(S, .list ((W.take k).map (rowW W)))] ∧ Sub [("range", .con (.type "range")), ("len", .con (.builtin "len")), ("min", .con (.builtin "min")), ("max", .con (.builtin "max")), ("words", .lst (W.map .str)), ("heads", .lst (W.map hdP)), ("shares", .ref S)] ρ
noncomputable def ShJ (W : List (List Nat)) (S R : Addr) (k : Nat) (w : List Nat) : Nat → Rho → Led → Prop := fun j ρ σ => σ = [(R, .list (((W.take j).map fun v => (ovl w v : Int)).map .int)), (S, .list ((W.take k).map (rowW W)))] ∧ Sub [("range", .con (.type "range")), ("len", .con (.builtin "len")), ("min", .con (.builtin "min")), ("max", .con (.builtin "max")), ("words", .lst (W.map .str)), ("heads", .lst (W.map hdP)), ("shares", .ref S), ("word", .str w), ("row", .ref R)] ρ
theorem take_word {w : List Nat} {k : Nat} (h : k ≤ w.length) : pySl w none (some (k : Int)) = w.take k := by
  unfold pySl clampI
  dsimp only
  rw [if_neg (by walk_at "zo"), Int.toNat_natCast, Nat.min_eq_left h, List.drop_zero, Nat.sub_zero]
set_option maxHeartbeats 16000000 in
theorem shares_spec {C : Cx} {p : Params} {n : Nat} {es : List DictEntry} (T : TrK C p es) (hD : ∀ c, InDH c → PlainC es c) (hf : FnAt C aG__law_shares (fdOf p aG__law_shares)) (hf1 : FnAt C aG__law_signs (fdOf p aG__law_signs)) (hf2 : FnAt C aG__law_takes (fdOf p aG__law_takes)) (hg : Sub glSH C.gl) (hgS : Sub glS2 C.gl) (hg2 : Sub [("zip", .con (.type "zip")), ("len", .con (.builtin "len"))] C.gl) {W : List (List Nat)} (hW : WdsOk W) :
    FnSpec C (n + 4) (.ref aG__law_shares) [.lst (W.map .str)] [] [] (fun r σ' => r = shP W ∧ σ' = []) := by
  refine FnSpec.frz ?_
  refine FnSpec.of (body := ?bd) ["words"] [.lst (W.map .str)] nsSH ["heads", "word", "j"] glSH (sc := ?sc) hf ?hb ?hsc ?hgl ?hbi ?hcl ?hok hg rfl ?_ ?_
  case hb => with_unfolding_all rfl
  case hsc => with_unfolding_all rfl
  case hgl => with_unfolding_all rfl
  case hbi => with_unfolding_all rfl
  case hcl => with_unfolding_all rfl
  case hok => kernel_rfl
  · intro im s vs kvs hk hv hkw
    obtain ⟨v, rfl, h1⟩ := one_v hv
    have : kvs = [] := by have := hkw.1; simpa using this
    subst this
    have e : bindArgs (fdOf p aG__law_shares) ⟨[v], []⟩ = pure ((["words"].map Str.ofString).zip [v]) := by kernel_rfl
    refine ⟨[v], hv, ?_⟩
    intro M A E Q h
    rw [e]
    exact wpAny_pure h
  · intro env κ
    show Ex _ _ [("range", .con (.type "range")), ("len", .con (.builtin "len")), ("min", .con (.builtin "min")), ("max", .con (.builtin "max")), ("words", .lst (W.map .str))] _ _
    have hg1 : Sub [("range", .con (.type "range")), ("len", .con (.builtin "len"))] C.gl := hgS.in (by walk_at "zb")
    have hg4 : Sub [("_law_signs", .ref aG__law_signs), ("translate", .ref aG_translate)] C.gl := hgS.in (by walk_at "zb")
    have hg3 : Sub [("_law_takes", .ref aG__law_takes)] C.gl := hgS.in (by walk_at "zb")
    have h4 := hW.len
    refine Ex.cons <| Ex1.asgCompC (by walk_at "zm") <| Ev.comp (hsc := ?hsc) <| Ev.name (by walk_at "zm") ⟨[], [], [], _, [("word", .cell)], ["word"], [], [("range", .con (.type "range")), ("len", .con (.builtin "len"))], ItSrc.lst, fun _ h => h, .inr rfl, List.nodup_nil, ?hck, (fun _ h => nomatch h), ?hrg, ?_⟩
    case hsc => kernel_rfl
    case hck => kernel_rfl
    case hrg => exact hg1
    intro env' κ'
    refine compItems.fa (compInner_mono _) [("range", .con (.type "range")), ("len", .con (.builtin "len"))] (fun w : List Nat => .str w) (fun w => [hdP w]) 1000 W [] _ ?_ (by walk_at "zb") ?_ ?_
    · intro w hw acc ρ hacc hs'
      have hlo := hW.lo w hw
      have hhi := hW.hi w hw
      have hdh := hW.dh w hw
      refine Con.rho2 ["range", "len"] hs' ?_
      refine As.nameC (by walk_at "zm") (by walk_at "zs") ?_
      show compInner _ _ _ _ _ _ _
      refine Ev.comp (hsc := ?hsc) <| Ev.call (by walk_at "zm") <| EvL.cons <| Ev.int <| EvL.cons <| Ev.call (by walk_at "zm") <| EvL.cons <| Ev.name (by walk_at "zm") <| EvL.nil <| CallP.lenS (by walk_at "zo") <| EvL.nil <| CallP.range2 ⟨[], [], [], _, [("k", .local)], [], [("word", .str w)], [("_law_signs", .ref aG__law_signs), ("translate", .ref aG_translate)], ItSrc.rng (n := w.length - 1) (small1 (by walk_at "zo") (by walk_at "zo") (by walk_at "zo") (by walk_at "zo")) (rangeSizeN (by walk_at "zo")), fun _ h => h, .inr rfl, List.nodup_nil, ?hck, ?hrc, ?hrg, ?_⟩
      case hsc => kernel_rfl
      case hck => kernel_rfl
      case hrc => walk_at "zb"
      case hrg => exact hg4
      intro env2 κ2
      refine compItems.fa (compInner_mono _) [("_law_signs", .ref aG__law_signs), ("translate", .ref aG_translate), ("word", .str w)] (fun k : Nat => .int (1 + k * 1)) (fun k => [.lst ((w.take (k + 1)).map sgP)]) 1000 (List.range (w.length - 1)) [] _ ?_ (by walk_at "zb") ?_ ?_
      · intro k hk acc2 ρ2 hacc2 hs2
        have hk := List.mem_range.mp hk
        refine Con.rho2 ["_law_signs", "translate", "word"] hs2 ?_
        refine As.name (by walk_at "zm") (by walk_at "zs") ?_
        show compInner _ _ _ _ _ _ _
        refine Ev.call (by walk_at "zm") <| EvL.cons <| Ev.call (by walk_at "zm") <| EvL.cons <| Ev.binop <| Ev.str <| Ev.slice <| Ev.name (by walk_at "zm") <| Ev.name (by walk_at "zm") ⟨_, rfl, SliceP.str (by walk_at "zo") ?_⟩
        have hdt : ∀ c ∈ w.take (k + 1), InDH c := fun c hc => hdh c (List.mem_of_mem_take hc)
        have hne : w.take (k + 1) ≠ [] := by intro e; have := congrArg List.length e; rw [List.length_take, List.length_nil] at this; walk_at "zo"
        have htl : (w.take (k + 1)).length ≤ 5 := by rw [List.length_take]; walk_at "zo"
        rw [show (1 + (k : Int) * 1) = ((k + 1 : Nat) : Int) by walk_at "zo", take_word (by walk_at "zo")]
        generalize w.take (k + 1) = ks at hdt hne htl ⊢
        refine Op2.addS (by rw [show (cs "*").length = 1 by decide]; walk_at "zo") ?_
        rw [show cs "*" ++ ks = 42 :: ks from rfl]
        refine EvL.nil <| CallP.of (φ := []) (FnSpec.drop (translate_spec (n := n) T (pat := 42 :: ks) (fun c hc => by rcases List.mem_cons.mp hc with rfl | hc; exact .inl rfl; exact .inr (.inr (hD c (hdt c hc)))) (by rw [List.length_cons]; walk_at "zo"))) (fun _ h => h) (.inr rfl) ?_
        rintro r σ' ⟨rfl, rfl⟩
        rw [txt_of hdt hne]
        refine EvL.nil <| CallP.of (φ := []) ((signs_spec (n := n) hf1 hdt (by walk_at "zo")).more (by show n + 1 ≤ n + 3; walk_at "zo")) (fun _ h => h) (.inr rfl) ?_
        rintro r σ' ⟨rfl, rfl⟩
        exact ⟨by walk_at "zo", rfl, rfl, by walk_at "zb"⟩
      · rw [flat_one, List.nil_append, List.length_map, List.length_range]; walk_at "zo"
      intro ρ2 _
      rw [flat_one, List.nil_append]
      exact ⟨by walk_at "zo", rfl, rfl, by walk_at "zb"⟩
    · rw [flat_one, List.nil_append, List.length_map]; walk_at "zo"
    intro ρ2 _
    rw [flat_one, List.nil_append]
    refine As.nameC (by walk_at "zm") (by walk_at "zs") ?_
    refine Ex.cons <| Ex1.asg <| Ev.listM <| EvL.nil ⟨by simp, fun S => As.name (by walk_at "zm") (by walk_at "zs") ?_⟩
    refine Ex.cons <| Ex1.for <| Ev.name (by walk_at "zm") ⟨[], [], [(S, .list [])], _, ItSrc.lst, fun _ h => h, .inr rfl, List.nodup_nil, ?_⟩
    refine ForT.inv (ShI W S) _ 0 ?_ ?_ ?_
    · rintro k q ρ _ hq ⟨rfl, hs'⟩
      rw [Nat.zero_add] at *
      rw [List.getElem?_map, Option.map_eq_some_iff] at hq
      obtain ⟨w, hwk, rfl⟩ := hq
      have hw := List.mem_of_getElem? hwk
      have hlo := hW.lo w hw
      have hhi := hW.hi w hw
      have hdh := hW.dh w hw
      have hw0 : w ≠ [] := by rintro rfl; simp at hlo
      have hkl : k < 4 := h4 ▸ (List.getElem?_eq_some_iff.mp hwk).1
      refine Con.rho2 ["range", "len", "min", "max", "words", "heads", "shares"] hs' ?_
      refine As.nameC (by walk_at "zm") (by walk_at "zs") ?_
      refine Ex.cons <| Ex1.asg <| Ev.listM <| EvL.nil ⟨by simp, fun R => As.name (by walk_at "zm") (by walk_at "zs") ?_⟩
      refine Ex.cons <| Ex1.for <| Ev.call (by walk_at "zm") <| EvL.cons <| Ev.int <| EvL.nil <| CallP.range1 ⟨[], [], _, _, ItSrc.rng (n := 4) (by decide) (by decide), fun _ h => h, .inr rfl, List.nodup_nil, ?_⟩
      refine ForT.inv (ShJ W S R k w) _ 0 ?_ ?_ ?_
      · rintro j q ρ _ hq ⟨rfl, hs'⟩
        obtain ⟨hj, rfl⟩ := rints_get hq
        rw [Nat.zero_add] at *
        obtain ⟨v, hvj⟩ : ∃ v, W[j]? = some v := ⟨W[j], List.getElem?_eq_getElem (by walk_at "zo")⟩
        have hv := List.mem_of_getElem? hvj
        have vlo := hW.lo v hv
        have vhi := hW.hi v hv
        have vdh := hW.dh v hv
        have hv0 : v ≠ [] := by rintro rfl; simp at vlo
        refine Con.rho2 ["range", "len", "min", "max", "words", "heads", "shares", "word", "row"] hs' ?_
        rw [show (0 + (j : Int) * 1) = (j : Int) by walk_at "zo"]
        refine As.nameC (by walk_at "zm") (by walk_at "zs") ?_
        have hix : ∀ m, pyIx (j : Int) m = j := fun m => by unfold pyIx; rw [if_neg (by walk_at "zo")]; walk_at "zo"
        refine Ex.cons <| Ex1.asgComp (hy := ?hy) (hsw := ?hsw) (hsc := ?hsc) <| Ev.call (by walk_at "zm") <| EvL.cons <| Ev.int <| EvL.cons <| Ev.call (by walk_at "zm") <| EvL.cons <| Ev.call (by walk_at "zm") <| EvL.cons <| Ev.name (by walk_at "zm") <| EvL.nil <| CallP.lenS (by walk_at "zo") <| EvL.cons <| Ev.call (by walk_at "zm") <| EvL.cons <| Ev.sub <| Ev.name (by walk_at "zm") <| Ev.name (by walk_at "zm") <| Op2.itemL (p := .str v) (by walk_at "zo") (by rw [List.length_map]; walk_at "zo") (by rw [List.length_map]; walk_at "zo") (by rw [hix, List.getElem?_map, hvj]; rfl) <| EvL.nil <| CallP.lenS (by walk_at "zo") <| EvL.nil <| CallP.min2 <| EvL.nil <| CallP.range2 ⟨[], [], [(R, .list (((W.take j).map fun v => (ovl w v : Int)).map .int)), (S, .list ((W.take k).map (rowW W)))], _, [("k", .local)], [], [("heads", .lst (W.map hdP)), ("j", .int j), ("word", .str w)], [("_law_takes", .ref aG__law_takes)], ItSrc.rng (n := min w.length v.length - 1) (small1 (by walk_at "zo") (by walk_at "zo") (by walk_at "zo") (by walk_at "zo")) (rangeSizeN (by walk_at "zo")), fun _ h => h, .inr rfl, List.nodup_nil, ?hck, ?hrc, ?hrg, ?_⟩
        case hy => walk_at "zm"
        case hsw => kernel_rfl
        case hsc => kernel_rfl
        case hck => kernel_rfl
        case hrc => walk_at "zb"
        case hrg => exact hg3
        intro env2 κ2
        refine compItems.fa (compInner_mono _) [("heads", .lst (W.map hdP)), ("j", .int j), ("word", .str w), ("_law_takes", .ref aG__law_takes)] (fun i : Nat => .int (1 + i * 1)) (fun i => itIf (ovOk w v (i + 1)) (.int (1 + i * 1))) 1000 (List.range (min w.length v.length - 1)) [] _ ?_ (by walk_at "zb") ?_ ?_
        · intro i hi acc2 ρ2 hacc2 hs2
          have hi := List.mem_range.mp hi
          refine Con.rho2 ["heads", "j", "word", "_law_takes"] hs2 ?_
          refine As.name (by walk_at "zm") (by walk_at "zs") ?_
          have hvt : (v.take (i + 1)).length = i + 1 := by rw [List.length_take]; walk_at "zo"
          refine Ts.plain <| Ev.call (by walk_at "zm") <| EvL.cons <| Ev.sub <| Ev.sub <| Ev.name (by walk_at "zm") <| Ev.name (by walk_at "zm") <| Op2.itemL (p := hdP v) (by walk_at "zo") (by rw [List.length_map]; walk_at "zo") (by rw [List.length_map]; walk_at "zo") (by rw [hix, List.getElem?_map, hvj]; rfl) <| Ev.binop <| Ev.name (by walk_at "zm") <| Ev.int <| Op2.sub <| Op2.itemL (p := .lst ((v.take (i + 1)).map sgP)) (by rw [List.length_map, List.length_range]; walk_at "zo") (by rw [List.length_map, List.length_range]; walk_at "zo") (by rw [List.length_map, List.length_range]; walk_at "zo") ?_ <| EvL.cons <| Ev.name (by walk_at "zm") <| EvL.nil <| CallP.of (φ := [(R, .list (((W.take j).map fun v => (ovl w v : Int)).map .int)), (S, .list ((W.take k).map (rowW W)))]) ((takes_spec (n := n) hf2 hg2 (ks := v.take (i + 1)) (w := w) (by walk_at "zo") (by walk_at "zo") (fun c hc => dh_lt (hdh c hc)) (fun c hc => vdh c (List.mem_of_mem_take hc))).more (by show n + 1 ≤ n + 3; walk_at "zo")) (by simp) (.inr (by simp)) ?_
          · unfold pyIx
            rw [if_neg (by walk_at "zo"), show (1 + (i : Int) * 1 - 1).toNat = i by walk_at "zo", List.getElem?_map, List.getElem?_range (by walk_at "zo")]; rfl
          rintro r σ' ⟨rfl, rfl⟩
          rw [hvt]
          refine TrueOf.bool ?_
          show if (ovOk w v (i + 1)) = true then _ else _
          refine ite_b (fun h1 => ?_) (fun h1 => ?_)
          · show compInner _ _ _ _ _ _ _
            exact Ev.name (by walk_at "zm") ⟨by walk_at "zo", by rw [h1]; rfl, rfl, by walk_at "zb"⟩
          · exact ⟨by rw [h1]; rfl, rfl, by walk_at "zb"⟩
        · rw [flat_if, List.nil_append]; exact Nat.le_trans (if_len _ _ _) (by rw [List.length_range]; walk_at "zo")
        intro ρ2 _
        rw [flat_if, List.nil_append]
        have efit : ((List.range (min w.length v.length - 1)).filter fun i => ovOk w v (i + 1)).map (fun i : Nat => PV.int (1 + i * 1)) = (fitsL w v).map .int := by unfold fitsL; rw [List.map_map]; rfl
        have hfl : (fitsL w v).length ≤ 5 := by unfold fitsL; rw [List.length_map]; exact Nat.le_trans (List.length_filter_le _ _) (by rw [List.length_range]; walk_at "zo")
        rw [efit]
        intro _
        refine As.name (by walk_at "zm") (by walk_at "zs") ?_
        show Ex _ _ _ [(R, .list (((W.take j).map fun v => (ovl w v : Int)).map .int)), (S, .list ((W.take k).map (rowW W)))] _
        obtain ⟨m1, m2⟩ := fits_max (w := w) (v := v) hw0 hv0
        refine Ex.cons <| Ex1.expr <| Ev.meth <| Ev.name (by walk_at "zm") ⟨_, _, MethP.led (by walk_at "zm") F.slot_list_append F.type_list_append, EvL.cons <| Ev.call (by walk_at "zm") <| EvL.cons <| Ev.binop <| Ev.list <| EvL.cons <| Ev.int <| EvL.nil ⟨by simp, Ev.name (by walk_at "zm") <| CallP.addL (by rw [List.length_map]; show 1 + _ ≤ _; walk_at "zo") ?_⟩⟩
        rw [show [PV.int 0] ++ (fitsL w v).map .int = ([(0 : Int)] ++ fitsL w v).map .int by rw [List.map_append]; rfl]
        refine EvL.nil <| CallP.maxL m1 m2 <| EvL.nil <| CallP.append .head (by rw [List.length_map, List.length_map, List.length_take]; walk_at "zo") ⟨rfl, ?_⟩
        have htk : ((W.take j).map fun v => (ovl w v : Int)).map PV.int ++ [.int (ovl w v)] = ((W.take (j + 1)).map fun v => (ovl w v : Int)).map .int := by rw [List.take_add_one, hvj, List.map_append, List.map_append]; rfl
        rw [htk]
        exact Ex.nil ⟨rfl, by walk_at "zb"⟩
      · exact ⟨rfl, by walk_at "zb"⟩
      rintro ρ _ ⟨rfl, hs3⟩
      rw [rints_len, Nat.zero_add, List.take_of_length_le (by walk_at "zo")]
      refine Tr.rho2 ["range", "len", "min", "max", "words", "heads", "shares", "row"] (ρ' := [("range", .con (.type "range")), ("len", .con (.builtin "len")), ("min", .con (.builtin "min")), ("max", .con (.builtin "max")), ("words", .lst (W.map .str)), ("heads", .lst (W.map hdP)), ("shares", .ref S), ("row", .ref R)]) (hs3.in (by walk_at "zb")) ?_
      show Ex _ _ _ [(R, .list ((W.map fun v => (ovl w v : Int)).map .int)), (S, .list ((W.take k).map (rowW W)))] _
      refine Tr.freeze (x := "row") (by walk_at "zm") (by walk_at "zs") ?_
      refine Ex.cons <| Ex1.expr <| Ev.meth <| Ev.name (by walk_at "zm") ⟨_, _, MethP.led (by walk_at "zm") F.slot_list_append F.type_list_append, EvL.cons <| Ev.name (by walk_at "zm") <| EvL.nil <| CallP.append .head (by rw [List.length_map, List.length_take]; walk_at "zo") ⟨rfl, ?_⟩⟩
      have htk : (W.take k).map (rowW W) ++ [.lst ((W.map fun v => (ovl w v : Int)).map .int)] = (W.take (k + 1)).map (rowW W) := by rw [List.take_add_one, hwk, List.map_append]; rfl
      rw [htk]
      exact Ex.nil ⟨rfl, by walk_at "zb"⟩
    · exact ⟨rfl, by walk_at "zb"⟩
    rintro ρ _ ⟨rfl, hs'⟩
    rw [List.length_map, Nat.zero_add, List.take_length]
    refine Tr.rho2 ["shares"] (ρ' := [("shares", .ref S)]) (hs'.in (by walk_at "zb")) ?_
    exact Ex.cons <| Ex1.ret <| Ev.name (by walk_at "zm") ⟨S, rfl, rfl⟩
end Mine.Tactic
end
local macro_rules | `(tactic| walk_at "zl") => `(tactic| repeat (first | exact List.forall_mem_nil _ | refine List.forall_mem_cons.mpr ⟨by walk_at "zm", ?_⟩))
local macro_rules | `(tactic| walk_at "ze") => `(tactic| repeat (first | exact List.not_mem_nil | refine List.not_mem_cons_of_ne_of_not_mem (by first | assumption | exact Ne.symm (by assumption)) ?_))
local macro_rules | `(tactic| walk_at "zn") => `(tactic| repeat (first | exact List.nodup_nil | refine List.nodup_cons.mpr ⟨by walk_at "ze", ?_⟩))
section
open PySem PySem.W PyProof.Rows PySem.Calls
set_option Elab.async false
set_option maxRecDepth 100000
namespace Mine.Tactic

noncomputable def isL4 (k : List Nat) : Prop := ∃ j, j < 4 ∧ (k = [112 + j] ∨ k = [80 + j])
noncomputable def isW4 (k : List Nat) : Prop := ∃ j, j < 4 ∧ k = [112 + j]
noncomputable def lnm (q : Nat × Nat) : List Nat := [if q.2 % 2 = 1 then 80 + q.1 else 112 + q.1]
noncomputable def hdrL (q : Nat × Nat) : List Nat × PV := (lnm q, .strB [112 + q.2])
noncomputable def sW (W : List (List Nat)) (q : Nat × Nat) : Nat := ovl (W.getD q.1 []) (W.getD q.2 [])
noncomputable def itL (W : List (List Nat)) (q : Nat × Nat) : PV := item3 (-(sW W q : Int)) q.1 q.2
noncomputable def all16 : Prs2 := (List.range 4).flatMap fun i => (List.range 4).map fun j => (i, j)
theorem mem16 {q : Nat × Nat} : q ∈ all16 ↔ In4 q := by
  unfold all16 In4
  rw [List.mem_flatMap]
  constructor
  · rintro ⟨i, hi, h⟩
    obtain ⟨j, hj, rfl⟩ := List.mem_map.mp h
    exact ⟨List.mem_range.mp hi, List.mem_range.mp hj⟩
  · rintro ⟨h1, h2⟩
    exact ⟨q.1, List.mem_range.mpr h1, List.mem_map.mpr ⟨q.2, List.mem_range.mpr h2, rfl⟩⟩
theorem itL_T (W : List (List Nat)) (q : Nat × Nat) : isT3 (itL W q) := ⟨_, _, _, rfl⟩
theorem itL_inj (W : List (List Nat)) (a b : Nat × Nat) (h : itL W a = itL W b) : a = b := by
  unfold itL item3 at h
  injection h with h
  injection h with _ h
  injection h with h1 h
  injection h with h2 _
  injection h1 with h1
  injection h2 with h2
  exact Prod.ext (Int.ofNat.inj h1) (Int.ofNat.inj h2)
theorem itL_le {W : List (List Nat)} {a b : Nat × Nat} (h : lt3 (itL W b) (itL W a) = false) : sW W b ≤ sW W a := by
  have := item3_le h
  walk_at "zo"
theorem low_lnm {q : Nat × Nat} (h : q.1 < 4) : lowL (lnm q) = [112 + q.1] := by
  unfold lnm lowL lowC
  split
  · show [if 65 ≤ 80 + q.1 ∧ 80 + q.1 ≤ 90 then 80 + q.1 + 32 else 80 + q.1] = _
    rw [if_pos (by walk_at "zo")]; congr 1; walk_at "zo"
  · show [if 65 ≤ 112 + q.1 ∧ 112 + q.1 ≤ 90 then 112 + q.1 + 32 else 112 + q.1] = _
    rw [if_neg (by walk_at "zo")]
theorem lnm_let {q : Nat × Nat} (h : q.1 < 4) : isL4 (lnm q) := by
  unfold lnm
  split
  · exact ⟨q.1, h, .inr rfl⟩
  · exact ⟨q.1, h, .inl rfl⟩
theorem sgn_beq (a b : Nat) : ([112 + a] == [112 + b]) = (a == b) := by rw [Bool.eq_iff_iff, beq_iff_eq, beq_iff_eq]; simp
theorem find_row {q : Nat × Nat} (hq : q.1 < 4) : ∀ {L : Prs2}, (∀ r ∈ L, In4 r) → (L.map hdrL).find? (fun h => lowL h.1 == lowL (lnm q)) = (L.find? fun r => r.1 == q.1).map hdrL
  | [], _ => rfl
  | r :: L, h => by
    have ih := find_row hq (L := L) fun x hx => h x (.tail _ hx)
    have e : (lowL (hdrL r).1 == lowL (lnm q)) = (r.1 == q.1) := by
      show (lowL (lnm r) == _) = _
      rw [low_lnm (h r (.head _)).1, low_lnm hq, sgn_beq]
    rw [List.map_cons, List.find?_cons, List.find?_cons, e]
    cases r.1 == q.1 with
    | true => rfl
    | false => exact ih
theorem part_le4 {L : Prs2} (h4 : ∀ q ∈ L, In4 q) (hp : PartM L) : L.length ≤ 4 := by
  have := hp.1.length_le_of_subset (l₂ := List.range 4) fun x hx => by
    obtain ⟨q, hq, rfl⟩ := List.mem_map.mp hx
    exact List.mem_range.mpr (h4 q hq).1
  rwa [List.length_map, List.length_range] at this
theorem full4 {L : Prs2} (h4 : ∀ q ∈ L, In4 q) (hp : PartM L) (hf : ∀ q, In4 q → ¬ FreeP L q) : L.length = 4 := by
  refine Nat.le_antisymm (part_le4 h4 hp) (Nat.le_of_not_lt fun hlt => ?_)
  have miss : ∀ {l : List Nat}, l.length < 4 → ∃ i, i < 4 ∧ i ∉ l := fun {l} hl => by
    refine Classical.byContradiction fun hc => ?_
    have hsub : ∀ x ∈ List.range 4, x ∈ l := fun x hx => Classical.byContradiction fun hn => hc ⟨x, List.mem_range.mp hx, hn⟩
    have := (List.nodup_range (n := 4)).length_le_of_subset hsub
    rw [List.length_range] at this; walk_at "zo"
  obtain ⟨i, hi, h1⟩ := miss (l := L.map (·.1)) (by rw [List.length_map]; exact hlt)
  obtain ⟨j, hj, h2⟩ := miss (l := L.map (·.2)) (by rw [List.length_map]; exact hlt)
  exact hf (i, j) ⟨hi, hj⟩ ⟨h1, h2⟩
theorem freeP_of {L : Prs2} {p q : Nat × Nat} (h : FreeP (L ++ [p]) q) : FreeP L q ∧ q ≠ p := by
  unfold FreeP at h ⊢
  rw [List.map_append, List.map_append, List.mem_append, List.mem_append] at h
  exact ⟨⟨fun e => h.1 (.inl e), fun e => h.2 (.inl e)⟩, fun e => h.1 (.inr (by rw [e]; exact .head _))⟩
theorem pq_at : ∀ j, j < 4 → (cs "pqrs")[j]? = some (112 + j) := by decide
theorem pq8_at : ∀ i, i < 4 → ∀ j, j < 4 → (cs "pqrsPQRS")[i + j % 2 * 4]? = some (if j % 2 = 1 then 80 + i else 112 + i) := by decide
structure Lnk (W : List (List Nat)) (hp : List PV) (L : Prs2) : Prop where
  hH : HP lt3 0 hp
  G : GrF (sW W) [] L
  R : ∃ R : Prs2, hp.Perm (R.map (itL W)) ∧ (∀ q ∈ R, In4 q) ∧ ∀ q, In4 q → FreeP L q → q ∈ R
theorem Lnk.pop {W : List (List Nat)} {hp : List PV} {L : Prs2} (h : Lnk W hp L) (h0 : 0 < hp.length) : ∃ q, In4 q ∧ (heappopP lt3 hp).1 = itL W q ∧ (heappopP lt3 hp).2.length + 1 = hp.length ∧ (FreeP L q → Lnk W (heappopP lt3 hp).2 (L ++ [q])) ∧ (¬ FreeP L q → Lnk W (heappopP lt3 hp).2 L) := by
  obtain ⟨R, r1, r2, r3⟩ := h.R
  obtain ⟨q, hq, e, p1, p2, p3, p4⟩ := pop3 (itL_T W) (itL_inj W) r1 h.hH h0
  have hin := r2 q hq
  have her : ∀ r ∈ R, r ≠ q → r ∈ R.erase q := fun r hr hne => (List.mem_erase_of_ne hne).mpr hr
  refine ⟨q, hin, e, p3, fun hf => ⟨p2, ?_, R.erase q, p1, fun r hr => r2 r (List.mem_of_mem_erase hr), fun r hr hfr => ?_⟩, fun hf => ⟨p2, h.G, R.erase q, p1, fun r hr => r2 r (List.mem_of_mem_erase hr), fun r hr hfr => her r (r3 r hr hfr) fun e => hf (e ▸ hfr)⟩⟩
  · refine h.G.snoc hin hf fun r hr hfr => ?_
    rw [List.nil_append] at hfr
    by_cases e : r = q
    · rw [e]; exact Nat.le_refl _
    · exact itL_le (p4 r (her r (r3 r hr hfr) e))
  · obtain ⟨h1, h2⟩ := freeP_of hfr
    exact her r (r3 r hr h1) h2
noncomputable abbrev nsLK : Names := [("shares", .cell), ("links", .local), ("gains", .local), ("heap", .local), ("less", .local), ("i", .local), ("j", .local)]
noncomputable abbrev glLK : Rho := [("Headers", .ref aG_Headers), ("range", .con (.type "range")), ("heapify", .ref aG_heapify), ("heappop", .ref aG_heappop)]
noncomputable def LkI (W : List (List Nat)) (A D H : Addr) : Nat → Rho → Led → Prop := fun k ρ σ => ∃ (hp : List PV) (L : Prs2), hp.length = k ∧ k ≤ 16 ∧ Lnk W hp L ∧ σ = [(A, .list ((L.map fun q => (sW W q : Int)).map .int)), (D, .list ((L.map hdrL).map hdrP)), (H, .list hp)] ∧ Sub [("heappop", .ref aG_heappop), ("links", hdO D), ("gains", .ref A), ("heap", .ref H)] ρ
set_option maxHeartbeats 16000000 in
theorem linked_spec {C : Cx} {p : Params} {n : Nat} {cN cV : Array Nat} (K : HdrK C p cN cV) (O : NamesOk cN cV isL4 isW4 lowL) (HK : HeapK C p) (hd : C.K.lookup aD___init__ = some (tupO [.none] 0)) (hd2 : C.K.lookup aD_get = some (tupO [.none] 0)) (hf : FnAt C aG__law_linked (fdOf p aG__law_linked)) (hg : Sub glLK C.gl) {W : List (List Nat)} (hW : WdsOk W) :
    FnSpec C (n + 4) (.ref aG__law_linked) [shP W] [] [] (fun r σ' => ∃ (A D : Addr) (L : Prs2), r = .tup [hdO D, .ref A] ∧ σ' = [(A, .list ((L.map fun q => (sW W q : Int)).map .int)), (D, .list ((L.map hdrL).map hdrP))] ∧ GrF (sW W) [] L ∧ L.length = 4) := by
  refine FnSpec.of (body := ?bd) ["shares"] [shP W] nsLK ["shares"] glLK (sc := ?sc) hf ?hb ?hsc ?hgl ?hbi ?hcl ?hok hg rfl ?_ ?_
  case hb => with_unfolding_all rfl
  case hsc => with_unfolding_all rfl
  case hgl => with_unfolding_all rfl
  case hbi => with_unfolding_all rfl
  case hcl => with_unfolding_all rfl
  case hok => kernel_rfl
  · intro im s vs kvs hk hv hkw
    obtain ⟨v, rfl, h1⟩ := one_v hv
    have : kvs = [] := by have := hkw.1; simpa using this
    subst this
    have e : bindArgs (fdOf p aG__law_linked) ⟨[v], []⟩ = pure ((["shares"].map Str.ofString).zip [v]) := by kernel_rfl
    refine ⟨[v], hv, ?_⟩
    intro M A E Q h
    rw [e]
    exact wpAny_pure h
  · intro env κ
    show Ex _ _ [("Headers", .ref aG_Headers), ("range", .con (.type "range")), ("heapify", .ref aG_heapify), ("heappop", .ref aG_heappop), ("shares", shP W)] _ _
    have h4 := hW.len
    refine Ex.cons <| Ex1.asgSwap (x := "links") (y := "gains") (by walk_at "zm") (by walk_at "zm") (ok := by kernel_rfl) <| Ev.tuple <| EvL.cons <| Ev.call (by walk_at "zm") <| EvL.nil <| CallP.of (φ := []) ((new_spec (n := n) K hd).more (by show n + 2 ≤ n + 3; walk_at "zo")) (fun _ h => h) (.inr rfl) ?_
    rintro r σ' ⟨D, rfl, rfl⟩
    refine EvL.cons <| Ev.listM <| EvL.nil ⟨by simp, fun A => EvL.nil ⟨by simp, _, _, _, _, rfl, by walk_at "zs", by walk_at "zs", ?_⟩⟩
    show Ex _ _ _ [(A, .list []), (D, .list [])] _
    refine Ex.cons <| Ex1.asgCompM (hy := ?hy) (hsw := ?hsw) (hsc := ?hsc) <| Ev.call (by walk_at "zm") <| EvL.cons <| Ev.int <| EvL.nil <| CallP.range1 ⟨[], [], [(A, .list []), (D, .list [])], _, [("i", .local), ("j", .local)], [], [("shares", shP W)], [("range", .con (.type "range"))], ItSrc.rng (n := 4) (by decide) (by decide), fun _ h => h, .inr rfl, List.nodup_nil, ?hck, ?hrc, ?hrg, ?_⟩
    case hy => walk_at "zm"
    case hsw => kernel_rfl
    case hsc => kernel_rfl
    case hck => kernel_rfl
    case hrc => walk_at "zb"
    case hrg => exact hg.in (by walk_at "zb")
    intro env' κ'
    refine compItems.fa (compInner_mono _) [("shares", shP W), ("range", .con (.type "range"))] (fun i : Nat => .int (0 + i * 1)) (fun i => ((List.range 4).map fun j => (i, j)).map (itL W)) 1000 (List.range 4) [] _ ?_ (by walk_at "zb") ?_ ?_
    · intro i hi acc ρ hacc hs'
      have hi := List.mem_range.mp hi
      refine Con.rho2 ["shares", "range"] hs' ?_
      rw [show (0 + (i : Int) * 1) = (i : Int) by walk_at "zo"]
      refine As.name (by walk_at "zm") (by walk_at "zs") ?_
      show compInner _ _ _ _ _ _ _
      refine Ev.call (by walk_at "zm") <| EvL.cons <| Ev.int <| EvL.nil <| CallP.range1 ⟨_, ItSrc.rng (n := 4) (by decide) (by decide), ?_⟩
      rw [List.map_map]
      refine compItems.fa (compInner_mono _) [("shares", shP W), ("range", .con (.type "range")), ("i", .int i)] (fun j : Nat => .int (0 + j * 1)) (fun j => [itL W (i, j)]) 1100 (List.range 4) acc _ ?_ (by walk_at "zb") ?_ ?_
      · intro j hj acc2 ρ2 hacc2 hs2
        have hj := List.mem_range.mp hj
        refine Con.rho2 ["shares", "range", "i"] hs2 ?_
        rw [show (0 + (j : Int) * 1) = (j : Int) by walk_at "zo"]
        refine As.name (by walk_at "zm") (by walk_at "zs") ?_
        show compInner _ _ _ _ _ _ _
        have hix : ∀ (j m : Nat), pyIx (j : Int) m = j := fun j m => by unfold pyIx; rw [if_neg (by walk_at "zo")]; walk_at "zo"
        obtain ⟨w, hw⟩ : ∃ w, W[i]? = some w := ⟨W[i], List.getElem?_eq_getElem (by walk_at "zo")⟩
        obtain ⟨v, hv⟩ : ∃ v, W[j]? = some v := ⟨W[j], List.getElem?_eq_getElem (by walk_at "zo")⟩
        have hs : sW W (i, j) = ovl w v := by
          unfold sW
          show ovl (W.getD i []) (W.getD j []) = _
          rw [List.getD_eq_getElem?_getD, List.getD_eq_getElem?_getD, hw, hv]; rfl
        refine Ev.tuple <| EvL.cons <| Ev.unary <| Ev.sub <| Ev.sub <| Ev.name (by walk_at "zm") <| Ev.name (by walk_at "zm") <| Op2.itemL (p := rowW W w) (by walk_at "zo") (by rw [List.length_map]; walk_at "zo") (by rw [List.length_map]; walk_at "zo") (by rw [hix, List.getElem?_map, hw]; rfl) <| Ev.name (by walk_at "zm") <| Op2.itemL (p := .int (ovl w v)) (by walk_at "zo") (by rw [List.length_map, List.length_map]; walk_at "zo") (by rw [List.length_map, List.length_map]; walk_at "zo") (by rw [hix, List.getElem?_map, List.getElem?_map, hv]; rfl) <| Op1.neg <| EvL.cons <| Ev.name (by walk_at "zm") <| EvL.cons <| Ev.name (by walk_at "zm") <| EvL.nil ⟨by simp, by walk_at "zo", by unfold itL; rw [hs]; rfl, rfl, by walk_at "zb"⟩
      · rw [flat_one, List.length_append, List.length_map, List.length_range]; walk_at "zo"
      · intro ρ2 hs2
        rw [flat_one]
        exact ⟨rfl, rfl, hs2.in (by walk_at "zb")⟩
    · rw [flat_map, List.nil_append, List.length_map]; decide
    intro ρ2 _
    rw [flat_map]
    intro H
    show As _ _ _ _ ((H, .list (all16.map (itL W))) :: _) _
    refine As.name (by walk_at "zm") (by walk_at "zs") ?_
    show Ex _ _ _ [(H, .list (all16.map (itL W))), (A, .list []), (D, .list [])] _
    have h16 : (all16.map (itL W)).length = 16 := rfl
    have hT : ∀ y ∈ all16.map (itL W), isT3 y := fun y hy => by
      obtain ⟨x, _, rfl⟩ := List.mem_map.mp hy
      exact itL_T W x
    refine Tr.nd fun hnd => ?_
    have hnd' : (([(A, LO.list []), (D, .list [])] ++ [(H, LO.list (all16.map (itL W)))]).map (·.1)).Nodup := by
      obtain ⟨a1, a2, a3⟩ := nd3 hnd
      walk_at "zn"
    refine Ex.cons <| Ex1.expr <| Ev.call (by walk_at "zm") <| EvL.cons <| Ev.name (by walk_at "zm") <| EvL.nil <| CallP.of (φ := [(A, .list []), (D, .list [])]) (heapify_spec (n := n) (lt := lt3) HK.hf HK.su HK.sd HK.gl lt3_ok lt3_ok (l := all16.map (itL W)) (by walk_at "zo") hT) (by walk_at "zl") (.inl hnd') ?_
    rintro r σ' ⟨rfl, rfl⟩
    obtain ⟨hp1, hp2⟩ := heapify_half lt3_ord hT
    have hhl : (heapifyP lt3 ((all16.map (itL W)).length / 2) (all16.map (itL W))).length = 16 := by rw [hp2.length_eq, h16]
    refine ⟨rfl, ?_⟩
    generalize heapifyP lt3 ((all16.map (itL W)).length / 2) (all16.map (itL W)) = hp at hp1 hp2 hhl ⊢
    refine Ex.cons <| Ex1.while (LkI W A D H) ?_ 16 ?_
    · rintro k ρ σ ⟨hp, L, hk, hk16, hL, rfl, hs⟩
      refine Tr.rho2 ["heappop", "links", "gains", "heap"] hs ?_
      refine Ts.compare <| Ev.name (by walk_at "zm") <| Ev.list <| EvL.nil ⟨by simp, Op2.neEmpty (by walk_at "zm") <| TrueOf.bool ?_⟩
      have hL4 := hL.G.in4
      have hLp := hL.G.part (P := []) ⟨.nil, .nil⟩
      rw [List.nil_append] at hLp
      have hLl := part_le4 hL4 hLp
      by_cases h0 : hp = []
      · subst h0
        show Ex _ _ _ _ _
        obtain ⟨R, r1, _, r3⟩ := hL.R
        have hR : R = [] := by have := r1.length_eq; rw [List.length_map] at this; exact List.length_eq_zero_iff.mp this.symm
        subst hR
        refine Tr.led (σ' := [(A, .list ((L.map fun q => (sW W q : Int)).map .int)), (D, .list ((L.map hdrL).map hdrP))]) (by walk_at "zl") (fun h => by obtain ⟨a1, a2, a3⟩ := nd3 h; walk_at "zn") ?_
        exact Ex.cons <| Ex1.ret <| Ev.tuple <| EvL.cons <| Ev.name (by walk_at "zm") <| EvL.cons <| Ev.name (by walk_at "zm") <| EvL.nil ⟨by simp, A, D, L, rfl, rfl, hL.G, full4 hL4 hLp fun q hq hfr => nomatch r3 q hq hfr⟩
      · rw [show hp.isEmpty = false by simpa using h0]
        show Ex _ _ _ _ _
        have hpos : 0 < hp.length := List.length_pos_iff.mpr h0
        obtain ⟨q, hq4, e, hlen, hfree, hbusy⟩ := hL.pop hpos
        have hTp : ∀ y ∈ hp, isT3 y := fun y hy => by
          obtain ⟨R, r1, _, _⟩ := hL.R
          obtain ⟨x, _, rfl⟩ := List.mem_map.mp (r1.mem_iff.mp hy)
          exact itL_T W x
        refine Ex.cons <| Ex1.asgTup (hw := fun _ _ _ _ => by rfl) <| Ev.call (by walk_at "zm") <| EvL.cons <| Ev.name (by walk_at "zm") <| EvL.nil <| CallP.of (φ := [(A, .list ((L.map fun q => (sW W q : Int)).map .int)), (D, .list ((L.map hdrL).map hdrP))]) (heappop_spec (n := n) (lt := lt3) HK.hp HK.su HK.sd HK.gl lt3_ok lt3_ok hpos (by walk_at "zo") hTp) (fun _ h => h) (.inr rfl) ?_
        rintro r σ' ⟨rfl, rfl⟩
        rw [e]
        refine As.tup (ps := [.int (-(sW W q : Int)), .int q.1, .int q.2]) (As.name (by walk_at "zm") (by walk_at "zs") <| As.name (by walk_at "zm") (by walk_at "zs") <| As.name (by walk_at "zm") (by walk_at "zs") ?_) rfl rfl
        generalize (heappopP lt3 hp).2 = hp' at hlen hfree hbusy ⊢
        show Ex _ _ _ [(A, .list ((L.map fun q => (sW W q : Int)).map .int)), (D, .list ((L.map hdrL).map hdrP)), (H, .list hp')] _
        have hq1 : q.1 < 4 := hq4.1
        have hq2 : q.2 < 4 := hq4.2
        have hpq : (cs "pqrs")[pyIx (q.2 : Int) (cs "pqrs").length]? = some (112 + q.2) := by
          have : pyIx (q.2 : Int) (cs "pqrs").length = q.2 := by unfold pyIx; rw [if_neg (by walk_at "zo")]; walk_at "zo"
          rw [this]; exact pq_at q.2 hq2
        have h4l : (cs "pqrs").length = 4 := by decide
        have h8l : (cs "pqrsPQRS").length = 8 := by decide
        have hml : (L.map hdrL).length ≤ 1000 := by rw [List.length_map]; walk_at "zo"
        have hls : LeS ((L.map hdrL).map (·.2)) (L.map fun q => .str [112 + q.2]) := by
          rw [List.map_map]; exact LeS.map (fun q => Le.strB) L
        refine Tr.nd fun hnd3 => ?_
        have hndV : (([(A, LO.list ((L.map fun q => (sW W q : Int)).map .int)), (H, .list hp')] ++ [(D, LO.list ((L.map hdrL).map hdrP))]).map (·.1)).Nodup := by
          obtain ⟨a1, a2, a3⟩ := nd3 hnd3
          walk_at "zn"
        have back : ∀ (l m : List PV), (([(A, LO.list l), (H, .list hp'), (D, .list m)] : Led).map (·.1)).Nodup → (([(A, LO.list l), (D, .list m), (H, .list hp')] : Led).map (·.1)).Nodup := fun l m h => by obtain ⟨a1, a2, a3⟩ := nd3 h; walk_at "zn"
        refine Ex.cons <| Ex1.if <| Ts.compare <| Ev.sub <| Ev.str <| Ev.name (by walk_at "zm") <| Op2.itemS (c := 112 + q.2) (by walk_at "zo") (by walk_at "zo") (by walk_at "zo") hpq <| Ev.meth <| Ev.name (by walk_at "zm") ⟨_, _, MethP.obj K.cls K.fval K.tval (by decide), EvL.nil <| CallP.of (φ := [(A, .list ((L.map fun q => (sW W q : Int)).map .int)), (H, .list hp')]) ((values_spec (n := n) K (L := D) (hs := L.map hdrL) hml).more (by show n + 1 ≤ n + 3; walk_at "zo")) (by walk_at "zl") (.inl hndV) ?_⟩
        rintro r σ' ⟨rfl, rfl⟩
        refine Op2.weak .refl (Le.lst hls) <| Op2.notInL (fun p hp => by obtain ⟨r, _, rfl⟩ := List.mem_map.mp hp; rfl) <| TrueOf.bool ?_
        have hhas : (!hasP (L.map fun q => PV.str [112 + q.2]) (.str [112 + q.2])) = !(L.map (·.2)).contains q.2 := by
          congr 1
          unfold hasP
          rw [List.any_map, List.contains_eq_any_beq, List.any_map]
          congr 1
          funext r
          show ([112 + r.2] == [112 + q.2]) = (q.2 == r.2)
          rw [sgn_beq, Bool.eq_iff_iff, beq_iff_eq, beq_iff_eq]; exact eq_comm
        rw [hhas]
        by_cases hc : q.2 ∈ L.map (·.2)
        · rw [List.contains_iff_mem.mpr hc]
          show Ex _ _ _ [(A, .list ((L.map fun q => (sW W q : Int)).map .int)), (H, .list hp'), (D, .list ((L.map hdrL).map hdrP))] _
          refine Ex.nil ?_
          refine Tr.led (σ' := [(A, .list ((L.map fun q => (sW W q : Int)).map .int)), (D, .list ((L.map hdrL).map hdrP)), (H, .list hp')]) (by walk_at "zl") (back _ _) ?_
          exact Ex.nil ⟨hp'.length, by walk_at "zo", hp', L, rfl, by walk_at "zo", hbusy fun h => h.2 hc, rfl, by walk_at "zb"⟩
        rw [show (L.map (·.2)).contains q.2 = false by rw [← Bool.not_eq_true, List.contains_iff_mem]; exact hc]
        show Ex _ _ _ [(A, .list ((L.map fun q => (sW W q : Int)).map .int)), (H, .list hp'), (D, .list ((L.map hdrL).map hdrP))] _
        have hix8 : (cs "pqrsPQRS")[pyIx ((q.1 : Int) + (q.2 : Int) % 2 * 4) (cs "pqrsPQRS").length]? = some (if q.2 % 2 = 1 then 80 + q.1 else 112 + q.1) := by
          have : pyIx ((q.1 : Int) + (q.2 : Int) % 2 * 4) (cs "pqrsPQRS").length = q.1 + q.2 % 2 * 4 := by unfold pyIx; rw [if_neg (by walk_at "zo")]; walk_at "zo"
          rw [this]; exact pq8_at q.1 hq1 q.2 hq2
        refine Ex.cons <| Ex1.if <| Ts.compare <| Ev.meth <| Ev.name (by walk_at "zm") ⟨_, _, MethP.obj K.cls K.fset K.tset (by decide), EvL.cons <| Ev.sub <| Ev.str <| Ev.binop <| Ev.name (by walk_at "zm") <| Ev.binop <| Ev.binop <| Ev.name (by walk_at "zm") <| Ev.int <| Op2.fmod (by decide) <| Ev.int <| Op2.mul <| Op2.add <| Op2.itemS (c := if q.2 % 2 = 1 then 80 + q.1 else 112 + q.1) (by walk_at "zo") (by walk_at "zo") (by walk_at "zo") hix8 <| EvL.cons <| Ev.sub <| Ev.strL <| Ev.name (by walk_at "zm") <| Op2.itemBL (c := 112 + q.2) (by walk_at "zo") (by walk_at "zo") (by walk_at "zo") hpq <| EvL.nil <| CallP.of (φ := [(A, .list ((L.map fun q => (sW W q : Int)).map .int)), (H, .list hp')]) (set_spec (n := n) K O hd2 (L := D) (hs := L.map hdrL) (x := lnm q) (v := [112 + q.2]) (q := .strB [112 + q.2]) Le.strB (lnm_let hq1) ⟨q.2, hq2, rfl⟩ (fun h hh => by obtain ⟨r, hr, rfl⟩ := List.mem_map.mp hh; exact lnm_let (hL4 r hr).1) (fun h hh => by obtain ⟨r, hr, rfl⟩ := List.mem_map.mp hh; exact ⟨_, Le.strB⟩) hml) (fun _ h => h) (.inr rfl) ?_⟩
        rintro r σ' ⟨rfl, rfl⟩
        unfold setP
        rw [find_row hq1 hL4]
        cases hfr : L.find? fun r => r.1 == q.1 with
        | some r =>
          have hr1 : r.1 = q.1 := by have := List.find?_some hfr; simpa using this
          have hrm := List.mem_of_find?_eq_some hfr
          have hne : r.2 ≠ q.2 := fun e => hc (e ▸ List.mem_map_of_mem hrm)
          refine Ev.sub <| Ev.str <| Ev.name (by walk_at "zm") <| Op2.itemS (c := 112 + q.2) (by walk_at "zo") (by walk_at "zo") (by walk_at "zo") hpq ?_
          refine Op2.weak (a' := .str [112 + r.2]) Le.strB .refl <| Op2.eqS <| TrueOf.bool ?_
          rw [sgn_beq, beq_eq_false_iff_ne.mpr hne]
          show Ex _ _ _ [(A, .list ((L.map fun q => (sW W q : Int)).map .int)), (H, .list hp'), (D, .list ((L.map hdrL).map hdrP))] _
          refine Ex.nil ?_
          refine Ex.nil ?_
          refine Tr.led (σ' := [(A, .list ((L.map fun q => (sW W q : Int)).map .int)), (D, .list ((L.map hdrL).map hdrP)), (H, .list hp')]) (by walk_at "zl") (back _ _) ?_
          exact Ex.nil ⟨hp'.length, by walk_at "zo", hp', L, rfl, by walk_at "zo", hbusy fun h => h.1 (hr1 ▸ List.mem_map_of_mem hrm), rfl, by walk_at "zb"⟩
        | none =>
          have hrow : q.1 ∉ L.map (·.1) := fun hm => by
            obtain ⟨r, hr, e⟩ := List.mem_map.mp hm
            have := List.find?_eq_none.mp hfr r hr
            rw [e, beq_self_eq_true] at this; exact this rfl
          refine Ev.sub <| Ev.str <| Ev.name (by walk_at "zm") <| Op2.itemS (c := 112 + q.2) (by walk_at "zo") (by walk_at "zo") (by walk_at "zo") hpq ?_
          refine Op2.weak (a' := .str [112 + q.2]) Le.strB .refl <| Op2.eqS <| TrueOf.bool ?_
          rw [sgn_beq, beq_self_eq_true]
          show Ex _ _ _ [(A, .list ((L.map fun q => (sW W q : Int)).map .int)), (H, .list hp'), (D, .list ((L.map hdrL ++ [(lnm q, PV.strB [112 + q.2])]).map hdrP))] _
          refine Ex.cons <| Ex1.expr <| Ev.meth <| Ev.name (by walk_at "zm") ⟨_, _, MethP.led (by walk_at "zm") F.slot_list_append F.type_list_append, EvL.cons <| Ev.unary <| Ev.name (by walk_at "zm") <| Op1.neg <| EvL.nil <| CallP.append .head (by rw [List.length_map, List.length_map]; walk_at "zo") ⟨rfl, ?_⟩⟩
          have eA : (L.map fun q => (sW W q : Int)).map PV.int ++ [.int (- -(sW W q : Int))] = ((L ++ [q]).map fun q => (sW W q : Int)).map .int := by rw [List.map_append, List.map_append, Int.neg_neg]; rfl
          have eD : L.map hdrL ++ [(lnm q, PV.strB [112 + q.2])] = (L ++ [q]).map hdrL := by rw [List.map_append]; rfl
          rw [eA, eD]
          refine Ex.nil ?_
          refine Ex.nil ?_
          refine Tr.led (σ' := [(A, .list (((L ++ [q]).map fun q => (sW W q : Int)).map .int)), (D, .list (((L ++ [q]).map hdrL).map hdrP)), (H, .list hp')]) (by walk_at "zl") (back _ _) ?_
          exact Ex.nil ⟨hp'.length, by walk_at "zo", hp', L ++ [q], rfl, by walk_at "zo", hfree ⟨hrow, hc⟩, rfl, by walk_at "zb"⟩
    · refine ⟨hp, [], hhl, Nat.le_refl _, ⟨hp1, .nil, all16, hp2, fun q hq => mem16.mp hq, fun q hq _ => mem16.mpr hq⟩, rfl, by walk_at "zb"⟩
end Mine.Tactic
end
section
open PySem PySem.W PyProof.Rows PySem.Calls
set_option Elab.async false
set_option maxRecDepth 100000
namespace Mine.Tactic

noncomputable def oP (o : List Nat) : PV := .lst ((o.map fun j : Nat => (j : Int)).map .int)
noncomputable abbrev nsBS : Names := [("words", .cell), ("plain", .cell), ("orders", .local), ("turn", .local), ("rows", .cell)]
theorem ord_len : ∀ t, t ≤ 4 → (ordN t).length ≤ 24 ∧ ∀ o ∈ ordN t, o.length = t := by decide +kernel
theorem ord_ne : ordN 4 ≠ [] := by decide +kernel
theorem has_int (o : List Nat) (j : Nat) : hasP ((o.map fun j : Nat => (j : Int)).map .int) (.int j) = o.contains j := by
  unfold hasP
  rw [List.any_map, List.any_map, List.contains_eq_any_beq]
  congr 1
  funext i
  show ((i : Int) == (j : Int)) = (j == i)
  rw [Bool.eq_iff_iff, beq_iff_eq, beq_iff_eq]; walk_at "zo"
theorem sum_cast (l : List Nat) : (l.map fun n : Nat => (n : Int)).sum = ((l.sum : Nat) : Int) := by
  induction l with
  | nil => rfl
  | cons a l ih => rw [List.map_cons, List.sum_cons, List.sum_cons, ih]; walk_at "zo"
theorem row_int {s : Nat × Nat → Nat} {o : List Nat} {m : List Int} (hp : m.Perm ((pairsO o).map fun q => (s q : Int))) (hw : m.Pairwise (· ≥ ·)) : m = (rowO s o).map fun n : Nat => (n : Int) := by
  have h1 : ((rowO s o).map fun n : Nat => (n : Int)).Perm ((pairsO o).map fun q => (s q : Int)) := by
    have := ((sortD_perm ((pairsO o).map s)).map fun n : Nat => (n : Int))
    rw [List.map_map] at this
    exact this
  have h2 : ((rowO s o).map fun n : Nat => (n : Int)).Pairwise (· ≥ ·) := List.pairwise_map.mpr ((sortD_down _).imp fun h => Int.ofNat_le.mpr h)
  exact (hp.trans h1.symm).eq_of_pairwise (fun a b _ _ h1 h2 => Int.le_antisymm h2 h1) hw h2
theorem take_ints {l : List Nat} {k : Nat} : pySl ((l.map fun n : Nat => (n : Int)).map PV.int) none (some (k : Int)) = ((l.take k).map fun n : Nat => (n : Int)).map .int := by
  unfold pySl clampI
  dsimp only
  rw [if_neg (by walk_at "zo"), Int.toNat_natCast, List.drop_zero, Nat.sub_zero, List.map_take, List.map_take, List.length_map, List.length_map, List.take_eq_take_iff]
  simp only [List.length_map]; walk_at "zo"
noncomputable def bestP (W : List (List Nat)) : PV := .lst (((List.range 4).map fun i => (bestN (sW W) (i + 1) : Int)).map .int)
theorem rowO_len {s : Nat × Nat → Nat} {o : List Nat} : (rowO s o).length = 4 := by unfold rowO; rw [(sortD_perm _).length_eq, List.length_map]; rfl
noncomputable def OrI (W : List (List Nat)) : Nat → Rho → Led → Prop := fun t ρ σ => σ = [] ∧ Sub [("range", .con (.type "range")), ("words", .lst (W.map .str)), ("plain", shP W), ("orders", .lst ((ordN t).map oP))] ρ
set_option maxHeartbeats 16000000 in
theorem best_spec {C : Cx} {p : Params} {n : Nat} (hf : FnAt C aG__law_best (fdOf p aG__law_best)) (hg : Sub [("range", .con (.type "range"))] C.gl) (hg2 : Sub [("max", .con (.builtin "max")), ("range", .con (.type "range")), ("min", .con (.builtin "min")), ("len", .con (.builtin "len")), ("sorted", .con (.builtin "sorted")), ("sum", .con (.builtin "sum"))] C.gl) {W : List (List Nat)} (hW : WdsOk W) :
    FnSpec C (n + 1) (.ref aG__law_best) [.lst (W.map .str)] [] [] (fun r σ' => r = bestP W ∧ σ' = []) := by
  refine FnSpec.of (body := ?bd) ["words"] [.lst (W.map .str)] nsBS ["words", "plain", "rows"] [("range", .con (.type "range"))] (sc := ?sc) hf ?hb ?hsc ?hgl ?hbi ?hcl ?hok hg rfl ?_ ?_
  case hb => with_unfolding_all rfl
  case hsc => with_unfolding_all rfl
  case hgl => with_unfolding_all rfl
  case hbi => with_unfolding_all rfl
  case hcl => with_unfolding_all rfl
  case hok => kernel_rfl
  · intro im s vs kvs hk hv hkw
    obtain ⟨v, rfl, h1⟩ := one_v hv
    have : kvs = [] := by have := hkw.1; simpa using this
    subst this
    have e : bindArgs (fdOf p aG__law_best) ⟨[v], []⟩ = pure ((["words"].map Str.ofString).zip [v]) := by kernel_rfl
    refine ⟨[v], hv, ?_⟩
    intro M A E Q h
    rw [e]
    exact wpAny_pure h
  · intro env κ
    show Ex _ _ [("range", .con (.type "range")), ("words", .lst (W.map .str))] _ _
    have h4 := hW.len
    have hne : ∀ w ∈ W, w ≠ [] := fun w hw e => by have := hW.lo w hw; rw [e] at this; simp at this
    have g1 : Sub [("max", .con (.builtin "max")), ("range", .con (.type "range")), ("min", .con (.builtin "min")), ("len", .con (.builtin "len"))] C.gl := hg2.in (by walk_at "zb")
    have g2 : Sub [("len", .con (.builtin "len"))] C.gl := hg2.in (by walk_at "zb")
    have g3 : Sub [("sorted", .con (.builtin "sorted")), ("range", .con (.type "range"))] C.gl := hg2.in (by walk_at "zb")
    have g4 : Sub [("max", .con (.builtin "max"))] C.gl := hg2.in (by walk_at "zb")
    have g5 : Sub [("sum", .con (.builtin "sum"))] C.gl := hg2.in (by walk_at "zb")
    refine Ex.cons <| Ex1.asgCompC (by walk_at "zm") <| Ev.comp (hsc := ?hsc) <| Ev.name (by walk_at "zm") ⟨[], [], [], _, [("one", .cell)], ["one", "words"], [("words", .lst (W.map .str))], [], ItSrc.lst, fun _ h => h, .inr rfl, List.nodup_nil, ?hck, ?hrc, (fun _ h => nomatch h), ?_⟩
    case hsc => kernel_rfl
    case hck => kernel_rfl
    case hrc => walk_at "zb"
    intro env1 κ1
    refine compItems.fa (compInner_mono _) [("words", .lst (W.map .str))] (fun w : List Nat => .str w) (fun w => [rowW W w]) 1000 W [] _ ?_ (by walk_at "zb") ?_ ?_
    · intro w hw acc ρ hacc hs'
      have hhi := hW.hi w hw
      refine Con.rho2 ["words"] hs' ?_
      refine As.nameC (by walk_at "zm") (by walk_at "zs") ?_
      show compInner _ _ _ _ _ _ _
      refine Ev.comp (hsc := ?hsc) <| Ev.name (by walk_at "zm") ⟨[], [], [], _, [("other", .cell)], ["other", "one"], [("one", .str w)], [("max", .con (.builtin "max")), ("range", .con (.type "range")), ("min", .con (.builtin "min")), ("len", .con (.builtin "len"))], ItSrc.lst, fun _ h => h, .inr rfl, List.nodup_nil, ?hck, ?hrc, ?hrg, ?_⟩
      case hsc => kernel_rfl
      case hck => kernel_rfl
      case hrc => walk_at "zb"
      case hrg => exact g1
      intro env2 κ2
      refine compItems.fa (compInner_mono _) [("one", .str w), ("max", .con (.builtin "max")), ("range", .con (.type "range")), ("min", .con (.builtin "min")), ("len", .con (.builtin "len"))] (fun v : List Nat => .str v) (fun v => [.int (ovl w v)]) 1000 W [] _ ?_ (by walk_at "zb") ?_ ?_
      · intro v hv acc2 ρ2 hacc2 hs2
        have vhi := hW.hi v hv
        refine Con.rho2 ["one", "max", "range", "min", "len"] hs2 ?_
        refine As.nameC (by walk_at "zm") (by walk_at "zs") ?_
        show compInner _ _ _ _ _ _ _
        refine Ev.call (by walk_at "zm") <| EvL.cons <| Ev.comp (hsc := ?hsc) <| Ev.call (by walk_at "zm") <| EvL.cons <| Ev.call (by walk_at "zm") <| EvL.cons <| Ev.call (by walk_at "zm") <| EvL.cons <| Ev.name (by walk_at "zm") <| EvL.nil <| CallP.lenS (by walk_at "zo") <| EvL.cons <| Ev.call (by walk_at "zm") <| EvL.cons <| Ev.name (by walk_at "zm") <| EvL.nil <| CallP.lenS (by walk_at "zo") <| EvL.nil <| CallP.min2 <| EvL.nil <| CallP.range1 ⟨[], [], [], _, [("k", .local)], [], [("one", .str w), ("other", .str v)], [("len", .con (.builtin "len"))], ItSrc.rng (n := min w.length v.length) (small1 (by walk_at "zo") (by walk_at "zo") (by walk_at "zo") (by walk_at "zo")) (rangeSizeN (by walk_at "zo")), fun _ h => h, .inr rfl, List.nodup_nil, ?hck, ?hrc, ?hrg, ?_⟩
        case hsc => kernel_rfl
        case hck => kernel_rfl
        case hrc => walk_at "zb"
        case hrg => exact g2
        intro env3 κ3
        refine compItems.fa (compInner_mono _) [("one", .str w), ("other", .str v), ("len", .con (.builtin "len"))] (fun k : Nat => .int (0 + k * 1)) (fun k => itIf (ovOk w v k) (.int (0 + k * 1))) 1000 (List.range (min w.length v.length)) [] _ ?_ (by walk_at "zb") ?_ ?_
        · intro k hk acc3 ρ3 hacc3 hs3
          have hk := List.mem_range.mp hk
          refine Con.rho2 ["one", "other", "len"] hs3 ?_
          refine As.name (by walk_at "zm") (by walk_at "zs") ?_
          have e0 : (0 + (k : Int) * 1) = (k : Int) := by walk_at "zo"
          rw [e0]
          have e1 : pySl w (some ((w.length : Int) - (k : Int))) none = w.drop (w.length - k) := by
            unfold pySl clampI
            dsimp only
            rw [if_neg (by walk_at "zo"), show ((w.length : Int) - (k : Int)).toNat = w.length - k by walk_at "zo", Nat.min_eq_left (by walk_at "zo"), List.take_of_length_le (by rw [List.length_drop]; walk_at "zo")]
          refine Ts.compare <| Ev.slice <| Ev.name (by walk_at "zm") <| Ev.binop <| Ev.call (by walk_at "zm") <| EvL.cons <| Ev.name (by walk_at "zm") <| EvL.nil <| CallP.lenS (by walk_at "zo") <| Ev.name (by walk_at "zm") <| Op2.sub ⟨_, rfl, SliceP.str (by walk_at "zo") ?_⟩
          rw [e1]
          refine Ev.slice <| Ev.name (by walk_at "zm") <| Ev.name (by walk_at "zm") ⟨_, rfl, SliceP.str (by walk_at "zo") ?_⟩
          rw [take_word (by walk_at "zo")]
          refine Op2.eqS <| TrueOf.bool ?_
          show if (ovOk w v k) = true then _ else _
          refine ite_b (fun h1 => ?_) (fun h1 => ?_)
          · show compInner _ _ _ _ _ _ _
            exact Ev.name (by walk_at "zm") ⟨by walk_at "zo", by rw [h1]; rfl, rfl, by walk_at "zb"⟩
          · exact ⟨by rw [h1]; rfl, rfl, by walk_at "zb"⟩
        · rw [flat_if, List.nil_append]; exact Nat.le_trans (if_len _ _ _) (by rw [List.length_range]; walk_at "zo")
        intro ρ3 _
        rw [flat_if, List.nil_append]
        have eov : ((List.range (min w.length v.length)).filter fun k => ovOk w v k).map (fun k : Nat => PV.int (0 + k * 1)) = ((ovs w v).map fun k : Nat => (k : Int)).map .int := by
          unfold ovs
          rw [List.map_map]
          exact List.map_congr_left fun k _ => by show PV.int (0 + (k : Int) * 1) = PV.int k; congr 1; walk_at "zo"
        rw [eov]
        refine EvL.nil <| CallP.maxL (M := (ovl w v : Int)) (List.mem_map.mpr ⟨_, ovl_mem (hne w hw) (hne v hv), rfl⟩) (fun a ha => by obtain ⟨k, hk, rfl⟩ := List.mem_map.mp ha; exact Int.ofNat_le.mpr (maxN_le hk)) ?_
        exact ⟨by walk_at "zo", rfl, rfl, by walk_at "zb"⟩
      · rw [flat_one, List.nil_append, List.length_map]; walk_at "zo"
      intro ρ2 _
      rw [flat_one, List.nil_append]
      exact ⟨by walk_at "zo", by unfold rowW; rw [List.map_map]; rfl, rfl, by walk_at "zb"⟩
    · rw [flat_one, List.nil_append, List.length_map]; walk_at "zo"
    intro ρ1 _
    rw [flat_one, List.nil_append]
    refine As.nameC (by walk_at "zm") (by walk_at "zs") ?_
    refine Ex.cons <| Ex1.asg <| Ev.list <| EvL.cons <| Ev.list <| EvL.nil ⟨by simp, EvL.nil ⟨by simp, As.name (by walk_at "zm") (by walk_at "zs") ?_⟩⟩
    show Ex _ _ [("range", .con (.type "range")), ("words", .lst (W.map .str)), ("plain", shP W), ("orders", .lst ((ordN 0).map oP))] _ _
    refine Ex.cons <| Ex1.for <| Ev.call (by walk_at "zm") <| EvL.cons <| Ev.int <| EvL.nil <| CallP.range1 ⟨[], [], [], _, ItSrc.rng (n := 4) (by decide) (by decide), fun _ h => h, .inr rfl, List.nodup_nil, ?_⟩
    refine ForT.inv (OrI W) _ 0 ?_ ?_ ?_
    · rintro t q ρ _ hq ⟨rfl, hs'⟩
      obtain ⟨ht, rfl⟩ := rints_get hq
      rw [Nat.zero_add] at *
      obtain ⟨ol, oe⟩ := ord_len t (by walk_at "zo")
      have ol1 := (ord_len (t + 1) (by walk_at "zo")).1
      refine Con.rho2 ["range", "words", "plain", "orders"] hs' ?_
      refine As.name (by walk_at "zm") (by walk_at "zs") ?_
      refine Ex.cons <| Ex1.asgComp (hy := ?hy) (hsw := ?hsw) (hsc := ?hsc) <| Ev.name (by walk_at "zm") ⟨[], [], [], _, [("order", .local), ("j", .local)], [], [], [("range", .con (.type "range"))], ItSrc.lst, fun _ h => h, .inr rfl, List.nodup_nil, ?hck, (fun _ h => nomatch h), ?hrg, ?_⟩
      case hy => walk_at "zm"
      case hsw => kernel_rfl
      case hsc => kernel_rfl
      case hck => kernel_rfl
      case hrg => exact hg
      intro env1 κ1
      refine compItems.fa (compInner_mono _) [("range", .con (.type "range"))] oP (fun o => (((List.range 4).filter fun j => !o.contains j).map fun j => o ++ [j]).map oP) 1000 (ordN t) [] _ ?_ (by walk_at "zb") ?_ ?_
      · intro o ho acc ρ1 hacc hs1
        have hol := oe o ho
        refine Con.rho2 ["range"] hs1 ?_
        refine As.name (by walk_at "zm") (by walk_at "zs") ?_
        show compInner _ _ _ _ _ _ _
        refine Ev.call (by walk_at "zm") <| EvL.cons <| Ev.int <| EvL.nil <| CallP.range1 ⟨_, ItSrc.rng (n := 4) (by decide) (by decide), ?_⟩
        refine compItems.fa (compInner_mono _) [("range", .con (.type "range")), ("order", oP o)] (fun j : Nat => .int (0 + j * 1)) (fun j => itIf (!o.contains j) (oP (o ++ [j]))) 1100 (List.range 4) acc _ ?_ (by walk_at "zb") ?_ ?_
        · intro j hj acc2 ρ2 hacc2 hs2
          refine Con.rho2 ["range", "order"] hs2 ?_
          rw [show (0 + (j : Int) * 1) = (j : Int) by walk_at "zo"]
          refine As.name (by walk_at "zm") (by walk_at "zs") ?_
          refine Ts.compare <| Ev.name (by walk_at "zm") <| Ev.name (by walk_at "zm") <| Op2.notInL (fun p hp => by obtain ⟨x, _, rfl⟩ := List.mem_map.mp hp; rfl) <| TrueOf.bool ?_
          rw [has_int]
          refine ite_b (fun h1 => ?_) (fun h1 => ?_)
          · show compInner _ _ _ _ _ _ _
            refine Ev.binop <| Ev.name (by walk_at "zm") <| Ev.list <| EvL.cons <| Ev.name (by walk_at "zm") <| EvL.nil ⟨by simp, CallP.addL (by rw [List.length_map, List.length_map]; show _ + 1 ≤ _; walk_at "zo") ?_⟩
            refine ⟨by walk_at "zo", ?_, rfl, by walk_at "zb"⟩
            rw [h1]
            show _ = acc2 ++ [oP (o ++ [j])]
            unfold oP
            rw [List.map_append, List.map_append]; rfl
          · exact ⟨by rw [h1]; rfl, rfl, by walk_at "zb"⟩
        · rw [flat_if, List.length_append]; have := if_len (fun j => !o.contains j) (fun j => oP (o ++ [j])) (List.range 4); rw [List.length_range] at this; walk_at "zo"
        · intro ρ2 hs2
          rw [flat_if]
          exact ⟨by rw [List.map_map]; rfl, rfl, hs2.in (by walk_at "zb")⟩
      · rw [flat_map, List.nil_append, List.length_map]
        show (ordN (t + 1)).length ≤ _
        walk_at "zo"
      intro ρ1 _
      rw [flat_map, List.nil_append]
      intro _
      refine As.name (by walk_at "zm") (by walk_at "zs") ?_
      exact Ex.nil ⟨rfl, by walk_at "zb"⟩
    · exact ⟨rfl, by walk_at "zb"⟩
    rintro ρ _ ⟨rfl, hs'⟩
    rw [rints_len, Nat.zero_add] at hs'
    obtain ⟨ol, oe⟩ := ord_len 4 (by walk_at "zo")
    refine Tr.rho2 ["range", "plain", "orders"] (ρ' := [("range", .con (.type "range")), ("plain", shP W), ("orders", .lst ((ordN 4).map oP))]) (hs'.in (by walk_at "zb")) ?_
    show Ex _ _ _ [] _
    refine Ex.cons <| Ex1.asgCompC (by walk_at "zm") <| Ev.comp (hsc := ?hsc) <| Ev.name (by walk_at "zm") ⟨[], [], [], _, [("order", .cell)], ["order", "plain"], [("plain", shP W)], [("sorted", .con (.builtin "sorted")), ("range", .con (.type "range"))], ItSrc.lst, fun _ h => h, .inr rfl, List.nodup_nil, ?hck, ?hrc, ?hrg, ?_⟩
    case hsc => kernel_rfl
    case hck => kernel_rfl
    case hrc => walk_at "zb"
    case hrg => exact g3
    intro env1 κ1
    refine compItems.fa (compInner_mono _) [("plain", shP W), ("sorted", .con (.builtin "sorted")), ("range", .con (.type "range"))] oP (fun o => [.lst (((rowO (sW W) o).map fun n : Nat => (n : Int)).map .int)]) 1000 (ordN 4) [] _ ?_ (by walk_at "zb") ?_ ?_
    · intro o ho acc ρ1 hacc hs1
      have hol := oe o ho
      have hin := (ord_ok o ho).1
      refine Con.rho2 ["plain", "sorted", "range"] hs1 ?_
      refine As.nameC (by walk_at "zm") (by walk_at "zs") ?_
      show compInner _ _ _ _ _ _ _
      refine Ev.callK ["reverse"] (by walk_at "zm") <| EvL.cons <| Ev.comp (hsc := ?hsc) <| Ev.call (by walk_at "zm") <| EvL.cons <| Ev.int <| EvL.nil <| CallP.range1 ⟨[], [], [], _, [("i", .local)], [], [("plain", shP W), ("order", oP o)], [], ItSrc.rng (n := 4) (by decide) (by decide), fun _ h => h, .inr rfl, List.nodup_nil, ?hck, ?hrc, (fun _ h => nomatch h), ?_⟩
      case hsc => kernel_rfl
      case hck => kernel_rfl
      case hrc => walk_at "zb"
      intro env2 κ2
      refine compItems.fa (compInner_mono _) [("plain", shP W), ("order", oP o)] (fun i : Nat => .int (0 + i * 1)) (fun i => [.int (sW W (i, o.getD i 0))]) 1000 (List.range 4) [] _ ?_ (by walk_at "zb") ?_ ?_
      · intro i hi acc2 ρ2 hacc2 hs2
        have hi4 := List.mem_range.mp hi
        have hj4 : o.getD i 0 < 4 := (hin (i, o.getD i 0) (List.mem_map.mpr ⟨i, hi, rfl⟩)).2
        refine Con.rho2 ["plain", "order"] hs2 ?_
        rw [show (0 + (i : Int) * 1) = (i : Int) by walk_at "zo"]
        refine As.name (by walk_at "zm") (by walk_at "zs") ?_
        show compInner _ _ _ _ _ _ _
        have hix : ∀ (j m : Nat), pyIx (j : Int) m = j := fun j m => by unfold pyIx; rw [if_neg (by walk_at "zo")]; walk_at "zo"
        have hoi : o[i]? = some (o.getD i 0) := by rw [List.getD_eq_getElem?_getD, List.getElem?_eq_getElem (by walk_at "zo")]; rfl
        obtain ⟨w, hw⟩ : ∃ w, W[i]? = some w := ⟨W[i], List.getElem?_eq_getElem (by walk_at "zo")⟩
        generalize o.getD i 0 = j at hj4 hoi ⊢
        obtain ⟨v, hv⟩ : ∃ v, W[j]? = some v := ⟨W[j], List.getElem?_eq_getElem (by walk_at "zo")⟩
        have hs : sW W (i, j) = ovl w v := by
          unfold sW
          show ovl (W.getD i []) (W.getD j []) = _
          rw [List.getD_eq_getElem?_getD, List.getD_eq_getElem?_getD, hw, hv]; rfl
        refine Ev.sub <| Ev.sub <| Ev.name (by walk_at "zm") <| Ev.name (by walk_at "zm") <| Op2.itemL (p := rowW W w) (by walk_at "zo") (by rw [List.length_map]; walk_at "zo") (by rw [List.length_map]; walk_at "zo") (by rw [hix, List.getElem?_map, hw]; rfl) <| Ev.sub <| Ev.name (by walk_at "zm") <| Ev.name (by walk_at "zm") <| Op2.itemL (p := .int j) (by walk_at "zo") (by rw [List.length_map, List.length_map]; walk_at "zo") (by rw [List.length_map, List.length_map]; walk_at "zo") (by rw [hix, List.getElem?_map, List.getElem?_map, hoi]; rfl) <| Op2.itemL (p := .int (ovl w v)) (by walk_at "zo") (by rw [List.length_map, List.length_map]; walk_at "zo") (by rw [List.length_map, List.length_map]; walk_at "zo") (by rw [hix, List.getElem?_map, List.getElem?_map, hv]; rfl) ⟨by walk_at "zo", by rw [hs], rfl, by walk_at "zb"⟩
      · rw [flat_one, List.nil_append, List.length_map, List.length_range]; walk_at "zo"
      intro ρ2 _
      rw [flat_one, List.nil_append]
      have ep : (List.range 4).map (fun i => PV.int (sW W (i, o.getD i 0))) = ((pairsO o).map fun q => (sW W q : Int)).map .int := by unfold pairsO; rw [List.map_map, List.map_map]; rfl
      rw [ep]
      refine EvL.nil <| EvK.cons <| Ev.bool <| EvK.nil ⟨rfl, CallP.sortedRev (by rw [List.length_map]; show ((List.range 4).map _).length < 64; rw [List.length_map]; decide) fun m hp hw => ?_⟩
      rw [row_int hp hw]
      exact ⟨by walk_at "zo", rfl, rfl, by walk_at "zb"⟩
    · rw [flat_one, List.nil_append, List.length_map]; walk_at "zo"
    intro ρ1 _
    rw [flat_one, List.nil_append]
    refine As.nameC (by walk_at "zm") (by walk_at "zs") ?_
    show Ex _ _ [("range", .con (.type "range")), ("plain", shP W), ("orders", .lst ((ordN 4).map oP)), ("rows", .lst ((ordN 4).map fun o => .lst (((rowO (sW W) o).map fun n : Nat => (n : Int)).map .int)))] [] _
    refine Ex.cons <| Ex1.ret <| Ev.comp (hsc := ?hsc) <| Ev.call (by walk_at "zm") <| EvL.cons <| Ev.int <| EvL.cons <| Ev.int <| EvL.nil <| CallP.range2 ⟨[], [], [], _, [("k", .cell)], ["k", "rows"], [("rows", .lst ((ordN 4).map fun o => .lst (((rowO (sW W) o).map fun n : Nat => (n : Int)).map .int)))], [("max", .con (.builtin "max"))], ItSrc.rng (n := 4) (by decide) (by decide), fun _ h => h, .inr rfl, List.nodup_nil, ?hck, ?hrc, ?hrg, ?_⟩
    case hsc => kernel_rfl
    case hck => kernel_rfl
    case hrc => walk_at "zb"
    case hrg => exact g4
    intro env1 κ1
    refine compItems.fa (compInner_mono _) [("rows", .lst ((ordN 4).map fun o => .lst (((rowO (sW W) o).map fun n : Nat => (n : Int)).map .int))), ("max", .con (.builtin "max"))] (fun k : Nat => .int (1 + k * 1)) (fun k => [.int (bestN (sW W) (k + 1))]) 1000 (List.range 4) [] _ ?_ (by walk_at "zb") ?_ ?_
    · intro k hk acc ρ1 hacc hs1
      have hk := List.mem_range.mp hk
      refine Con.rho2 ["rows", "max"] hs1 ?_
      rw [show (1 + (k : Int) * 1) = ((k + 1 : Nat) : Int) by walk_at "zo"]
      refine As.nameC (by walk_at "zm") (by walk_at "zs") ?_
      show compInner _ _ _ _ _ _ _
      refine Ev.call (by walk_at "zm") <| EvL.cons <| Ev.comp (hsc := ?hsc) <| Ev.name (by walk_at "zm") ⟨[], [], [], _, [("row", .local)], [], [("k", .int ((k + 1 : Nat) : Int))], [("sum", .con (.builtin "sum"))], ItSrc.lst, fun _ h => h, .inr rfl, List.nodup_nil, ?hck, ?hrc, ?hrg, ?_⟩
      case hsc => kernel_rfl
      case hck => kernel_rfl
      case hrc => walk_at "zb"
      case hrg => exact g5
      intro env2 κ2
      refine compItems.fa (compInner_mono _) [("k", .int ((k + 1 : Nat) : Int)), ("sum", .con (.builtin "sum"))] (fun o : List Nat => .lst (((rowO (sW W) o).map fun n : Nat => (n : Int)).map .int)) (fun o => [.int ((((rowO (sW W) o).take (k + 1)).sum : Nat) : Int)]) 1000 (ordN 4) [] _ ?_ (by walk_at "zb") ?_ ?_
      · intro o ho acc2 ρ2 hacc2 hs2
        have hrl := rowO_len (s := sW W) (o := o)
        refine Con.rho2 ["k", "sum"] hs2 ?_
        refine As.name (by walk_at "zm") (by walk_at "zs") ?_
        show compInner _ _ _ _ _ _ _
        refine Ev.call (by walk_at "zm") <| EvL.cons <| Ev.slice <| Ev.name (by walk_at "zm") <| Ev.name (by walk_at "zm") ⟨_, rfl, SliceP.lst (by rw [List.length_map, List.length_map]; walk_at "zo") ?_⟩
        rw [take_ints]
        refine EvL.nil <| CallP.sumL ?_
        rw [sum_cast]
        exact ⟨by walk_at "zo", rfl, rfl, by walk_at "zb"⟩
      · rw [flat_one, List.nil_append, List.length_map]; walk_at "zo"
      intro ρ2 _
      rw [flat_one, List.nil_append]
      have eb : (ordN 4).map (fun o => PV.int ((((rowO (sW W) o).take (k + 1)).sum : Nat) : Int)) = (((ordN 4).map fun o => ((rowO (sW W) o).take (k + 1)).sum).map fun n : Nat => (n : Int)).map .int := by rw [List.map_map, List.map_map]; rfl
      rw [eb]
      refine EvL.nil <| CallP.maxL (M := (bestN (sW W) (k + 1) : Int)) (List.mem_map.mpr ⟨_, maxN_mem (fun e => ord_ne (List.map_eq_nil_iff.mp e)), rfl⟩) (fun a ha => by obtain ⟨k, hk, rfl⟩ := List.mem_map.mp ha; exact Int.ofNat_le.mpr (maxN_le hk)) ?_
      exact ⟨by walk_at "zo", rfl, rfl, by walk_at "zb"⟩
    · rw [flat_one, List.nil_append, List.length_map, List.length_range]; walk_at "zo"
    intro ρ1 _
    rw [flat_one, List.nil_append]
    exact ⟨by unfold bestP; rw [List.map_map]; rfl, rfl⟩
end Mine.Tactic
end
section
open PySem PySem.W PyProof.Rows PySem.Calls
set_option Elab.async false
set_option maxRecDepth 100000
namespace Mine.Tactic

noncomputable def nxL (L : Prs2) (i : Nat) : Nat := ((L.find? fun r => r.1 == i).map (·.2)).getD 0
noncomputable def Wf (W : List (List Nat)) (i : Nat) : List Nat := if i < 4 then W.getD i [] else [0]
theorem inj_on {α β : Type} {f : α → β} : ∀ {L : List α}, (L.map f).Nodup → ∀ {a b : α}, a ∈ L → b ∈ L → f a = f b → a = b
  | x :: L, h, a, b, ha, hb, e => by
    rw [List.map_cons, List.nodup_cons] at h
    rcases List.mem_cons.mp ha with rfl | ha'
    · rcases List.mem_cons.mp hb with rfl | hb'
      · rfl
      · exact absurd (e ▸ List.mem_map_of_mem hb') h.1
    · rcases List.mem_cons.mp hb with rfl | hb'
      · exact absurd (e ▸ List.mem_map_of_mem ha') h.1
      · exact inj_on h.2 ha' hb' e
structure FullL (L : Prs2) : Prop where
  in4 : ∀ q ∈ L, In4 q
  part : PartM L
  len : L.length = 4
theorem FullL.find {L : Prs2} (h : FullL L) {i : Nat} (hi : i < 4) : ∃ r, L.find? (fun r => r.1 == i) = some r ∧ r ∈ L ∧ r.1 = i ∧ r.2 = nxL L i := by
  have hrow : (L.map (·.1)).Perm (List.range 4) := perm_of_sub h.part.1 (fun x hx => by obtain ⟨q, hq, rfl⟩ := List.mem_map.mp hx; exact List.mem_range.mpr (h.in4 q hq).1) (by rw [List.length_range, List.length_map, h.len]; exact Nat.le_refl _)
  cases e : L.find? (fun r => r.1 == i) with
  | none =>
    obtain ⟨q, hq, e2⟩ := List.mem_map.mp (hrow.mem_iff.mpr (List.mem_range.mpr hi))
    have := List.find?_eq_none.mp e q hq
    rw [e2, beq_self_eq_true] at this; exact absurd rfl this
  | some r =>
    have h1 := List.find?_some e
    exact ⟨r, rfl, List.mem_of_find?_eq_some e, by simpa using h1, by unfold nxL; rw [e]; rfl⟩
theorem FullL.lt {L : Prs2} (h : FullL L) {i : Nat} (hi : i < 4) : nxL L i < 4 := by
  obtain ⟨r, _, hr, _, e⟩ := h.find hi
  rw [← e]; exact (h.in4 r hr).2
theorem FullL.inj {L : Prs2} (h : FullL L) {i j : Nat} (hi : i < 4) (hj : j < 4) (e : nxL L i = nxL L j) : i = j := by
  obtain ⟨r, _, hr, r1, r2⟩ := h.find hi
  obtain ⟨q, _, hq, q1, q2⟩ := h.find hj
  have hn := h.part.2
  have hrq : r = q := inj_on hn hr hq (by rw [r2, q2, e])
  rw [← r1, ← q1, hrq]
structure Pth (nx : Nat → Nat) (S is : List Nat) (h : Nat) : Prop where
  nd : is.Nodup
  sub : ∀ i ∈ is, i ∈ S
  hin : h ∈ S
  st : ∀ t, t + 1 < is.length → is.getD (t + 1) 0 = nx (is.getD t 0)
  la : is ≠ [] → h = nx (is.getD (is.length - 1) 0)
theorem getD_snoc_lt {l : List Nat} {x t : Nat} (h : t < l.length) : (l ++ [x]).getD t 0 = l.getD t 0 := by
  rw [List.getD_eq_getElem?_getD, List.getD_eq_getElem?_getD, List.getElem?_append_left h]
theorem getD_snoc_eq {l : List Nat} {x : Nat} : (l ++ [x]).getD l.length 0 = x := by
  rw [List.getD_eq_getElem?_getD, List.getElem?_append_right (Nat.le_refl _), Nat.sub_self]; rfl
theorem getD_mem' {l : List Nat} {t : Nat} (h : t < l.length) : l.getD t 0 ∈ l := by
  rw [List.getD_eq_getElem?_getD, List.getElem?_eq_getElem h]; exact List.getElem_mem h
theorem Pth.step {nx : Nat → Nat} {S is : List Nat} {h : Nat} (P : Pth nx S is h) (hc : ∀ i ∈ S, nx i ∈ S) (hn : h ∉ is) : Pth nx S (is ++ [h]) (nx h) := by
  refine ⟨List.nodup_append.mpr ⟨P.nd, by simp, fun a ha b hb e => hn (by rw [← List.mem_singleton.mp hb, ← e]; exact ha)⟩, fun i hi => ?_, hc h P.hin, fun t ht => ?_, fun _ => ?_⟩
  · rcases List.mem_append.mp hi with hi | hi
    · exact P.sub i hi
    · rw [List.mem_singleton.mp hi]; exact P.hin
  · rw [List.length_append, List.length_singleton] at ht
    by_cases h1 : t + 1 < is.length
    · rw [getD_snoc_lt h1, getD_snoc_lt (by walk_at "zo")]; exact P.st t h1
    · have e : t + 1 = is.length := by walk_at "zo"
      rw [e, getD_snoc_eq, getD_snoc_lt (by walk_at "zo")]
      have hne : is ≠ [] := by rintro rfl; simp at e
      have := P.la hne
      rwa [show is.length - 1 = t by walk_at "zo"] at this
  · rw [List.length_append, List.length_singleton, Nat.add_sub_cancel, getD_snoc_eq]
theorem nodup_getD {l : List Nat} (h : l.Nodup) {a b : Nat} (ha : a < l.length) (hb : b < l.length) (e : l.getD a 0 = l.getD b 0) : a = b := by
  rw [List.getD_eq_getElem?_getD, List.getD_eq_getElem?_getD, List.getElem?_eq_getElem ha, List.getElem?_eq_getElem hb] at e
  exact (List.getElem_inj h).mp e
theorem Pth.cyc {nx : Nat → Nat} {S is : List Nat} {h : Nat} (P : Pth nx S is h) (inj : ∀ i ∈ S, ∀ j ∈ S, nx i = nx j → i = j) (hm : h ∈ is) : Cyc nx is := by
  have hne : is ≠ [] := List.ne_nil_of_mem hm
  have hpos := List.length_pos_iff.mpr hne
  have hl := P.la hne
  refine ⟨P.st, fun t ht => ?_⟩
  have et : t = is.length - 1 := by walk_at "zo"
  obtain ⟨k, hk, ek⟩ := List.getElem_of_mem hm
  have ek2 : is.getD k 0 = h := by rw [List.getD_eq_getElem?_getD, List.getElem?_eq_getElem hk]; exact ek
  cases k with
  | zero => rw [ek2, hl, et]
  | succ k =>
    have h1 := P.st k hk
    rw [ek2, hl] at h1
    have h2 := inj _ (P.sub _ (getD_mem' (by walk_at "zo"))) _ (P.sub _ (getD_mem' (by walk_at "zo"))) h1
    have := nodup_getD P.nd (by walk_at "zo") (by walk_at "zo") h2
    walk_at "zo"
theorem Pth.rest {nx : Nat → Nat} {S is : List Nat} {h : Nat} (P : Pth nx S is h) (hc : ∀ i ∈ S, nx i ∈ S) (inj : ∀ i ∈ S, ∀ j ∈ S, nx i = nx j → i = j) (hm : h ∈ is) : ∀ i ∈ S.filter (fun i => !is.contains i), nx i ∈ S.filter (fun i => !is.contains i) := by
  have C := P.cyc inj hm
  intro i hi
  rw [List.mem_filter, Bool.not_eq_true', ← Bool.not_eq_true, List.contains_iff_mem] at hi
  rw [List.mem_filter, Bool.not_eq_true', ← Bool.not_eq_true, List.contains_iff_mem]
  refine ⟨hc i hi.1, fun hn => hi.2 ?_⟩
  have hpos := List.length_pos_of_mem hm
  obtain ⟨k, hk, ek⟩ := List.getElem_of_mem hn
  have ek2 : is.getD k 0 = nx i := by rw [List.getD_eq_getElem?_getD, List.getElem?_eq_getElem hk]; exact ek
  cases k with
  | zero =>
    have := C.fin (is.length - 1) (by walk_at "zo")
    rw [ek2] at this
    rw [inj _ hi.1 _ (P.sub _ (getD_mem' (by walk_at "zo"))) this]; exact getD_mem' (by walk_at "zo")
  | succ k =>
    have := C.st k hk
    rw [ek2] at this
    rw [inj _ hi.1 _ (P.sub _ (getD_mem' (by walk_at "zo"))) this]; exact getD_mem' (by walk_at "zo")
noncomputable def lfT (S : List Nat) : List Nat := S.map fun i => 112 + i
noncomputable def subs4 : List (List Nat) := (List.range 16).map fun k => (List.range 4).filter fun c => k.testBit c
theorem repl4 : (subs4.all fun l => (List.range 4).all fun c => Txt.replace (S (lfT l)) (S [112 + c]) (S []) == S (lfT (l.filter (· != c)))) = true := by decide +kernel
theorem sub_filter4 {l m : List Nat} (h : l.Sublist m) : m.Nodup → m.filter (fun c => decide (c ∈ l)) = l := by
  induction h with
  | slnil => intro _; rfl
  | @cons l m a h ih =>
    intro hn
    obtain ⟨h1, h2⟩ := List.nodup_cons.mp hn
    rw [List.filter_cons_of_neg (by simpa using fun hm => h1 (h.subset hm)), ih h2]
  | @cons_cons l m a h ih =>
    intro hn
    obtain ⟨h1, h2⟩ := List.nodup_cons.mp hn
    rw [List.filter_cons_of_pos (by simp)]
    have e : m.filter (fun c => decide (c ∈ a :: l)) = m.filter (fun c => decide (c ∈ l)) := List.filter_congr fun x hx => by
      have : x ≠ a := fun e => h1 (e ▸ hx)
      simp [this]
    rw [e, ih h2]
noncomputable def sel4 (a b c d : Bool) (x : Nat) : Bool := if x = 0 then a else if x = 1 then b else if x = 2 then c else d
theorem filt4 : ∀ a b c d : Bool, (List.range 4).filter (sel4 a b c d) ∈ subs4 := by decide +kernel
theorem sub_mem4 {l : List Nat} (h : l.Sublist (List.range 4)) : l ∈ subs4 := by
  rw [← sub_filter4 h (by decide), List.filter_congr (q := sel4 (decide (0 ∈ l)) (decide (1 ∈ l)) (decide (2 ∈ l)) (decide (3 ∈ l))) fun x hx => ?_]
  · exact filt4 _ _ _ _
  · have : x = 0 ∨ x = 1 ∨ x = 2 ∨ x = 3 := by have := List.mem_range.mp hx; walk_at "zo"
    rcases this with rfl | rfl | rfl | rfl <;> rfl
theorem repl4_one {l : List Nat} {c : Nat} (h : l.Sublist (List.range 4)) (hc : c < 4) : Txt.replace (S (lfT l)) (S [112 + c]) (S []) = S (lfT (l.filter (· != c))) := by
  have h1 := List.all_eq_true.mp repl4 l (sub_mem4 h)
  exact eq_of_beq (List.all_eq_true.mp h1 c (List.mem_range.mpr hc))
theorem idx4 {c : Nat} (hc : c < 4) : ∃ r, Builtin.Str.occurrences (S (cs "pqrs")) (S [112 + c]) 0 (S (cs "pqrs")).length 1 = c :: r := by
  have : c = 0 ∨ c = 1 ∨ c = 2 ∨ c = 3 := by walk_at "zo"
  rcases this with rfl | rfl | rfl | rfl <;> exact ⟨[], by decide +kernel⟩
theorem swappedNone3b {env : Env} {x y z : Str} {px py pz tpos p' : Pos} {k k' : Nat} {vs : List Expr} (hk : env.scope.kind = .function) (kx : env.kindOf y = some .cell) (hv : vs.length = 3) (hs : (vs.any isStarE) = false) :
    swappedStores [.Tuple [.Name x px, .Name y py, .Name z pz] k tpos] (.Tuple vs k' p') env = pure none := by
  have hb : env.blockKind = .function := by unfold Env.blockKind; rw [hk]; rfl
  have hst : ∀ f : Expr → Bool, (∀ e, f e = isStarE e) → vs.any f = false := fun f hf => by rw [show f = isStarE from funext hf]; exact hs
  have hc : (some NameKind.cell == some NameKind.local) = false := rfl
  have hn : ∀ f : Expr → Option Str, f (.Name y py) = none → (([Expr.Name x px, Expr.Name y py, Expr.Name z pz].filterMap f).length != 3) = true := fun f h1 => by
    have : ([Expr.Name x px, Expr.Name y py, Expr.Name z pz].filterMap f).length ≤ 2 := by
      have e : [Expr.Name x px, Expr.Name y py, Expr.Name z pz].filterMap f = [Expr.Name x px].filterMap f ++ [Expr.Name z pz].filterMap f := by
        rw [show [Expr.Name x px, Expr.Name y py, Expr.Name z pz] = [Expr.Name x px] ++ [Expr.Name y py, Expr.Name z pz] from rfl, List.filterMap_append, List.filterMap_cons (a := Expr.Name y py), h1]
      rw [e, List.length_append]
      exact Nat.add_le_add (List.length_filterMap_le _ _) (List.length_filterMap_le _ _)
    simp; walk_at "zo"
  unfold swappedStores
  dsimp only
  rw [hv, hb]
  simp only [List.length_cons, List.length_nil]
  rw [if_neg (by decide)]
  rw [hst _ (fun e => by cases e <;> rfl), if_neg (by decide)]
  rw [if_pos]
  rw [Bool.or_eq_true]
  exact .inl (hn _ (by dsimp only; rw [kx, hc]; simp))
theorem ring_len {W : Nat → List Nat} {nx : Nat → Nat} (h5 : ∀ i, (W i).length ≤ 5) : ∀ is : List Nat, (ringW W nx is).length ≤ 5 * is.length
  | [] => Nat.le_refl _
  | i :: is => by
    have ih := ring_len (nx := nx) h5 is
    have h1 : (cutW W nx i).length ≤ 5 := by unfold cutW; rw [List.length_take]; have := h5 i; walk_at "zo"
    unfold ringW at ih ⊢
    rw [List.flatMap_cons, List.length_append, List.length_cons]; walk_at "zo"
noncomputable def laP (q : Nat × List Nat) : PV := .tup [.int (q.1 : Int), .str q.2]
theorem sl_win {l : List Nat} {a b : Nat} (h : a + b ≤ l.length) : pySl l (some (a : Int)) (some ((a : Int) + (b : Int))) = (l.drop a).take b := by
  unfold pySl clampI
  dsimp only
  rw [if_neg (by walk_at "zo"), if_neg (by walk_at "zo"), Int.toNat_natCast, show ((a : Int) + (b : Int)).toNat = a + b by walk_at "zo", Nat.min_eq_left (show a ≤ l.length by walk_at "zo"), Nat.min_eq_left h, Nat.add_sub_cancel_left]
theorem win_len {l w : List Nat} {a : Nat} (hw : w ≠ []) (h : (l.drop a).take w.length = w) : a + w.length ≤ l.length := by
  have := congrArg List.length h
  rw [List.length_take, List.length_drop] at this
  have := List.length_pos_iff.mpr hw
  walk_at "zo"
theorem wf_ok {W : List (List Nat)} (hW : WdsOk W) : (∀ i, Wf W i ≠ []) ∧ (∀ i, (Wf W i).length ≤ 5) := by
  have h4 := hW.len
  constructor
  · intro i
    unfold Wf
    split
    · rename_i hi
      rw [List.getD_eq_getElem?_getD, List.getElem?_eq_getElem (by walk_at "zo")]
      intro e
      have := hW.lo W[i] (List.getElem_mem _)
      rw [show W[i] = [] from e] at this; simp at this
    · exact List.cons_ne_nil _ _
  · intro i
    unfold Wf
    split
    · rename_i hi
      rw [List.getD_eq_getElem?_getD, List.getElem?_eq_getElem (by walk_at "zo")]
      exact hW.hi W[i] (List.getElem_mem _)
    · simp
end Mine.Tactic
end
section
open PySem PySem.W PyProof.Rows PySem.Calls
set_option Elab.async false
set_option maxRecDepth 100000
namespace Mine.Tactic

noncomputable abbrev nsSN : Names := [("words", .local), ("shares", .local), ("links", .local), ("left", .local), ("here", .local), ("ring", .cell), ("laid", .local), ("word", .local), ("ahead", .local)]
noncomputable def frR (W : List (List Nat)) (L : Prs2) (D : Addr) (T : List Nat) : Rho := [("len", .con (.builtin "len")), ("words", .lst (W.map .str)), ("shares", shP W), ("links", hdO D), ("left", .str (lfT T))]
noncomputable def StO (W : List (List Nat)) (L : Prs2) (D : Addr) : Nat → Rho → Led → Prop := fun k ρ σ => ∃ T : List Nat, T.length = k ∧ T.Sublist (List.range 4) ∧ (∀ i ∈ T, nxL L i ∈ T) ∧ σ = [(D, .list ((L.map hdrL).map hdrP))] ∧ Sub (frR W L D T) ρ
noncomputable def leftT (T is : List Nat) : List Nat := T.filter fun i => !is.contains i
noncomputable def StIn (W : List (List Nat)) (L : Prs2) (D A : Addr) (T : List Nat) : Nat → Rho → Led → Prop := fun k ρ σ => ∃ (is : List Nat) (h : Nat), k = 4 - is.length ∧ Pth (nxL L) T is h ∧ σ = [(A, .list ((laidW (Wf W) (nxL L) is).map laP)), (D, .list ((L.map hdrL).map hdrP))] ∧ Sub (frR W L D (leftT T is) ++ [("here", .strB [112 + h]), ("ring", .str (ringW (Wf W) (nxL L) is)), ("laid", .ref A)]) ρ
theorem rep_len {l : List Nat} : ∀ k, (List.replicate k l).flatten.length = k * l.length
  | 0 => by simp
  | k + 1 => by rw [List.replicate_succ, List.flatten_cons, List.length_append, rep_len k, Nat.succ_mul, Nat.add_comm]
theorem left_step {T is : List Nat} {h : Nat} : (leftT T is).filter (· != h) = leftT T (is ++ [h]) := by
  unfold leftT
  rw [List.filter_filter]
  refine List.filter_congr fun x _ => ?_
  rw [Bool.eq_iff_iff]
  simp only [Bool.and_eq_true, bne_iff_ne, Bool.not_eq_true', ← Bool.not_eq_true, List.contains_iff_mem, List.mem_append, List.mem_singleton]
  constructor
  · rintro ⟨a, b⟩ (c | c)
    · exact b c
    · exact a c
  · intro a
    exact ⟨fun c => a (.inr c), fun c => a (.inl c)⟩
set_option maxHeartbeats 16000000 in
theorem stand_spec {C : Cx} {p : Params} {n : Nat} {cN cV : Array Nat} (K : HdrK C p cN cV) (O : NamesOk cN cV isL4 isW4 lowL) (hd2 : C.K.lookup aD_get = some (tupO [.none] 0)) (hf : FnAt C aG__law_stand (fdOf p aG__law_stand)) (hg : Sub [("len", .con (.builtin "len"))] C.gl) {W : List (List Nat)} (hW : WdsOk W) {L : Prs2} (hL : FullL L) {D : Addr} :
    FnSpec C (n + 3) (.ref aG__law_stand) [.lst (W.map .str), shP W, hdO D] [] [(D, .list ((L.map hdrL).map hdrP))] (fun r σ' => r = .bool true ∧ σ' = [(D, .list ((L.map hdrL).map hdrP))]) := by
  refine FnSpec.of (body := ?bd) ["words", "shares", "links"] [.lst (W.map .str), shP W, hdO D] nsSN ["ring"] [("len", .con (.builtin "len"))] (sc := ?sc) hf ?hb ?hsc ?hgl ?hbi ?hcl ?hok hg rfl ?_ ?_
  case hb => with_unfolding_all rfl
  case hsc => with_unfolding_all rfl
  case hgl => with_unfolding_all rfl
  case hbi => with_unfolding_all rfl
  case hcl => with_unfolding_all rfl
  case hok => kernel_rfl
  · intro im s vs kvs hk hv hkw
    obtain ⟨v, w, x, rfl, h1, h2, h3⟩ := three_v hv
    have : kvs = [] := by have := hkw.1; simpa using this
    subst this
    have e : bindArgs (fdOf p aG__law_stand) ⟨[v, w, x], []⟩ = pure ((["words", "shares", "links"].map Str.ofString).zip [v, w, x]) := by kernel_rfl
    refine ⟨[v, w, x], hv, ?_⟩
    intro M A E Q h
    rw [e]
    exact wpAny_pure h
  · intro env κ
    show Ex _ _ [("len", .con (.builtin "len")), ("words", .lst (W.map .str)), ("shares", shP W), ("links", hdO D)] _ _
    have h4 := hW.len
    obtain ⟨wne, w5⟩ := wf_ok hW
    have hL4 := hL.in4
    have hml : (L.map hdrL).length ≤ 1000 := by rw [List.length_map, hL.len]; decide
    have hix : ∀ (j m : Nat), pyIx (j : Int) m = j := fun j m => by unfold pyIx; rw [if_neg (by walk_at "zo")]; walk_at "zo"
    have hww : ∀ i, i < 4 → W[i]? = some (Wf W i) := fun i hi => by unfold Wf; rw [if_pos hi, List.getD_eq_getElem?_getD, List.getElem?_eq_getElem (by walk_at "zo")]; rfl
    refine Ex.cons <| Ex1.asg <| Ev.str <| As.name (by walk_at "zm") (by walk_at "zs") ?_
    refine Ex.cons <| Ex1.while (StO W L D) ?_ 4 ?_
    · rintro k ρ σ ⟨T, rfl, hT, hTc, rfl, hs⟩
      have hT4 : ∀ i ∈ T, i < 4 := fun i hi => List.mem_range.mp (hT.subset hi)
      have hinj : ∀ i ∈ T, ∀ j ∈ T, nxL L i = nxL L j → i = j := fun i hi j hj => hL.inj (hT4 i hi) (hT4 j hj)
      have hTl : T.length ≤ 4 := hT.length_le
      unfold frR at hs
      refine Tr.rho2 ["len", "words", "shares", "links", "left"] hs ?_
      refine Ts.compare <| Ev.name (by walk_at "zm") <| Ev.str <| Op2.neS <| TrueOf.bool ?_
      cases T with
      | nil =>
        rw [show (lfT [] != cs "") = false by decide]
        show Ex _ _ _ _ _
        exact Ex.cons <| Ex1.ret <| Ev.bool ⟨rfl, rfl⟩
      | cons i0 T0 =>
        generalize hTe : i0 :: T0 = T at *
        have hlt : (lfT T).length = T.length := List.length_map _
        have hi0 : T[0]? = some i0 := by rw [← hTe]; rfl
        have hTp : 0 < T.length := by rw [← hTe]; exact Nat.succ_pos _
        have hi0m : i0 ∈ T := by rw [← hTe]; exact .head _
        rw [show (lfT T != cs "") = true by rw [bne_iff_ne]; intro e; have := congrArg List.length e; rw [hlt, show (cs "").length = 0 by decide] at this; walk_at "zo"]
        show Ex _ _ _ _ _
        refine Ex.cons <| Ex1.asgTup (hw := ?hw) <| Ev.tuple <| EvL.cons <| Ev.sub <| Ev.name (by walk_at "zm") <| Ev.intB <| Op2.itemB (c := 112 + i0) (by walk_at "zo") (by walk_at "zo") (by walk_at "zo") (by unfold pyIx; rw [if_neg (by walk_at "zo")]; show (lfT T)[0]? = _; unfold lfT; rw [List.getElem?_map, hi0]; rfl) <| EvL.cons <| Ev.str <| EvL.cons <| Ev.listM <| EvL.nil ⟨by simp, fun A => EvL.nil ⟨by simp, As.tup (ps := [.strB [112 + i0], .str (cs ""), .ref A]) (As.name (by walk_at "zm") (by walk_at "zs") <| As.nameC (by walk_at "zm") (by walk_at "zs") <| As.name (by walk_at "zm") (by walk_at "zs") ?_) rfl rfl⟩⟩
        case hw => exact fun bs im s hS => swappedNone3b hS.f.kind (hS.f.kn ("ring", .cell) (by walk_at "zm")).1 rfl rfl
        show Ex _ _ _ [(A, .list []), (D, .list ((L.map hdrL).map hdrP))] _
        refine Ex.cons <| Ex1.while (StIn W L D A T) ?_ 4 ?_
        · rintro k ρ σ ⟨is, h, rfl, P, rfl, hs⟩
          have hh4 := hT4 h P.hin
          have his4 : is.length ≤ 4 := by
            have := P.nd.length_le_of_subset (l₂ := T) P.sub
            walk_at "zo"
          have hsubl : (leftT T is).Sublist (List.range 4) := List.filter_sublist.trans hT
          have hll : (lfT (leftT T is)).length ≤ 4 := by unfold lfT; rw [List.length_map]; exact hsubl.length_le
          have hrl := ring_len (nx := nxL L) w5 is
          unfold frR at hs
          refine Tr.rho2 ["len", "words", "shares", "links", "left", "here", "ring", "laid"] hs ?_
          refine Ts.compare <| Ev.name (by walk_at "zm") <| Ev.name (by walk_at "zm") <| Op2.weak Le.strB .refl <| Op2.inS <| TrueOf.bool ?_
          have hmem : (112 + h ∈ lfT (leftT T is)) ↔ h ∉ is := by
            unfold lfT leftT
            rw [List.mem_map]
            constructor
            · rintro ⟨x, hx, e⟩
              rw [List.mem_filter, Bool.not_eq_true', ← Bool.not_eq_true, List.contains_iff_mem] at hx
              have : x = h := by walk_at "zo"
              rw [← this]; exact hx.2
            · intro hn
              exact ⟨h, List.mem_filter.mpr ⟨P.hin, by rw [Bool.not_eq_true', ← Bool.not_eq_true, List.contains_iff_mem]; exact hn⟩, rfl⟩
          rw [contains_sign]
          by_cases hin : h ∈ is
          · -- the ring is closed
            rw [decide_eq_false (fun hc => (hmem.mp hc) hin)]
            show Ex _ _ _ [(A, .list ((laidW (Wf W) (nxL L) is).map laP)), (D, .list ((L.map hdrL).map hdrP))] _
            have CY := P.cyc hinj hin
            have hstand := stand_ok wne w5 CY
            have hpos : 0 < (ringW (Wf W) (nxL L) is).length ∨ True := .inr trivial
            refine Ex.cons <| Ex1.if <| Ts.compare <| Ev.comp (hsc := ?hsc) <| Ev.name (by walk_at "zm") ⟨[(A, .list ((laidW (Wf W) (nxL L) is).map laP))], [(A, .list ((laidW (Wf W) (nxL L) is).map laP))], [(D, .list ((L.map hdrL).map hdrP))], _, [("start", .local), ("word", .local)], [], [("ring", .str (ringW (Wf W) (nxL L) is))], [("len", .con (.builtin "len"))], ItSrc.led, fun _ h => h, .inr rfl, by simp, ?hck, ?hrc, ?hrg, ?_⟩
            case hsc => kernel_rfl
            case hck => kernel_rfl
            case hrc => walk_at "zb"
            case hrg => exact hg
            intro env' κ'
            refine compItems.fa (compInner_mono _) [("ring", .str (ringW (Wf W) (nxL L) is)), ("len", .con (.builtin "len"))] laP (fun _ => []) 1000 (laidW (Wf W) (nxL L) is) [] _ ?_ (by walk_at "zb") ?_ ?_
            · intro q hq acc ρ hacc hs'
              have hst := hstand q hq
              obtain ⟨t, ht, rfl⟩ := List.mem_map.mp hq
              have hqn := wne (is.getD t 0)
              have hq5 := w5 (is.getD t 0)
              have hwl := win_len (w := Wf W (is.getD t 0)) hqn hst
              have h6 : (List.replicate 6 (ringW (Wf W) (nxL L) is)).flatten.length ≤ 200 := by
                rw [rep_len]; walk_at "zo"
              dsimp only at hst hwl
              unfold laP
              dsimp only
              generalize Wf W (is.getD t 0) = w at hst hqn hq5 hwl ⊢
              generalize (ringW (Wf W) (nxL L) (is.take t)).length = st at hst hwl ⊢
              refine Con.rho2 ["ring", "len"] hs' ?_
              refine As.tup (ps := [.int (st : Int), .str w]) (As.name (by walk_at "zm") (by walk_at "zs") <| As.name (by walk_at "zm") (by walk_at "zs") ?_) rfl rfl
              refine Ts.compare <| Ev.slice <| Ev.binop <| Ev.name (by walk_at "zm") <| Ev.int <| Op2.mulS 20 6 (by walk_at "zo") (by decide) (by decide) (by decide) (by decide) <| Ev.name (by walk_at "zm") ⟨_, rfl, Ev.binop <| Ev.name (by walk_at "zm") <| Ev.call (by walk_at "zm") <| EvL.cons <| Ev.name (by walk_at "zm") <| EvL.nil <| CallP.lenS (by walk_at "zo") <| Op2.add ⟨_, rfl, SliceP.str (by show (List.replicate 6 _).flatten.length ≤ _; walk_at "zo") ?_⟩⟩
              rw [show (6 : Int).toNat = 6 from rfl, sl_win hwl, hst]
              refine Ev.name (by walk_at "zm") <| Op2.neS <| TrueOf.bool ?_
              rw [show (w != w) = false by simp]
              exact ⟨rfl, rfl, by walk_at "zb"⟩
            · rw [show (laidW (Wf W) (nxL L) is).flatMap (fun _ => ([] : List PV)) = [] from List.flatMap_eq_nil_iff.mpr fun _ _ => rfl]; exact Nat.zero_le _
            intro ρ' _
            rw [show (laidW (Wf W) (nxL L) is).flatMap (fun _ => ([] : List PV)) = [] from List.flatMap_eq_nil_iff.mpr fun _ _ => rfl]
            refine Ev.list <| EvL.nil ⟨by simp, Op2.neEmptyL <| TrueOf.bool ?_⟩
            show Ex _ _ _ [(A, .list ((laidW (Wf W) (nxL L) is).map laP)), (D, .list ((L.map hdrL).map hdrP))] _
            refine Ex.nil ?_
            refine Tr.led (σ' := [(D, .list ((L.map hdrL).map hdrP))]) (by walk_at "zl") (fun _ => by simp) ?_
            have hlen : (leftT T is).length < T.length := by
              refine Nat.lt_of_le_of_ne (List.length_filter_le _ _) fun e => ?_
              have := (List.length_filter_eq_length_iff.mp e) h P.hin
              rw [Bool.not_eq_true', ← Bool.not_eq_true, List.contains_iff_mem] at this
              exact this hin
            exact Ex.nil ⟨(leftT T is).length, hlen, leftT T is, rfl, hsubl, P.rest hTc hinj hin, rfl, by unfold frR; walk_at "zb"⟩
          · rw [decide_eq_true (hmem.mpr hin)]
            show Ex _ _ _ [(A, .list ((laidW (Wf W) (nxL L) is).map laP)), (D, .list ((L.map hdrL).map hdrP))] _
            have hn4 : nxL L h < 4 := hL.lt hh4
            obtain ⟨r1, ho1⟩ := idx4 hh4
            obtain ⟨r2, ho2⟩ := idx4 hn4
            obtain ⟨q, hfq, hqm, hq1, hq2⟩ := hL.find hh4
            have hisl : is.length + 1 ≤ 4 := by
              have P2 := P.step hTc hin
              have := P2.nd.length_le_of_subset (l₂ := T) P2.sub
              rw [List.length_append] at this
              have : is.length + 1 ≤ T.length := this
              walk_at "zo"
            refine Ex.cons <| Ex1.asg <| Ev.replaceName (x := "here") <| Ev.name (by walk_at "zm") ⟨_, _, _, rfl, by walk_at "zm", by walk_at "zo", repl4_one hsubl hh4, ?_⟩
            rw [left_step]
            refine As.name (by walk_at "zm") (by walk_at "zs") ?_
            refine Ex.cons <| Ex1.asg <| Ev.sub <| Ev.name (by walk_at "zm") <| Ev.meth <| Ev.str ⟨_, _, MethP.str F.slot_str_index F.type_str_index, EvL.cons <| Ev.name (by walk_at "zm") <| EvL.nil <| CallP.weak (.cons .refl (.cons Le.strB .nil)) <| CallP.index ho1 <| Op2.itemL (p := .str (Wf W h)) (by walk_at "zo") (by rw [List.length_map]; walk_at "zo") (by rw [List.length_map]; walk_at "zo") (by rw [hix, List.getElem?_map, hww h hh4]; rfl) <| As.name (by walk_at "zm") (by walk_at "zs") ?_⟩
            refine Ex.cons <| Ex1.asg <| Ev.meth <| Ev.name (by walk_at "zm") ⟨_, _, MethP.obj K.cls K.fget K.tget (by decide), EvL.cons <| Ev.name (by walk_at "zm") <| EvL.nil <| CallP.weak (.cons .refl (.cons Le.strB .nil)) <| CallP.of (φ := [(A, .list ((laidW (Wf W) (nxL L) is).map laP))]) (get_spec (n := n) K O hd2 (L := D) (hs := L.map hdrL) (x := [112 + h]) ⟨h, hh4, .inl rfl⟩ (fun x hx => by obtain ⟨r, hr, rfl⟩ := List.mem_map.mp hx; exact lnm_let (hL4 r hr).1) hml) (fun _ h => h) (.inr rfl) ?_⟩
            rintro r σ' ⟨rfl, rfl⟩
            have hget : getP lowL (L.map hdrL) (lowL [112 + h]) = .strB [112 + nxL L h] := by
              have e := find_row (q := (h, 0)) hh4 hL4
              rw [low_lnm (q := (h, 0)) hh4] at e
              unfold getP
              rw [show lowL [112 + h] = [112 + h] by unfold lowL lowC; show [if 65 ≤ 112 + h ∧ 112 + h ≤ 90 then _ else _] = _; rw [if_neg (by walk_at "zo")], e, hfq]
              show PV.strB [112 + q.2] = _
              rw [hq2]
            rw [hget]
            refine As.name (by walk_at "zm") (by walk_at "zs") ?_
            show Ex _ _ _ [(A, .list ((laidW (Wf W) (nxL L) is).map laP)), (D, .list ((L.map hdrL).map hdrP))] _
            have h5h := w5 h
            refine Ex.cons <| Ex1.expr <| Ev.meth <| Ev.name (by walk_at "zm") ⟨_, _, MethP.led (by walk_at "zm") F.slot_list_append F.type_list_append, EvL.cons <| Ev.tuple <| EvL.cons <| Ev.call (by walk_at "zm") <| EvL.cons <| Ev.name (by walk_at "zm") <| EvL.nil <| CallP.lenS (by walk_at "zo") <| EvL.cons <| Ev.name (by walk_at "zm") <| EvL.nil ⟨by simp, EvL.nil <| CallP.append .head (by unfold laidW; rw [List.length_map, List.length_map, List.length_range]; walk_at "zo") ⟨rfl, ?_⟩⟩⟩
            have hov : ovl (Wf W h) (Wf W (nxL L h)) ≤ (Wf W h).length := Nat.le_of_lt (ovl_ok (wne h) (wne _)).1
            have hcut : pySl (Wf W h) none (some (((Wf W h).length : Int) - (ovl (Wf W h) (Wf W (nxL L h)) : Int))) = cutW (Wf W) (nxL L) h := by
              rw [show (((Wf W h).length : Int) - (ovl (Wf W h) (Wf W (nxL L h)) : Int)) = (((Wf W h).length - ovl (Wf W h) (Wf W (nxL L h)) : Nat) : Int) by walk_at "zo", take_word (by walk_at "zo")]; rfl
            have hcl : (cutW (Wf W) (nxL L) h).length ≤ 5 := by unfold cutW; rw [List.length_take]; walk_at "zo"
            refine Ex.cons <| Ex1.aug (p := .str (ringW (Wf W) (nxL L) is)) (by walk_at "zm") <| Ev.slice <| Ev.name (by walk_at "zm") <| Ev.binop <| Ev.call (by walk_at "zm") <| EvL.cons <| Ev.name (by walk_at "zm") <| EvL.nil <| CallP.lenS (by walk_at "zo") <| Ev.sub <| Ev.sub <| Ev.name (by walk_at "zm") <| Ev.meth <| Ev.str ⟨_, _, MethP.str F.slot_str_index F.type_str_index, EvL.cons <| Ev.name (by walk_at "zm") <| EvL.nil <| CallP.weak (.cons .refl (.cons Le.strB .nil)) <| CallP.index ho1 <| Op2.itemL (p := rowW W (Wf W h)) (by walk_at "zo") (by rw [List.length_map]; walk_at "zo") (by rw [List.length_map]; walk_at "zo") (by rw [hix, List.getElem?_map, hww h hh4]; rfl) <| Ev.meth <| Ev.str ⟨_, _, MethP.str F.slot_str_index F.type_str_index, EvL.cons <| Ev.name (by walk_at "zm") <| EvL.nil <| CallP.weak (.cons .refl (.cons Le.strB .nil)) <| CallP.index ho2 <| Op2.itemL (p := .int (ovl (Wf W h) (Wf W (nxL L h)))) (by walk_at "zo") (by rw [List.length_map, List.length_map]; walk_at "zo") (by rw [List.length_map, List.length_map]; walk_at "zo") (by rw [hix, List.getElem?_map, List.getElem?_map, hww _ hn4]; rfl) <| Op2.sub ⟨_, rfl, SliceP.str (by walk_at "zo") ?_⟩⟩⟩
            rw [hcut]
            refine Op2.iaddS (by walk_at "zo") <| storeC_con (by walk_at "zm") (by walk_at "zs") ?_
            refine Ex.cons <| Ex1.asg <| Ev.name (by walk_at "zm") <| As.name (by walk_at "zm") (by walk_at "zs") ?_
            have elaid : (laidW (Wf W) (nxL L) is).map laP ++ [.tup [.int ((ringW (Wf W) (nxL L) is).length : Int), .str (Wf W h)]] = (laidW (Wf W) (nxL L) (is ++ [h])).map laP := by rw [laidW_snoc, List.map_append]; rfl
            rw [elaid, ← ringW_snoc]
            exact Ex.nil ⟨4 - (is.length + 1), by walk_at "zo", is ++ [h], nxL L h, by rw [List.length_append]; rfl, P.step hTc hin, rfl, by unfold frR; walk_at "zb"⟩
        · exact ⟨[], i0, rfl, ⟨.nil, (fun _ h => nomatch h), hi0m, (fun t ht => nomatch ht), fun h => absurd rfl h⟩, rfl, by unfold frR; rw [show leftT T [] = T from List.filter_eq_self.mpr fun _ _ => rfl, show ringW (Wf W) (nxL L) [] = cs "" by rw [show cs "" = [] by decide]; rfl]; walk_at "zb"⟩
    · exact ⟨List.range 4, rfl, .refl _, fun i hi => List.mem_range.mpr (hL.lt (List.mem_range.mp hi)), rfl, by unfold frR; walk_at "zb"⟩
end Mine.Tactic
end
section
open PySem PySem.W PyProof.Rows PySem.Calls
set_option Elab.async false
set_option maxRecDepth 100000
namespace Mine.Tactic

theorem FnSpec.framed {C : Cx} {n : Nat} {f : PV} {ps : List PV} {kw : List (String × PV)} {R : PV → Prop} (φ : Led) (h : FnSpec C n f ps kw [] (fun r _ => R r)) : FnSpec C n f ps kw φ (fun r σ' => R r ∧ σ' = φ) := fun A bs im s fv vs kvs hA hS hf hv hk => by
  let bs' : PM := bs.over (fun b => b ∈ φ.map (·.1)) s.heap
  have sub := PM.over_sub (F := fun b => b ∈ φ.map (·.1)) hS.hbs
  have hS' : StL C bs' im s [] := ⟨hS.os, hS.gens, fun a o e => sub a o (hS.cb a o e), fun b o e => by
    have e' : (if b ∈ φ.map (·.1) then s.heap.get? b else bs.f b) = some o := e
    split at e'
    · exact e'
    · exact hS.hbs b o e', hS.him, (fun _ h => nomatch h), .nil, hS.gok, hS.tk⟩
  obtain ⟨a, b⟩ := h A bs' im s fv vs kvs hA hS' hf hv hk
  refine ⟨a, codeAny_mono b fun _ s' hqx => ?_⟩
  obtain ⟨v, e, im', p, σ', x, y, z, q⟩ := hqx
  have hov : ∀ p ∈ φ, ∀ o, s.heap.get? p.1 = some o → bs'.f p.1 = some o := fun p hp o ho => by
    show (if p.1 ∈ φ.map (·.1) then s.heap.get? p.1 else bs.f p.1) = some o
    rw [if_pos (List.mem_map_of_mem hp)]; exact ho
  refine ⟨v, e, im', p, φ, x.under sub, y, ⟨z.os, z.gens, hS.cb, fun b o e => z.hbs b o (sub b o e), z.him, fun p hp => ?_, hS.nd, z.gok, z.tk⟩, q, rfl⟩
  obtain ⟨l1, l2, l3⟩ := hS.led p hp
  obtain ⟨o, ho⟩ := l1.some
  refine ⟨(l1.at fun o ho => z.hbs _ o (hov p hp o ho)).mono x.1, l2, ?_⟩
  cases q : im'.f p.1 with
  | none => rfl
  | some w =>
    rcases x.2 p.1 (by rw [q]; simp) with h | h
    · exact absurd l3 h
    · rw [hov p hp o ho] at h; cases h
noncomputable def nums4 (l : List Int) : List Int := ((l.take 4 ++ [83, 43, 54, 14]).take 4).map (· % 128)
theorem nums4_len (l : List Int) : (nums4 l).length = 4 := by unfold nums4; rw [List.length_map, List.length_take, List.length_append]; show min 4 (_ + 4) = 4; walk_at "zo"
noncomputable def wordN (x : Int) : List Nat := (List.range (2 + (x % 4).toNat)).map fun k => if x / 4 / 2 ^ k % 2 = 1 then 45 else 46
noncomputable def wordsP (l : List Int) : List (List Nat) := (nums4 l).map wordN
theorem words_ok (l : List Int) : WdsOk (wordsP l) := by
  have hl : ∀ x : Int, (wordN x).length = 2 + (x % 4).toNat := fun x => by unfold wordN; rw [List.length_map, List.length_range]
  refine ⟨by unfold wordsP; rw [List.length_map, nums4_len], fun w hw => ?_, fun w hw => ?_, fun w hw c hc => ?_⟩
  · obtain ⟨x, _, rfl⟩ := List.mem_map.mp hw
    rw [hl]; walk_at "zo"
  · obtain ⟨x, _, rfl⟩ := List.mem_map.mp hw
    rw [hl]; walk_at "zo"
  · obtain ⟨x, _, rfl⟩ := List.mem_map.mp hw
    unfold wordN at hc
    obtain ⟨k, _, rfl⟩ := List.mem_map.mp hc
    split
    · exact .inl rfl
    · exact .inr rfl
theorem sW_monge {W : List (List Nat)} (hW : WdsOk W) : Monge (sW W) := by
  have h4 := hW.len
  have hne : ∀ i, i < 4 → W.getD i [] ≠ [] := fun i hi e => by
    rw [List.getD_eq_getElem?_getD, List.getElem?_eq_getElem (by walk_at "zo")] at e
    have := hW.lo W[i] (List.getElem_mem _)
    rw [show W[i] = [] from e] at this; simp at this
  exact ⟨fun i j i' j' hp hq h1 h2 => ovl_monge (hne i hp.1) (hne j hp.2) (hne i' hq.1) (hne j' hq.2) h1 h2⟩
noncomputable abbrev nsLL : Names := [("script", .local), ("numbers", .local), ("words", .local), ("shares", .local), ("links", .local), ("gains", .cell)]
noncomputable abbrev glLL : Rho := [("_law_shares", .ref aG__law_shares), ("_law_linked", .ref aG__law_linked), ("len", .con (.builtin "len")), ("range", .con (.type "range")), ("_law_best", .ref aG__law_best), ("_law_stand", .ref aG__law_stand)]
set_option maxHeartbeats 16000000 in
theorem law_spec {C : Cx} {p : Params} {n : Nat} {cN cV : Array Nat} {es : List DictEntry} (K : HdrK C p cN cV) (O : NamesOk cN cV isL4 isW4 lowL) (T : TrK C p es) (hD : ∀ c, InDH c → PlainC es c) (HK : HeapK C p) (hd : C.K.lookup aD___init__ = some (tupO [.none] 0)) (hd2 : C.K.lookup aD_get = some (tupO [.none] 0))
    (hf : FnAt C aG_law (fdOf p aG_law)) (hf1 : FnAt C aG__law_signs (fdOf p aG__law_signs)) (hf2 : FnAt C aG__law_takes (fdOf p aG__law_takes)) (hf3 : FnAt C aG__law_shares (fdOf p aG__law_shares)) (hf4 : FnAt C aG__law_linked (fdOf p aG__law_linked)) (hf5 : FnAt C aG__law_best (fdOf p aG__law_best)) (hf6 : FnAt C aG__law_stand (fdOf p aG__law_stand))
    (hg : Sub glLL C.gl) (g1 : Sub glSH C.gl) (g2 : Sub glS2 C.gl) (g3 : Sub [("zip", .con (.type "zip")), ("len", .con (.builtin "len"))] C.gl) (g4 : Sub glLK C.gl) (g5 : Sub [("max", .con (.builtin "max")), ("range", .con (.type "range")), ("min", .con (.builtin "min")), ("len", .con (.builtin "len")), ("sorted", .con (.builtin "sorted")), ("sum", .con (.builtin "sum"))] C.gl)
    {l : List Int} (hl : l.length ≤ 1000) :
    FnSpec C (n + 5) (.ref aG_law) [.lst (l.map .int)] [] [] (fun r _ => r = .bool true) := by
  refine FnSpec.of (body := ?bd) ["script"] [.lst (l.map .int)] nsLL ["gains"] glLL (sc := ?sc) hf ?hb ?hsc ?hgl ?hbi ?hcl ?hok hg rfl ?_ ?_
  case hb => with_unfolding_all rfl
  case hsc => with_unfolding_all rfl
  case hgl => with_unfolding_all rfl
  case hbi => with_unfolding_all rfl
  case hcl => with_unfolding_all rfl
  case hok => kernel_rfl
  · intro im s vs kvs hk hv hkw
    obtain ⟨v, rfl, h1⟩ := one_v hv
    have : kvs = [] := by have := hkw.1; simpa using this
    subst this
    have e : bindArgs (fdOf p aG_law) ⟨[v], []⟩ = pure ((["script"].map Str.ofString).zip [v]) := by kernel_rfl
    refine ⟨[v], hv, ?_⟩
    intro M A E Q h
    rw [e]
    exact wpAny_pure h
  · intro env κ
    show Ex _ _ [("_law_shares", .ref aG__law_shares), ("_law_linked", .ref aG__law_linked), ("len", .con (.builtin "len")), ("range", .con (.type "range")), ("_law_best", .ref aG__law_best), ("_law_stand", .ref aG__law_stand), ("script", .lst (l.map .int))] _ _
    have gR : Sub [("range", .con (.type "range"))] C.gl := hg.in (by walk_at "zb")
    have gS : Sub [("sum", .con (.builtin "sum"))] C.gl := g5.in (by walk_at "zb")
    have gL : Sub [("len", .con (.builtin "len"))] C.gl := hg.in (by walk_at "zb")
    have s1 : pySl (l.map PV.int) none (some (4 : Int)) = (l.take 4).map PV.int := by
      unfold pySl
      show (List.drop 0 _).take ((clampI (l.map PV.int).length (l.map PV.int).length (some 4)) - 0) = _
      rw [List.drop_zero, List.length_map, List.map_take]
      show (l.map PV.int).take (min 4 l.length - 0) = _
      rw [Nat.sub_zero, ← List.length_map (f := PV.int), List.take_eq_take_iff]; walk_at "zo"
    have s2 : pySl ((l.take 4).map PV.int ++ [PV.int 83, PV.int 43, PV.int 54, PV.int 14]) none (some (4 : Int)) = ((l.take 4 ++ [83, 43, 54, 14]).take 4).map .int := by
      have e : (l.take 4).map PV.int ++ [PV.int 83, PV.int 43, PV.int 54, PV.int 14] = (l.take 4 ++ [83, 43, 54, 14]).map PV.int := by rw [List.map_append]; rfl
      rw [e]
      unfold pySl
      show (List.drop 0 _).take ((clampI _ _ (some 4)) - 0) = _
      rw [List.drop_zero, List.map_take]
      congr 1
      rw [List.length_map, List.length_append]
      show min 4 (_ + 4) - 0 = 4
      walk_at "zo"
    refine Ex.cons <| Ex1.asgComp (hy := ?hy) (hsw := ?hsw) (hsc := ?hsc) <| Ev.slice <| Ev.binop <| Ev.slice <| Ev.name (by walk_at "zm") <| Ev.int ⟨_, rfl, SliceP.lst (by rw [List.length_map]; walk_at "zo") ?_⟩
    case hy => walk_at "zm"
    case hsw => kernel_rfl
    case hsc => kernel_rfl
    rw [s1]
    refine Ev.list <| EvL.cons <| Ev.int <| EvL.cons <| Ev.int <| EvL.cons <| Ev.int <| EvL.cons <| Ev.int <| EvL.nil ⟨by simp, CallP.addL (by rw [List.length_map, List.length_take]; show _ + 4 ≤ _; walk_at "zo") ?_⟩
    refine Ev.int ⟨_, rfl, SliceP.lst (by rw [List.length_append, List.length_map, List.length_take]; show _ + 4 ≤ _; walk_at "zo") ?_⟩
    rw [s2]
    have h4' : ((l.take 4 ++ [83, 43, 54, 14]).take 4).length = 4 := by have := nums4_len l; unfold nums4 at this; rwa [List.length_map] at this
    refine ⟨[], [], [], _, [("x", .local)], [], [], [], ItSrc.lst, fun _ h => h, .inr rfl, List.nodup_nil, ?hck, (fun _ h => nomatch h), (fun _ h => nomatch h), ?_⟩
    case hck => kernel_rfl
    intro env1 κ1
    refine compItems.fa (compInner_mono _) [] (fun x : Int => .int x) (fun x => [.int (x % 128)]) 1000 ((l.take 4 ++ [83, 43, 54, 14]).take 4) [] _ ?_ Sub.nil ?_ ?_
    · intro x hx acc ρ hacc hs'
      refine Con.rho2 [] hs' ?_
      refine As.name (by walk_at "zm") (by walk_at "zs") ?_
      show compInner _ _ _ _ _ _ _
      exact Ev.binop <| Ev.name (by walk_at "zm") <| Ev.int <| Op2.fmod (by decide) ⟨by walk_at "zo", rfl, rfl, Sub.nil⟩
    · rw [flat_one, List.nil_append, List.length_map]; walk_at "zo"
    intro ρ1 _
    rw [flat_one, List.nil_append]
    have en : ((l.take 4 ++ [83, 43, 54, 14]).take 4).map (fun x => PV.int (x % 128)) = (nums4 l).map .int := by unfold nums4; rw [List.map_map]; rfl
    rw [en]
    intro _
    refine As.name (by walk_at "zm") (by walk_at "zs") ?_
    have hn4 := nums4_len l
    refine Ex.cons <| Ex1.asgComp (hy := ?hy) (hsw := ?hsw) (hsc := ?hsc) <| Ev.name (by walk_at "zm") ⟨[], [], [], _, [("x", .cell)], ["x"], [], [("range", .con (.type "range"))], ItSrc.lst, fun _ h => h, .inr rfl, List.nodup_nil, ?hck, (fun _ h => nomatch h), ?hrg, ?_⟩
    case hy => walk_at "zm"
    case hsw => kernel_rfl
    case hsc => kernel_rfl
    case hck => kernel_rfl
    case hrg => exact gR
    intro env1 κ1
    refine compItems.fa (compInner_mono _) [("range", .con (.type "range"))] (fun x : Int => .int x) (fun x => [.str (wordN x)]) 1000 (nums4 l) [] _ ?_ (by walk_at "zb") ?_ ?_
    · intro x hx acc ρ hacc hs'
      obtain ⟨y, _, hxy⟩ := List.mem_map.mp hx
      have hx0 : 0 ≤ x := by walk_at "zo"
      refine Con.rho2 ["range"] hs' ?_
      refine As.nameC (by walk_at "zm") (by walk_at "zs") ?_
      show compInner _ _ _ _ _ _ _
      refine Ev.meth <| Ev.str ⟨_, _, MethP.str F.slot_str_join F.type_str_join, EvL.cons <| Ev.comp (hsc := ?hsc) <| Ev.call (by walk_at "zm") <| EvL.cons <| Ev.binop <| Ev.int <| Ev.binop <| Ev.name (by walk_at "zm") <| Ev.int <| Op2.fmod (by decide) <| Op2.add <| EvL.nil <| CallP.range1 ⟨[], [], [], _, [("k", .local)], [], [("x", .int x)], [], ItSrc.rng (n := 2 + (x % 4).toNat) (small1 (by walk_at "zo") (by walk_at "zo") (by walk_at "zo") (by walk_at "zo")) (rangeSizeN (by walk_at "zo")), fun _ h => h, .inr rfl, List.nodup_nil, ?hck, ?hrc, (fun _ h => nomatch h), ?_⟩⟩
      case hsc => kernel_rfl
      case hck => kernel_rfl
      case hrc => walk_at "zb"
      intro env2 κ2
      refine compItems.fa (compInner_mono _) [("x", .int x)] (fun k : Nat => .int (0 + k * 1)) (fun k => [.str [if x / 4 / 2 ^ k % 2 = 1 then 45 else 46]]) 1000 (List.range (2 + (x % 4).toNat)) [] _ ?_ (by walk_at "zb") ?_ ?_
      · intro k hk acc2 ρ2 hacc2 hs2
        have hk := List.mem_range.mp hk
        refine Con.rho2 ["x"] hs2 ?_
        rw [show (0 + (k : Int) * 1) = (k : Int) by walk_at "zo"]
        refine As.name (by walk_at "zm") (by walk_at "zs") ?_
        show compInner _ _ _ _ _ _ _
        refine Ev.sub <| Ev.str <| Ev.binop <| Ev.binop <| Ev.binop <| Ev.name (by walk_at "zm") <| Ev.int <| Op2.fdiv (by decide) (by decide) <| Ev.binop <| Ev.int <| Ev.name (by walk_at "zm") <| Op2.pow (by walk_at "zo") ?_ <| Op2.fdiv ?_ ?_ <| Ev.int <| Op2.fmod (by decide) ?_
        · exact of_below (p := fun k : Nat => ((Builtin.Int.intBits 2 : Nat) : Int) * (k : Int) ≤ 2 ^ 27) (show k < 6 by walk_at "zo") (by decide)
        · exact Int.pow_pos (by decide)
        · rw [Int.toNat_natCast]
          exact of_below (p := fun k : Nat => (2 : Int) ^ k < 1073741824) (show k < 6 by walk_at "zo") (by decide)
        rw [Int.toNat_natCast]
        generalize hv : x / 4 / 2 ^ k % 2 = v
        have hv01 : v = 0 ∨ v = 1 := by walk_at "zo"
        refine Op2.itemS (c := if v = 1 then 45 else 46) (by walk_at "zo") (by rw [show (cs ".-").length = 2 by decide]; walk_at "zo") (by decide) ?_ ⟨by walk_at "zo", rfl, rfl, by walk_at "zb"⟩
        rcases hv01 with rfl | rfl <;> decide
      · rw [flat_one, List.nil_append, List.length_map, List.length_range]; walk_at "zo"
      intro ρ2 _
      rw [flat_one, List.nil_append]
      have ew : (List.range (2 + (x % 4).toNat)).map (fun k => PV.str [if x / 4 / 2 ^ k % 2 = 1 then 45 else 46]) = ((wordN x).map fun c => [c]).map .str := by unfold wordN; rw [List.map_map, List.map_map]; rfl
      have hwl : (wordN x).length ≤ 5 := by unfold wordN; rw [List.length_map, List.length_range]; walk_at "zo"
      rw [ew]
      refine EvL.nil <| CallP.joinL (ls := (wordN x).map fun c => [c]) rfl (by rw [← List.length_flatten, flat_signs, show (cs "").length = 0 by decide]; walk_at "zo") ?_
      rw [pyJoin_flat, flat_signs]
      exact ⟨by walk_at "zo", rfl, rfl, by walk_at "zb"⟩
    · rw [flat_one, List.nil_append, List.length_map]; walk_at "zo"
    intro ρ1 _
    rw [flat_one, List.nil_append]
    have ewd : (nums4 l).map (fun x => PV.str (wordN x)) = (wordsP l).map .str := by unfold wordsP; rw [List.map_map]; rfl
    rw [ewd]
    intro _
    refine As.name (by walk_at "zm") (by walk_at "zs") ?_
    have hW := words_ok l
    generalize wordsP l = W at hW ⊢
    refine Ex.cons <| Ex1.asg <| Ev.call (by walk_at "zm") <| EvL.cons <| Ev.name (by walk_at "zm") <| EvL.nil <| CallP.of (φ := []) (shares_spec (n := n) T hD hf3 hf1 hf2 g1 g2 g3 hW) (fun _ h => h) (.inr rfl) ?_
    rintro r σ' ⟨rfl, rfl⟩
    refine As.name (by walk_at "zm") (by walk_at "zs") ?_
    refine Ex.cons <| Ex1.asgTup (hw := fun _ _ _ _ => by rfl) <| Ev.call (by walk_at "zm") <| EvL.cons <| Ev.name (by walk_at "zm") <| EvL.nil <| CallP.of (φ := []) (linked_spec (n := n) K O HK hd hd2 hf4 g4 hW) (fun _ h => h) (.inr rfl) ?_
    rintro r σ' ⟨A, D, L, rfl, rfl, hG, hL4⟩
    have hLf : FullL L := ⟨hG.in4, by have := hG.part (P := []) ⟨.nil, .nil⟩; rwa [List.nil_append] at this, hL4⟩
    refine As.tup (ps := [hdO D, .ref A]) (As.name (by walk_at "zm") (by walk_at "zs") <| As.nameC (by walk_at "zm") (by walk_at "zs") ?_) rfl rfl
    show Ex _ _ _ [(A, .list ((L.map fun q => (sW W q : Int)).map .int)), (D, .list ((L.map hdrL).map hdrP))] _
    have hgl : ((L.map fun q => (sW W q : Int)).map PV.int).length = 4 := by rw [List.length_map, List.length_map, hL4]
    refine Ex.cons <| Ex1.if <| Ts.bool <| TsAll.or <| Ts.compare <| Ev.call (by walk_at "zm") <| EvL.cons <| Ev.name (by walk_at "zm") <| EvL.nil <| CallP.lenM (by walk_at "zm") (by walk_at "zo") <| Ev.int <| Op2.ne <| TrueOf.bool ?_
    rw [hgl]
    show TsAll _ _ _ _ _ _
    refine TsAll.or <| Ts.compare <| Ev.comp (hsc := ?hsc) <| Ev.call (by walk_at "zm") <| EvL.cons <| Ev.int <| EvL.cons <| Ev.int <| EvL.nil <| CallP.range2 ⟨[], [], [(A, .list ((L.map fun q => (sW W q : Int)).map .int)), (D, .list ((L.map hdrL).map hdrP))], _, [("k", .local)], [], [("gains", .ref A)], [("sum", .con (.builtin "sum"))], ItSrc.rng (n := 4) (by decide) (by decide), fun _ h => h, .inr rfl, List.nodup_nil, ?hck, ?hrc, ?hrg, ?_⟩
    case hsc => kernel_rfl
    case hck => kernel_rfl
    case hrc => walk_at "zb"
    case hrg => exact gS
    intro env3 κ3
    refine compItems.fa (compInner_mono _) [("gains", .ref A), ("sum", .con (.builtin "sum"))] (fun k : Nat => .int (1 + k * 1)) (fun k => [.int ((((L.map (sW W)).take (k + 1)).sum : Nat) : Int)]) 1000 (List.range 4) [] _ ?_ (by walk_at "zb") ?_ ?_
    · intro k hk acc ρ hacc hs'
      refine Con.rho2 ["gains", "sum"] hs' ?_
      rw [show (1 + (k : Int) * 1) = ((k + 1 : Nat) : Int) by walk_at "zo"]
      refine As.name (by walk_at "zm") (by walk_at "zs") ?_
      show compInner _ _ _ _ _ _ _
      refine Ev.call (by walk_at "zm") <| EvL.cons <| Ev.slice <| Ev.name (by walk_at "zm") <| Ev.name (by walk_at "zm") ⟨_, rfl, SliceP.led (by walk_at "zm") (by walk_at "zo") ?_⟩
      have et : (L.map fun q => (sW W q : Int)).map PV.int = ((L.map (sW W)).map fun n : Nat => (n : Int)).map .int := by rw [List.map_map, List.map_map, List.map_map]; rfl
      have et2 : pySl ((L.map fun q => (sW W q : Int)).map PV.int) none (some ((k + 1 : Nat) : Int)) = (((L.map (sW W)).take (k + 1)).map fun n : Nat => (n : Int)).map .int := by rw [et, take_ints]
      rw [et2]
      refine EvL.nil <| CallP.sumL ?_
      rw [sum_cast]
      exact ⟨by walk_at "zo", rfl, rfl, by walk_at "zb"⟩
    · rw [flat_one, List.nil_append, List.length_map, List.length_range]; walk_at "zo"
    intro ρ3 _
    rw [flat_one, List.nil_append]
    refine Ev.call (by walk_at "zm") <| EvL.cons <| Ev.name (by walk_at "zm") <| EvL.nil <| CallP.of (φ := [(A, .list ((L.map fun q => (sW W q : Int)).map .int)), (D, .list ((L.map hdrL).map hdrP))]) ((best_spec (n := n) hf5 gR g5 hW).more (by show n + 1 ≤ n + 4; walk_at "zo")) (by simp) (.inr (by simp)) ?_
    rintro r σ' ⟨rfl, rfl⟩
    have eg : (List.range 4).map (fun k => PV.int ((((L.map (sW W)).take (k + 1)).sum : Nat) : Int)) = ((List.range 4).map fun i => (bestN (sW W) (i + 1) : Int)).map .int := by
      rw [List.map_map]
      exact List.map_congr_left fun k hk => by
        have hk := List.mem_range.mp hk
        show PV.int _ = PV.int ((bestN (sW W) (k + 1) : Nat) : Int)
        rw [best_ok (sW_monge hW) hG hL4 (k := k + 1) (by walk_at "zo")]
    rw [eg]
    refine Op2.neLV (EqVs.ints rfl) <| TrueOf.bool ?_
    rw [beq_self_eq_true]
    show TsAll _ _ _ _ _ _
    refine TsAll.nilOr ?_
    show Ex _ _ _ [(A, .list ((L.map fun q => (sW W q : Int)).map .int)), (D, .list ((L.map hdrL).map hdrP))] _
    refine Ex.nil ?_
    refine Ex.cons <| Ex1.ret <| Ev.call (by walk_at "zm") <| EvL.cons <| Ev.name (by walk_at "zm") <| EvL.cons <| Ev.name (by walk_at "zm") <| EvL.cons <| Ev.name (by walk_at "zm") <| EvL.nil <| CallP.of (φ := [(A, .list ((L.map fun q => (sW W q : Int)).map .int))]) ((stand_spec (n := n) K O hd2 hf6 gL hW hLf (D := D)).more (by show n + 3 ≤ n + 4; walk_at "zo")) (fun _ h => h) (.inr rfl) ?_
    rintro r σ' ⟨rfl, rfl⟩
    rfl
end Mine.Tactic
end
section
open PySem PySem.W PyProof.Rows PySem.Calls Builtin Builtin.Re
set_option Elab.async false
set_option maxRecDepth 100000
namespace Mine.Tactic
noncomputable abbrev glAll : Rho := [("type", .con (.type "type")), ("str", .con (.type "str")), ("list", .con (.type "list")), ("_name_disallowed_re", .con (.ref aG__name_disallowed_re)), ("_value_disallowed_re", .con (.ref aG__value_disallowed_re)), ("_siftup", .ref aG__siftup), ("_siftdown", .ref aG__siftdown), ("len", .con (.builtin "len")), ("range", .con (.type "range")), ("reversed", .con (.type "reversed")), ("isinstance", .con (.builtin "isinstance")), ("_special_chars_map", .con (.ref aG__special_chars_map)), ("escape", .ref aG_escape), ("object", .con (.type "object")), ("_translate", .ref aG__translate), ("_join_translated_parts", .ref aG__join_translated_parts), ("heapify", .ref aG_heapify), ("heappop", .ref aG_heappop), ("Headers", .ref aG_Headers), ("translate", .ref aG_translate), ("sorted", .con (.builtin "sorted")), ("min", .con (.builtin "min")), ("max", .con (.builtin "max")), ("sum", .con (.builtin "sum")), ("zip", .con (.type "zip")), ("_law_signs", .ref aG__law_signs), ("_law_takes", .ref aG__law_takes), ("_law_shares", .ref aG__law_shares), ("_law_linked", .ref aG__law_linked), ("_law_best", .ref aG__law_best), ("_law_stand", .ref aG__law_stand)]
noncomputable abbrev KK (oB oS oM : Obj) (p : Params) : Frag := (0, oB) :: (2, oS) :: (4, oM) :: Kp p
section
variable {p : Params} {oB oS oM : Obj} {C : Cx} {mg mb : Str → Option Value}
theorem glAll_ok (hK : C.K = KK oB oS oM p) (T : TopC C.K mg mb) : ∀ q ∈ glAll, GlobP C q.1 q.2 := by
  have k : ∀ {x : String} {q : PV} {v : Value}, nsIn (KK oB oS oM p) mainGlobals (Str.ofString x) = some (some v) → (∀ im, VR im q v) → plainB (Str.ofString x) = true → GlobP C x q := fun e => GlobP.K T (hK ▸ e)
  have b : ∀ {x : String} {q : PV} {v : Value}, nsIn (KK oB oS oM p) mainGlobals (Str.ofString x) = some none → bootBuiltins (Str.ofString x) = some v → (∀ im, VR im q v) → (plainB (Str.ofString x) && Str.ofString x != Str.ofString "__name__") = true → GlobP C x q := fun e => GlobP.B T (hK ▸ e)
  simp only [List.forall_mem_cons]
  refine ⟨?_, ?_, ?_, ?_, ?_, ?_, ?_, ?_, ?_, ?_, ?_, ?_, ?_, ?_, ?_, ?_, ?_, ?_, ?_, ?_, ?_, ?_, ?_, ?_, ?_, ?_, ?_, ?_, ?_, ?_, ?_, fun _ h => nomatch h⟩
  · exact b (by kernel_rfl) (by kernel_rfl) (fun _ => VR.con) (by decide +kernel)
  · exact b (by kernel_rfl) (by kernel_rfl) (fun _ => VR.con) (by decide +kernel)
  · exact b (by kernel_rfl) (by kernel_rfl) (fun _ => VR.con) (by decide +kernel)
  · exact k (by kernel_rfl) (fun _ => VR.con) (by decide +kernel)
  · exact k (by kernel_rfl) (fun _ => VR.con) (by decide +kernel)
  · exact k (by kernel_rfl) (fun _ => VR.ref) (by decide +kernel)
  · exact k (by kernel_rfl) (fun _ => VR.ref) (by decide +kernel)
  · exact b (by kernel_rfl) (by kernel_rfl) (fun _ => VR.con) (by decide +kernel)
  · exact b (by kernel_rfl) (by kernel_rfl) (fun _ => VR.con) (by decide +kernel)
  · exact b (by kernel_rfl) (by kernel_rfl) (fun _ => VR.con) (by decide +kernel)
  · exact b (by kernel_rfl) (by kernel_rfl) (fun _ => VR.con) (by decide +kernel)
  · exact k (by kernel_rfl) (fun _ => VR.con) (by decide +kernel)
  · exact k (by kernel_rfl) (fun _ => VR.ref) (by decide +kernel)
  · exact b (by kernel_rfl) (by kernel_rfl) (fun _ => VR.con) (by decide +kernel)
  · exact k (by kernel_rfl) (fun _ => VR.ref) (by decide +kernel)
  · exact k (by kernel_rfl) (fun _ => VR.ref) (by decide +kernel)
  · exact k (by kernel_rfl) (fun _ => VR.ref) (by decide +kernel)
  · exact k (by kernel_rfl) (fun _ => VR.ref) (by decide +kernel)
  · exact k (by kernel_rfl) (fun _ => VR.ref) (by decide +kernel)
  · exact k (by kernel_rfl) (fun _ => VR.ref) (by decide +kernel)
  · exact b (by kernel_rfl) (by kernel_rfl) (fun _ => VR.con) (by decide +kernel)
  · exact b (by kernel_rfl) (by kernel_rfl) (fun _ => VR.con) (by decide +kernel)
  · exact b (by kernel_rfl) (by kernel_rfl) (fun _ => VR.con) (by decide +kernel)
  · exact b (by kernel_rfl) (by kernel_rfl) (fun _ => VR.con) (by decide +kernel)
  · exact b (by kernel_rfl) (by kernel_rfl) (fun _ => VR.con) (by decide +kernel)
  · exact k (by kernel_rfl) (fun _ => VR.ref) (by decide +kernel)
  · exact k (by kernel_rfl) (fun _ => VR.ref) (by decide +kernel)
  · exact k (by kernel_rfl) (fun _ => VR.ref) (by decide +kernel)
  · exact k (by kernel_rfl) (fun _ => VR.ref) (by decide +kernel)
  · exact k (by kernel_rfl) (fun _ => VR.ref) (by decide +kernel)
  · exact k (by kernel_rfl) (fun _ => VR.ref) (by decide +kernel)
theorem fnAll (hK : C.K = KK oB oS oM p) (T : TopC C.K mg mb) {a : Addr} (e : fdAt (KK oB oS oM p) a = some (fdOf p a)) (c : codeIn (KK oB oS oM p) (fdOf p a).code (fdOf p a).qualname = true) : FnAt C a (fdOf p a) := FnAt.K T (hK ▸ e) (hK ▸ c)
set_option maxHeartbeats 8000000 in
theorem hdrAll (hK : C.K = KK oB oS oM p) (T : TopC C.K mg mb) (hg : Sub glAll C.gl) : HdrK C p (reCode C.K aG__name_disallowed_re) (reCode C.K aG__value_disallowed_re) := by
  have fn := @fnAll p oB oS oM C mg mb hK T
  constructor
  · rw [hK]; exact clsOk_iff (by kernel_rfl)
  · rw [hK]; kernel_rfl
  · rw [hK]; kernel_rfl
  · rw [hK]; kernel_rfl
  · rw [hK]; kernel_rfl
  · rw [hK]; kernel_rfl
  · rw [hK]; kernel_rfl
  · rw [hK]; kernel_rfl
  · rw [hK]; kernel_rfl
  · rw [hK]; kernel_rfl
  · rw [hK]; kernel_rfl
  · rw [hK]; kernel_rfl
  · rw [hK]; kernel_rfl
  · rw [hK]; kernel_rfl
  · exact .of (by rw [hK]; kernel_rfl)
  · exact .of (by rw [hK]; kernel_rfl)
  · exact fn (by kernel_rfl) (by kernel_rfl)
  · exact fn (by kernel_rfl) (by kernel_rfl)
  · exact fn (by kernel_rfl) (by kernel_rfl)
  · exact fn (by kernel_rfl) (by kernel_rfl)
  · exact fn (by kernel_rfl) (by kernel_rfl)
  · exact .cons (hg _ (by walk_at "zm")) (.cons (hg _ (by walk_at "zm")) (.cons (hg _ (by walk_at "zm")) (.cons (hg _ (by walk_at "zm")) (.cons (hg _ (by walk_at "zm")) .nil))))
theorem heapAll (hK : C.K = KK oB oS oM p) (T : TopC C.K mg mb) (hg : Sub glAll C.gl) : HeapK C p :=
  ⟨fnAll hK T (by kernel_rfl) (by kernel_rfl), fnAll hK T (by kernel_rfl) (by kernel_rfl), fnAll hK T (by kernel_rfl) (by kernel_rfl), fnAll hK T (by kernel_rfl) (by kernel_rfl),
    .cons (hg _ (by walk_at "zm")) (.cons (hg _ (by walk_at "zm")) (.cons (hg _ (by walk_at "zm")) (.cons (hg _ (by walk_at "zm")) (.cons (hg _ (by walk_at "zm")) .nil))))⟩
noncomputable abbrev aC__translate : Addr := 205
noncomputable abbrev aT__translate : Addr := 201
theorem trAll (hK : C.K = KK oB oS oM p) (T : TopC C.K mg mb) (hg : Sub glAll C.gl) : TrK C p (tabEs C.K aG__special_chars_map) :=
  ⟨TabK.of (by rw [hK]; kernel_rfl), by rw [hK]; kernel_rfl, fnAll hK T (by kernel_rfl) (by kernel_rfl), fnAll hK T (by kernel_rfl) (by kernel_rfl), fnAll hK T (by kernel_rfl) (by kernel_rfl), fnAll hK T (by kernel_rfl) (by kernel_rfl),
    .cons (hg _ (by walk_at "zm")) (.cons (hg _ (by walk_at "zm")) (.cons (hg _ (by walk_at "zm")) (.cons (hg _ (by walk_at "zm")) (.cons (hg _ (by walk_at "zm")) (.cons (hg _ (by walk_at "zm")) (.cons (hg _ (by walk_at "zm")) (.cons (hg _ (by walk_at "zm")) .nil)))))))⟩
noncomputable def namesB (cN : Array Nat) (cV : Array Nat) : Bool :=
  ((List.range 4).all fun j => missB cN [112 + j] && missB cN [80 + j]) && (List.range 4).all fun j => missB cV [112 + j]
theorem lower_small : ∀ j, j < 4 → Txt.lower (S [112 + j]) = S [112 + j] := by decide +kernel
theorem lower_great : ∀ j, j < 4 → Txt.lower (S [80 + j]) = S [112 + j] := by decide +kernel
theorem low_small : ∀ j, j < 4 → lowL [112 + j] = [112 + j] := by decide
theorem low_great : ∀ j, j < 4 → lowL [80 + j] = [112 + j] := by decide
theorem one_le (c : Nat) : [c].length ≤ 1000 := by simp
theorem names_of {cN cV : Array Nat} (h : namesB cN cV = true) : NamesOk cN cV isL4 isW4 lowL := by
  unfold namesB at h
  rw [Bool.and_eq_true, List.all_eq_true, List.all_eq_true] at h
  obtain ⟨h1, h2⟩ := h
  refine ⟨fun k hk => ?_, fun v hv => ?_⟩
  · obtain ⟨j, hj, hk⟩ := hk
    have hm := h1 j (List.mem_range.mpr hj)
    rw [Bool.and_eq_true] at hm
    rcases hk with rfl | rfl
    · rw [low_small j hj]
      exact ⟨lower_small j hj, one_le _, one_le _, hm.1, hm.1⟩
    · rw [low_great j hj]
      exact ⟨lower_great j hj, one_le _, one_le _, hm.2, hm.1⟩
  · obtain ⟨j, hj, rfl⟩ := hv
    exact ⟨one_le _, h2 j (List.mem_range.mpr hj)⟩
theorem namesAll (hK : C.K = KK oB oS oM p) : NamesOk (reCode C.K aG__name_disallowed_re) (reCode C.K aG__value_disallowed_re) isL4 isW4 lowL := names_of (by rw [hK]; kernel_rfl)
noncomputable def tabHit (es : List DictEntry) (c : Nat) (r : List Nat) : Bool := match tabFind es (c : Int) with
  | some (.str x _) => x == S r
  | _ => false
theorem tab_of_hit {es : List DictEntry} {c : Nat} {r : List Nat} (h : tabHit es c r = true) : ∃ x t, tabFind es (c : Int) = some (.str x t) ∧ x = S r := by
  unfold tabHit at h
  split at h
  · rename_i x t e; exact ⟨x, t, e, eq_of_beq h⟩
  · cases h
theorem escAll (hK : C.K = KK oB oS oM p) : ∀ c, InDH c → PlainC (tabEs C.K aG__special_chars_map) c := by
  rw [hK]
  intro c hc
  rcases hc with rfl | rfl
  · obtain ⟨x, t, e1, e2⟩ := tab_of_hit (es := tabEs (KK oB oS oM p) aG__special_chars_map) (c := 45) (r := escW 45) (by kernel_rfl)
    exact ⟨by decide, .inr ⟨x, t, e1, e2, by decide⟩, by decide, by decide, by decide⟩
  · obtain ⟨x, t, e1, e2⟩ := tab_of_hit (es := tabEs (KK oB oS oM p) aG__special_chars_map) (c := 46) (r := escW 46) (by kernel_rfl)
    exact ⟨by decide, .inr ⟨x, t, e1, e2, by decide⟩, by decide, by decide, by decide⟩
set_option maxHeartbeats 8000000 in
theorem law_all {n : Nat} (hK : C.K = KK oB oS oM p) (T : TopC C.K mg mb) (hg : Sub glAll C.gl) {l : List Int} (hl : l.length ≤ 1000) :
    FnSpec C (n + 5) (.ref aG_law) [.lst (l.map .int)] [] [(aT__translate, .obj (tabObj #[]))] (fun r σ' => r = .bool true ∧ ∃ (qs : Array Value) (φ : Led), TriplesOk qs.toList ∧ σ' = (aT__translate, .obj (tabObj qs)) :: φ) := by
  have sub : ∀ {r : Rho}, (∀ q ∈ r, q ∈ glAll) → Sub r C.gl := fun h q hq => hg q (h q hq)
  have fn := @fnAll p oB oS oM C mg mb hK T
  refine FnSpec.mono (FnSpec.framed [(aT__translate, .obj (tabObj #[]))] (law_spec (hdrAll hK T hg) (namesAll hK) (trAll hK T hg) (escAll hK) (heapAll hK T hg) (by rw [hK]; kernel_rfl) (by rw [hK]; kernel_rfl) (fn (by kernel_rfl) (by kernel_rfl)) (fn (by kernel_rfl) (by kernel_rfl)) (fn (by kernel_rfl) (by kernel_rfl)) (fn (by kernel_rfl) (by kernel_rfl)) (fn (by kernel_rfl) (by kernel_rfl)) (fn (by kernel_rfl) (by kernel_rfl)) (fn (by kernel_rfl) (by kernel_rfl))
    (sub ?_) (sub ?_) (sub ?_) (sub ?_) (sub ?_) (sub ?_) hl)) (fun r σ' h => ⟨h.1, #[], [], trivial, h.2⟩)
  all_goals
    simp only [List.forall_mem_cons]
    repeat' apply And.intro
    all_goals first
      | exact fun _ h => nomatch h
      | walk_at "zm"
end
end Mine.Tactic
end
open PySem PySem.W PyProof.Rows PySem.Calls
set_option Elab.async false
set_option maxRecDepth 100000
set_option maxHeartbeats 8000000 in
theorem PySem.Challenge.cw_kt0061_02_holds : PySem.Challenge.rw_kt0061_02.Holds :=
  Mine.Tactic.hd (by
  w_strict (
  intro d kwd hdef w s₀ s₁ mg mb G Y fa o pm cd doc dV kV ho hd hcd hD hmg hg args vals as hpre hlay hrd hwl hlo
  have X := km_in_of Y
  have hT8 := km_tabs_of Y
  refine Ground.open G ?_
  intro T B D TE TW
  obtain ⟨oB, oS, oM, TC, XI⟩ := Mine.Tactic.topC_of X T (by kernel_rfl) (by kernel_rfl)
  have hP : s₁.heap.get? Mine.Tactic.aT__translate = some (tabObj #[]) := hT8 Mine.Tactic.aT__translate (.head _)
  have hT : TabsAt [(Mine.Tactic.aC__translate, Mine.Tactic.aT__translate)] s₁.heap := fun q hq => by
    rw [List.mem_singleton.mp hq]
    exact ⟨codeHd_of_K X (by kernel_rfl), hP⟩
  have hfa : fa = Mine.Tactic.aG_law := by
    have e := mg_of (n := Str.ofString "law") (v := .ref Mine.Tactic.aG_law) X T.g (by kernel_rfl)
    have e2 : mg (Str.ofString "law") = some (.ref fa) := by rw [defOf_name hdef] at hmg; exact hmg
    rw [e] at e2
    cases e2; rfl
  subst hfa
  clear hd hD hcd
  wrow_args hpre hlay hrd hwl hlo
  all_goals (
    first | refine callC_kw (enter_call ?_) | refine enter_call ?_
    (rename (Well _ _ _ _) => w1)
    (rename (¬ _) => hc)
    refine kn_post hT (fun _ _ => rfl) ?_
    refine Mine.Tactic.join_lawT (gl := Mine.Tactic.glAll) (n := 5) XI hP (by kernel_rfl) (Mine.Tactic.law_all (n := 0) rfl TC (fun _ h => h) (by walk_at "zo")) (Mine.Tactic.glAll_ok rfl TC) w1 (by decide) ?_
    intro s' hk hgr hos hge
    refine ⟨⟨.inl ⟨_, .bool true, [], rfl, fun _ => rfl, .bool true, by kernel_rfl, unshared_nil⟩, fun b o e => hk b o (fun q => ?_) (of_hideAll _ e), hos, hge.trans hg⟩, hgr, trivial⟩
    subst q
    have e2 := hideAll_none (h := s₁.heap) [Mine.Tactic.aT__translate] (.head _)
    have e3 : (hideAll s₁.heap [Mine.Tactic.aT__translate]).get? Mine.Tactic.aT__translate = some o := e
    rw [e2] at e3; cases e3)))
