import PyProof.Rows.All
import Wide.All
import OpenK.AllK
import Wide.FinOn
import PySem.Challenge.RW_kt0061_01
set_option Elab.async false
set_option linter.all false
set_option compiler.extract_closed false
set_option genInjectivity false
set_option genSizeOfSpec false
local macro_rules | `(tactic| walk_at "zo") => `(tactic| first | assumption | exact Nat.le_refl _ | exact Nat.le_add_right _ _ | exact Nat.le_add_left _ _ | exact Nat.succ_le_of_lt (by assumption) | exact Nat.le_of_lt (by assumption) | exact Nat.le_of_eq (by assumption) | exact (Int.zero_add _).trans (Int.mul_one _) | exact Nat.add_le_add_left (Nat.le_of_ble_eq_true rfl) _ | (apply Nat.le_trans; assumption; exact Nat.le_of_ble_eq_true rfl) | (apply Nat.le_trans; exact Nat.le_of_lt (by assumption); exact Nat.le_of_ble_eq_true rfl) | (apply Nat.le_trans; exact Nat.le_of_eq (by assumption); exact Nat.le_of_ble_eq_true rfl) | (apply Nat.le_trans; exact Nat.le_of_eq (by assumption); apply Nat.le_trans; assumption; exact Nat.le_of_ble_eq_true rfl) | (apply Nat.lt_of_le_of_lt; assumption; exact Nat.le_of_ble_eq_true rfl) | (apply Nat.lt_of_le_of_lt; exact Nat.le_of_eq (by assumption); exact Nat.le_of_ble_eq_true rfl) | lia | omega)
section
open PySem PySem.W PyProof.Rows
set_option Elab.async false
set_option maxRecDepth 100000
namespace Mine.Tactic
noncomputable abbrev pgm : Program := PySem.Challenge.pw_kt0061_01
noncomputable abbrev rowL : OpenRow := PySem.Challenge.rw_kt0061_01.row
noncomputable def topSt (i : Nat) : Stmt := pgm.main.body.getD i (.Pass default)
noncomputable def inCls (i j : Nat) : Stmt := match topSt i with
  | .ClassDef _ _ _ body .. => body.getD j (.Pass default)
  | _ => .Pass default
noncomputable def fnO (st : Stmt) (q : Str) (dv kv pm cd : Value) : Obj := match st with
  | .FunctionDef name args body _ _ _ scope .. => { cls := .type "function", data := .func { name, qualname := q, params := args, body := .stmts body, scope, globals := 3, closure := [], defaults := dv, kwdefaults := kv, pyModule := pm, code := cd } }
  | _ => default
noncomputable def Kp (P : Params) : Frag := [
  (3, { cls := Value.type "dict", data := Data.dict #[{ hash := PyData.keyHash P (Str.ofString "__name__"), key := Value.str (Str.ofString "__name__") 165, val := Value.str (Str.ofString "law_kt0061_01") 835 }, { hash := PyData.keyHash P (Str.ofString "__doc__"), key := Value.str (Str.ofString "__doc__") 166, val := Value.none }, { hash := PyData.keyHash P (Str.ofString "__package__"), key := Value.str (Str.ofString "__package__") 167, val := Value.none }, { hash := PyData.keyHash P (Str.ofString "__loader__"), key := Value.str (Str.ofString "__loader__") 168, val := Value.builtin "__main__.__loader__#opaque" }, { hash := PyData.keyHash P (Str.ofString "__spec__"), key := Value.str (Str.ofString "__spec__") 169, val := Value.none }, { hash := PyData.keyHash P (Str.ofString "__annotations__"), key := Value.str (Str.ofString "__annotations__") 170, val := Value.ref 6 }, { hash := PyData.keyHash P (Str.ofString "__builtins__"), key := Value.str (Str.ofString "__builtins__") 171, val := Value.ref 4 }, { hash := PyData.keyHash P (Str.ofString "__file__"), key := Value.str (Str.ofString "__file__") 173, val := Value.str (Str.ofString "/claim/cut.py") 172 }, { hash := PyData.keyHash P (Str.ofString "__cached__"), key := Value.str (Str.ofString "__cached__") 174, val := Value.none }, { hash := PyData.keyHash P (Str.ofString "_sre"), key := Value.str (Str.ofString "_sre") 275, val := Value.ref 12 }, { hash := PyData.keyHash P (Str.ofString "_wall"), key := Value.str (Str.ofString "_wall") 288, val := Value.ref 38 }, { hash := PyData.keyHash P (Str.ofString "tspecials"), key := Value.str (Str.ofString "tspecials") 324, val := Value.ref 43 }, { hash := PyData.keyHash P (Str.ofString "_name_disallowed_re"), key := Value.str (Str.ofString "_name_disallowed_re") 350, val := Value.ref 48 }, { hash := PyData.keyHash P (Str.ofString "_value_disallowed_re"), key := Value.str (Str.ofString "_value_disallowed_re") 384, val := Value.ref 53 }, { hash := PyData.keyHash P (Str.ofString "_formatparam"), key := Value.str (Str.ofString "_formatparam") 394, val := Value.ref 61 }, { hash := PyData.keyHash P (Str.ofString "Headers"), key := Value.str (Str.ofString "Headers") 551, val := Value.ref 182 }, { hash := PyData.keyHash P (Str.ofString "_twin_re_1"), key := Value.str (Str.ofString "_twin_re_1") 591, val := Value.ref 191 }, { hash := PyData.keyHash P (Str.ofString "translate"), key := Value.str (Str.ofString "translate") 600, val := Value.ref 198 }, { hash := PyData.keyHash P (Str.ofString "_special_chars_map"), key := Value.str (Str.ofString "_special_chars_map") 748, val := Value.ref 200 }, { hash := PyData.keyHash P (Str.ofString "escape"), key := Value.str (Str.ofString "escape") 755, val := Value.ref 210 }, { hash := PyData.keyHash P (Str.ofString "_translate"), key := Value.str (Str.ofString "_translate") 776, val := Value.ref 217 }, { hash := PyData.keyHash P (Str.ofString "_join_translated_parts"), key := Value.str (Str.ofString "_join_translated_parts") 789, val := Value.ref 224 }, { hash := PyData.keyHash P (Str.ofString "heappop"), key := Value.str (Str.ofString "heappop") 800, val := Value.ref 231 }, { hash := PyData.keyHash P (Str.ofString "heapify"), key := Value.str (Str.ofString "heapify") 809, val := Value.ref 238 }, { hash := PyData.keyHash P (Str.ofString "_siftdown"), key := Value.str (Str.ofString "_siftdown") 821, val := Value.ref 245 }, { hash := PyData.keyHash P (Str.ofString "_siftup"), key := Value.str (Str.ofString "_siftup") 834, val := Value.ref 252 }, { hash := PyData.keyHash P (Str.ofString "_law_sets"), key := Value.str (Str.ofString "_law_sets") 842, val := Value.ref 257 }, { hash := PyData.keyHash P (Str.ofString "_law_pattern"), key := Value.str (Str.ofString "_law_pattern") 848, val := Value.ref 262 }, { hash := PyData.keyHash P (Str.ofString "_law_taken"), key := Value.str (Str.ofString "_law_taken") 854, val := Value.ref 267 }, { hash := PyData.keyHash P (Str.ofString "_law_table"), key := Value.str (Str.ofString "_law_table") 864, val := Value.ref 274 }, { hash := PyData.keyHash P (Str.ofString "_law_reduced"), key := Value.str (Str.ofString "_law_reduced") 870, val := Value.ref 279 }, { hash := PyData.keyHash P (Str.ofString "_law_tree"), key := Value.str (Str.ofString "_law_tree") 876, val := Value.ref 284 }, { hash := PyData.keyHash P (Str.ofString "_law_knots"), key := Value.str (Str.ofString "_law_knots") 882, val := Value.ref 289 }, { hash := PyData.keyHash P (Str.ofString "law"), key := Value.str (Str.ofString "law") 888, val := Value.ref 294 }] 34 }),
  (32, { cls := Value.type "tuple", data := Data.seq #[] }),
  (34, { cls := Value.type "tuple", data := Data.seq #[Value.str (Str.ofString "k") 285] }),
  (35, { cls := Value.type "tuple", data := Data.seq #[] }),
  (37, { cls := Value.type "code", data := Data.fields #[Value.str (Str.ofString "_wall") 282, Value.str (Str.ofString "_wall") 283, Value.str (Str.ofString "/claim/cut.py") 284, Value.int 2 0, Value.int 1 0, Value.int 0 0, Value.int 0 0, Value.int 3 0, Value.ref 32, Value.bool true, Value.int 276 0, Value.ref 33, Value.none, Value.ref 34, Value.ref 35, Value.ref 36, Value.int 286 0, Value.int 2 0, Value.str (Str.ofString "/claim/cut.py") 287] }),
  (38, fnO (topSt 1) (Str.ofString "_wall") (Value.none) (Value.none) (Value.str (Str.ofString "__main__") 164) (Value.ref 37)),
  (42, { cls := Value.type "tuple", data := Data.seq #[Value.int 14 0, Value.int 14 0, Value.int 4 0, Value.int 1 0, Value.int 1 0, Value.int 9 0, Value.int 0 0, Value.int 4227896069 0, Value.int 939524097 0, Value.int 0 0, Value.int 0 0, Value.int 0 0, Value.int 0 0, Value.int 0 0, Value.int 0 0, Value.int 13 0, Value.int 11 0, Value.int 9 0, Value.int 0 0, Value.int 4227896069 0, Value.int 939524097 0, Value.int 0 0, Value.int 0 0, Value.int 0 0, Value.int 0 0, Value.int 0 0, Value.int 0 0, Value.int 1 0] }),
  (43, { cls := Value.type "re.Pattern", data := Data.fields #[Value.str (Str.ofString "[ \\(\\)<>@,;:\\\\\"/\\[\\]\\?=]") 292, Value.int 32 323, Value.int 0 0, Value.none, Value.none, Value.ref 42, Value.int 0 0] }),
  (47, { cls := Value.type "tuple", data := Data.seq #[Value.int 14 0, Value.int 10 0, Value.int 4 0, Value.int 1 0, Value.int 1 0, Value.int 22 0, Value.int 0 0, Value.int 31 0, Value.int 16 0, Value.int 127 0, Value.int 0 0, Value.int 13 0, Value.int 7 0, Value.int 22 0, Value.int 0 0, Value.int 31 0, Value.int 16 0, Value.int 127 0, Value.int 0 0, Value.int 1 0] }),
  (48, { cls := Value.type "re.Pattern", data := Data.fields #[Value.str (Str.ofString "[\\x00-\\x1F\\x7F]") 326, Value.int 32 349, Value.int 0 0, Value.none, Value.none, Value.ref 47, Value.int 0 0] }),
  (52, { cls := Value.type "tuple", data := Data.seq #[Value.int 14 0, Value.int 14 0, Value.int 4 0, Value.int 1 0, Value.int 1 0, Value.int 9 0, Value.int 4294966783 0, Value.int 0 0, Value.int 0 0, Value.int 2147483648 0, Value.int 0 0, Value.int 0 0, Value.int 0 0, Value.int 0 0, Value.int 0 0, Value.int 13 0, Value.int 11 0, Value.int 9 0, Value.int 4294966783 0, Value.int 0 0, Value.int 0 0, Value.int 2147483648 0, Value.int 0 0, Value.int 0 0, Value.int 0 0, Value.int 0 0, Value.int 0 0, Value.int 1 0] }),
  (53, { cls := Value.type "re.Pattern", data := Data.fields #[Value.str (Str.ofString "[\\x00-\\x08\\x0A-\\x1F\\x7F]") 352, Value.int 32 383, Value.int 0 0, Value.none, Value.none, Value.ref 52, Value.int 0 0] }),
  (54, { cls := Value.type "tuple", data := Data.seq #[Value.none, Value.int 1 385] }),
  (55, { cls := Value.type "tuple", data := Data.seq #[] }),
  (57, { cls := Value.type "tuple", data := Data.seq #[Value.str (Str.ofString "param") 389, Value.str (Str.ofString "value") 390, Value.str (Str.ofString "quote") 391] }),
  (58, { cls := Value.type "tuple", data := Data.seq #[] }),
  (60, { cls := Value.type "code", data := Data.fields #[Value.str (Str.ofString "_formatparam") 386, Value.str (Str.ofString "_formatparam") 387, Value.str (Str.ofString "/claim/cut.py") 388, Value.int 9 0, Value.int 3 0, Value.int 0 0, Value.int 0 0, Value.int 3 0, Value.ref 55, Value.bool true, Value.int 276 0, Value.ref 56, Value.none, Value.ref 57, Value.ref 58, Value.ref 59, Value.int 392 0, Value.int 9 0, Value.str (Str.ofString "/claim/cut.py") 393] }),
  (61, fnO (topSt 6) (Str.ofString "_formatparam") (Value.ref 54) (Value.none) (Value.str (Str.ofString "cpy313.wsgiref.headers") 289) (Value.ref 60)),
  (69, { cls := Value.type "tuple", data := Data.seq #[Value.none] }),
  (70, { cls := Value.type "tuple", data := Data.seq #[] }),
  (72, { cls := Value.type "tuple", data := Data.seq #[Value.str (Str.ofString "self") 410, Value.str (Str.ofString "headers") 411, Value.str (Str.ofString "k") 412, Value.str (Str.ofString "v") 413] }),
  (73, { cls := Value.type "tuple", data := Data.seq #[] }),
  (75, { cls := Value.type "code", data := Data.fields #[Value.str (Str.ofString "__init__") 407, Value.str (Str.ofString "Headers.__init__") 408, Value.str (Str.ofString "/claim/cut.py") 409, Value.int 20 0, Value.int 2 0, Value.int 0 0, Value.int 0 0, Value.int 3 0, Value.ref 70, Value.bool true, Value.int 276 0, Value.ref 71, Value.none, Value.ref 72, Value.ref 73, Value.ref 74, Value.int 414 0, Value.int 20 0, Value.str (Str.ofString "/claim/cut.py") 415] }),
  (76, fnO (inCls 7 0) (Str.ofString "Headers.__init__") (Value.ref 69) (Value.none) (Value.str (Str.ofString "cpy313.wsgiref.headers") 289) (Value.ref 75)),
  (77, { cls := Value.type "tuple", data := Data.seq #[] }),
  (79, { cls := Value.type "tuple", data := Data.seq #[Value.str (Str.ofString "self") 420, Value.str (Str.ofString "value") 421, Value.str (Str.ofString "name") 422, Value.str (Str.ofString "regex") 423] }),
  (80, { cls := Value.type "tuple", data := Data.seq #[] }),
  (82, { cls := Value.type "code", data := Data.fields #[Value.str (Str.ofString "_convert_string_type") 417, Value.str (Str.ofString "Headers._convert_string_type") 418, Value.str (Str.ofString "/claim/cut.py") 419, Value.int 30 0, Value.int 2 0, Value.int 0 0, Value.int 1 0, Value.int 3 0, Value.ref 77, Value.bool true, Value.int 276 0, Value.ref 78, Value.none, Value.ref 79, Value.ref 80, Value.ref 81, Value.int 424 0, Value.int 30 0, Value.str (Str.ofString "/claim/cut.py") 425] }),
  (83, fnO (inCls 7 1) (Str.ofString "Headers._convert_string_type") (Value.none) (Value.none) (Value.str (Str.ofString "cpy313.wsgiref.headers") 289) (Value.ref 82)),
  (84, { cls := Value.type "tuple", data := Data.seq #[] }),
  (86, { cls := Value.type "tuple", data := Data.seq #[Value.str (Str.ofString "self") 430] }),
  (87, { cls := Value.type "tuple", data := Data.seq #[] }),
  (89, { cls := Value.type "code", data := Data.fields #[Value.str (Str.ofString "__len__") 427, Value.str (Str.ofString "Headers.__len__") 428, Value.str (Str.ofString "/claim/cut.py") 429, Value.int 38 0, Value.int 1 0, Value.int 0 0, Value.int 0 0, Value.int 3 0, Value.ref 84, Value.bool true, Value.int 276 0, Value.ref 85, Value.none, Value.ref 86, Value.ref 87, Value.ref 88, Value.int 431 0, Value.int 38 0, Value.str (Str.ofString "/claim/cut.py") 432] }),
  (90, fnO (inCls 7 2) (Str.ofString "Headers.__len__") (Value.none) (Value.none) (Value.str (Str.ofString "cpy313.wsgiref.headers") 289) (Value.ref 89)),
  (91, { cls := Value.type "tuple", data := Data.seq #[] }),
  (93, { cls := Value.type "tuple", data := Data.seq #[Value.str (Str.ofString "self") 437, Value.str (Str.ofString "name") 438, Value.str (Str.ofString "val") 439] }),
  (94, { cls := Value.type "tuple", data := Data.seq #[] }),
  (96, { cls := Value.type "code", data := Data.fields #[Value.str (Str.ofString "__setitem__") 434, Value.str (Str.ofString "Headers.__setitem__") 435, Value.str (Str.ofString "/claim/cut.py") 436, Value.int 41 0, Value.int 3 0, Value.int 0 0, Value.int 0 0, Value.int 3 0, Value.ref 91, Value.bool true, Value.int 276 0, Value.ref 92, Value.none, Value.ref 93, Value.ref 94, Value.ref 95, Value.int 440 0, Value.int 41 0, Value.str (Str.ofString "/claim/cut.py") 441] }),
  (97, fnO (inCls 7 3) (Str.ofString "Headers.__setitem__") (Value.none) (Value.none) (Value.str (Str.ofString "cpy313.wsgiref.headers") 289) (Value.ref 96)),
  (98, { cls := Value.type "tuple", data := Data.seq #[] }),
  (101, { cls := Value.type "code", data := Data.fields #[Value.str (Str.ofString "__delitem__") 443, Value.str (Str.ofString "Headers.__delitem__") 444, Value.str (Str.ofString "/claim/cut.py") 445, Value.int 45 0, Value.int 2 0, Value.int 0 0, Value.int 0 0, Value.int 3 0, Value.ref 98, Value.bool true, Value.int 276 0, Value.ref 99, Value.none, Value.none, Value.none, Value.ref 100, Value.int 446 0, Value.int 45 0, Value.str (Str.ofString "/claim/cut.py") 447] }),
  (102, fnO (inCls 7 4) (Str.ofString "Headers.__delitem__") (Value.none) (Value.none) (Value.str (Str.ofString "cpy313.wsgiref.headers") 289) (Value.ref 101)),
  (103, { cls := Value.type "tuple", data := Data.seq #[] }),
  (105, { cls := Value.type "tuple", data := Data.seq #[Value.str (Str.ofString "self") 452, Value.str (Str.ofString "name") 453] }),
  (106, { cls := Value.type "tuple", data := Data.seq #[] }),
  (108, { cls := Value.type "code", data := Data.fields #[Value.str (Str.ofString "__getitem__") 449, Value.str (Str.ofString "Headers.__getitem__") 450, Value.str (Str.ofString "/claim/cut.py") 451, Value.int 49 0, Value.int 2 0, Value.int 0 0, Value.int 0 0, Value.int 3 0, Value.ref 103, Value.bool true, Value.int 276 0, Value.ref 104, Value.none, Value.ref 105, Value.ref 106, Value.ref 107, Value.int 454 0, Value.int 49 0, Value.str (Str.ofString "/claim/cut.py") 455] }),
  (109, fnO (inCls 7 5) (Str.ofString "Headers.__getitem__") (Value.none) (Value.none) (Value.str (Str.ofString "cpy313.wsgiref.headers") 289) (Value.ref 108)),
  (110, { cls := Value.type "tuple", data := Data.seq #[] }),
  (112, { cls := Value.type "tuple", data := Data.seq #[Value.str (Str.ofString "self") 460, Value.str (Str.ofString "name") 461] }),
  (113, { cls := Value.type "tuple", data := Data.seq #[] }),
  (115, { cls := Value.type "code", data := Data.fields #[Value.str (Str.ofString "__contains__") 457, Value.str (Str.ofString "Headers.__contains__") 458, Value.str (Str.ofString "/claim/cut.py") 459, Value.int 52 0, Value.int 2 0, Value.int 0 0, Value.int 0 0, Value.int 3 0, Value.ref 110, Value.bool true, Value.int 276 0, Value.ref 111, Value.none, Value.ref 112, Value.ref 113, Value.ref 114, Value.int 462 0, Value.int 52 0, Value.str (Str.ofString "/claim/cut.py") 463] }),
  (116, fnO (inCls 7 6) (Str.ofString "Headers.__contains__") (Value.none) (Value.none) (Value.str (Str.ofString "cpy313.wsgiref.headers") 289) (Value.ref 115)),
  (117, { cls := Value.type "tuple", data := Data.seq #[] }),
  (120, { cls := Value.type "code", data := Data.fields #[Value.str (Str.ofString "get_all") 465, Value.str (Str.ofString "Headers.get_all") 466, Value.str (Str.ofString "/claim/cut.py") 467, Value.int 55 0, Value.int 2 0, Value.int 0 0, Value.int 0 0, Value.int 3 0, Value.ref 117, Value.bool true, Value.int 276 0, Value.ref 118, Value.none, Value.none, Value.none, Value.ref 119, Value.int 468 0, Value.int 55 0, Value.str (Str.ofString "/claim/cut.py") 469] }),
  (121, fnO (inCls 7 7) (Str.ofString "Headers.get_all") (Value.none) (Value.none) (Value.str (Str.ofString "cpy313.wsgiref.headers") 289) (Value.ref 120)),
  (122, { cls := Value.type "tuple", data := Data.seq #[Value.none] }),
  (123, { cls := Value.type "tuple", data := Data.seq #[] }),
  (125, { cls := Value.type "tuple", data := Data.seq #[Value.str (Str.ofString "self") 474, Value.str (Str.ofString "name") 475, Value.str (Str.ofString "default") 476, Value.str (Str.ofString "k") 477, Value.str (Str.ofString "v") 478] }),
  (126, { cls := Value.type "tuple", data := Data.seq #[] }),
  (128, { cls := Value.type "code", data := Data.fields #[Value.str (Str.ofString "get") 471, Value.str (Str.ofString "Headers.get") 472, Value.str (Str.ofString "/claim/cut.py") 473, Value.int 59 0, Value.int 3 0, Value.int 0 0, Value.int 0 0, Value.int 3 0, Value.ref 123, Value.bool true, Value.int 276 0, Value.ref 124, Value.none, Value.ref 125, Value.ref 126, Value.ref 127, Value.int 479 0, Value.int 59 0, Value.str (Str.ofString "/claim/cut.py") 480] }),
  (129, fnO (inCls 7 8) (Str.ofString "Headers.get") (Value.ref 122) (Value.none) (Value.str (Str.ofString "cpy313.wsgiref.headers") 289) (Value.ref 128)),
  (130, { cls := Value.type "tuple", data := Data.seq #[] }),
  (133, { cls := Value.type "code", data := Data.fields #[Value.str (Str.ofString "keys") 482, Value.str (Str.ofString "Headers.keys") 483, Value.str (Str.ofString "/claim/cut.py") 484, Value.int 66 0, Value.int 1 0, Value.int 0 0, Value.int 0 0, Value.int 3 0, Value.ref 130, Value.bool true, Value.int 276 0, Value.ref 131, Value.none, Value.none, Value.none, Value.ref 132, Value.int 485 0, Value.int 66 0, Value.str (Str.ofString "/claim/cut.py") 486] }),
  (134, fnO (inCls 7 9) (Str.ofString "Headers.keys") (Value.none) (Value.none) (Value.str (Str.ofString "cpy313.wsgiref.headers") 289) (Value.ref 133)),
  (135, { cls := Value.type "tuple", data := Data.seq #[] }),
  (138, { cls := Value.type "code", data := Data.fields #[Value.str (Str.ofString "values") 488, Value.str (Str.ofString "Headers.values") 489, Value.str (Str.ofString "/claim/cut.py") 490, Value.int 69 0, Value.int 1 0, Value.int 0 0, Value.int 0 0, Value.int 3 0, Value.ref 135, Value.bool true, Value.int 276 0, Value.ref 136, Value.none, Value.none, Value.none, Value.ref 137, Value.int 491 0, Value.int 69 0, Value.str (Str.ofString "/claim/cut.py") 492] }),
  (139, fnO (inCls 7 10) (Str.ofString "Headers.values") (Value.none) (Value.none) (Value.str (Str.ofString "cpy313.wsgiref.headers") 289) (Value.ref 138)),
  (140, { cls := Value.type "tuple", data := Data.seq #[] }),
  (142, { cls := Value.type "tuple", data := Data.seq #[Value.str (Str.ofString "self") 497] }),
  (143, { cls := Value.type "tuple", data := Data.seq #[] }),
  (145, { cls := Value.type "code", data := Data.fields #[Value.str (Str.ofString "items") 494, Value.str (Str.ofString "Headers.items") 495, Value.str (Str.ofString "/claim/cut.py") 496, Value.int 72 0, Value.int 1 0, Value.int 0 0, Value.int 0 0, Value.int 3 0, Value.ref 140, Value.bool true, Value.int 276 0, Value.ref 141, Value.none, Value.ref 142, Value.ref 143, Value.ref 144, Value.int 498 0, Value.int 72 0, Value.str (Str.ofString "/claim/cut.py") 499] }),
  (146, fnO (inCls 7 11) (Str.ofString "Headers.items") (Value.none) (Value.none) (Value.str (Str.ofString "cpy313.wsgiref.headers") 289) (Value.ref 145)),
  (147, { cls := Value.type "tuple", data := Data.seq #[] }),
  (149, { cls := Value.type "tuple", data := Data.seq #[Value.str (Str.ofString "self") 504] }),
  (150, { cls := Value.type "tuple", data := Data.seq #[] }),
  (152, { cls := Value.type "code", data := Data.fields #[Value.str (Str.ofString "__repr__") 501, Value.str (Str.ofString "Headers.__repr__") 502, Value.str (Str.ofString "/claim/cut.py") 503, Value.int 75 0, Value.int 1 0, Value.int 0 0, Value.int 0 0, Value.int 3 0, Value.ref 147, Value.bool true, Value.int 276 0, Value.ref 148, Value.none, Value.ref 149, Value.ref 150, Value.ref 151, Value.int 505 0, Value.int 75 0, Value.str (Str.ofString "/claim/cut.py") 506] }),
  (153, fnO (inCls 7 12) (Str.ofString "Headers.__repr__") (Value.none) (Value.none) (Value.str (Str.ofString "cpy313.wsgiref.headers") 289) (Value.ref 152)),
  (154, { cls := Value.type "tuple", data := Data.seq #[] }),
  (157, { cls := Value.type "code", data := Data.fields #[Value.str (Str.ofString "__str__") 508, Value.str (Str.ofString "Headers.__str__") 509, Value.str (Str.ofString "/claim/cut.py") 510, Value.int 78 0, Value.int 1 0, Value.int 0 0, Value.int 0 0, Value.int 3 0, Value.ref 154, Value.bool true, Value.int 276 0, Value.ref 155, Value.none, Value.none, Value.none, Value.ref 156, Value.int 511 0, Value.int 78 0, Value.str (Str.ofString "/claim/cut.py") 512] }),
  (158, fnO (inCls 7 13) (Str.ofString "Headers.__str__") (Value.none) (Value.none) (Value.str (Str.ofString "cpy313.wsgiref.headers") 289) (Value.ref 157)),
  (159, { cls := Value.type "tuple", data := Data.seq #[] }),
  (161, { cls := Value.type "tuple", data := Data.seq #[Value.str (Str.ofString "self") 517] }),
  (162, { cls := Value.type "tuple", data := Data.seq #[] }),
  (164, { cls := Value.type "code", data := Data.fields #[Value.str (Str.ofString "__bytes__") 514, Value.str (Str.ofString "Headers.__bytes__") 515, Value.str (Str.ofString "/claim/cut.py") 516, Value.int 81 0, Value.int 1 0, Value.int 0 0, Value.int 0 0, Value.int 3 0, Value.ref 159, Value.bool true, Value.int 276 0, Value.ref 160, Value.none, Value.ref 161, Value.ref 162, Value.ref 163, Value.int 518 0, Value.int 81 0, Value.str (Str.ofString "/claim/cut.py") 519] }),
  (165, fnO (inCls 7 14) (Str.ofString "Headers.__bytes__") (Value.none) (Value.none) (Value.str (Str.ofString "cpy313.wsgiref.headers") 289) (Value.ref 164)),
  (166, { cls := Value.type "tuple", data := Data.seq #[] }),
  (168, { cls := Value.type "tuple", data := Data.seq #[Value.str (Str.ofString "self") 524, Value.str (Str.ofString "name") 525, Value.str (Str.ofString "value") 526] }),
  (169, { cls := Value.type "tuple", data := Data.seq #[] }),
  (171, { cls := Value.type "code", data := Data.fields #[Value.str (Str.ofString "setdefault") 521, Value.str (Str.ofString "Headers.setdefault") 522, Value.str (Str.ofString "/claim/cut.py") 523, Value.int 84 0, Value.int 3 0, Value.int 0 0, Value.int 0 0, Value.int 3 0, Value.ref 166, Value.bool true, Value.int 276 0, Value.ref 167, Value.none, Value.ref 168, Value.ref 169, Value.ref 170, Value.int 527 0, Value.int 84 0, Value.str (Str.ofString "/claim/cut.py") 528] }),
  (172, fnO (inCls 7 15) (Str.ofString "Headers.setdefault") (Value.none) (Value.none) (Value.str (Str.ofString "cpy313.wsgiref.headers") 289) (Value.ref 171)),
  (173, { cls := Value.type "tuple", data := Data.seq #[] }),
  (175, { cls := Value.type "tuple", data := Data.seq #[Value.str (Str.ofString "self") 533, Value.str (Str.ofString "_name") 534, Value.str (Str.ofString "_value") 535, Value.str (Str.ofString "_params") 536, Value.str (Str.ofString "parts") 537, Value.str (Str.ofString "k") 538, Value.str (Str.ofString "v") 539] }),
  (176, { cls := Value.type "tuple", data := Data.seq #[] }),
  (178, { cls := Value.type "code", data := Data.fields #[Value.str (Str.ofString "add_header") 530, Value.str (Str.ofString "Headers.add_header") 531, Value.str (Str.ofString "/claim/cut.py") 532, Value.int 87 0, Value.int 3 0, Value.int 0 0, Value.int 0 0, Value.int 11 0, Value.ref 173, Value.bool true, Value.int 276 0, Value.ref 174, Value.none, Value.ref 175, Value.ref 176, Value.ref 177, Value.int 540 0, Value.int 87 0, Value.str (Str.ofString "/claim/cut.py") 541] }),
  (179, fnO (inCls 7 16) (Str.ofString "Headers.add_header") (Value.none) (Value.none) (Value.str (Str.ofString "cpy313.wsgiref.headers") 289) (Value.ref 178)),
  (180, { cls := Value.type "tuple", data := Data.seq #[Value.str (Str.ofString "_headers") 543] }),
  (181, { cls := Value.type "dict", data := Data.dict #[{ hash := PyData.keyHash P (Str.ofString "__module__"), key := Value.str (Str.ofString "__module__") 402, val := Value.str (Str.ofString "cpy313.wsgiref.headers") 289 }, { hash := PyData.keyHash P (Str.ofString "__firstlineno__"), key := Value.str (Str.ofString "__firstlineno__") 406, val := Value.int 18 405 }, { hash := PyData.keyHash P (Str.ofString "__init__"), key := Value.str (Str.ofString "__init__") 416, val := Value.ref 76 }, { hash := PyData.keyHash P (Str.ofString "_convert_string_type"), key := Value.str (Str.ofString "_convert_string_type") 426, val := Value.ref 83 }, { hash := PyData.keyHash P (Str.ofString "__len__"), key := Value.str (Str.ofString "__len__") 433, val := Value.ref 90 }, { hash := PyData.keyHash P (Str.ofString "__setitem__"), key := Value.str (Str.ofString "__setitem__") 442, val := Value.ref 97 }, { hash := PyData.keyHash P (Str.ofString "__delitem__"), key := Value.str (Str.ofString "__delitem__") 448, val := Value.ref 102 }, { hash := PyData.keyHash P (Str.ofString "__getitem__"), key := Value.str (Str.ofString "__getitem__") 456, val := Value.ref 109 }, { hash := PyData.keyHash P (Str.ofString "__contains__"), key := Value.str (Str.ofString "__contains__") 464, val := Value.ref 116 }, { hash := PyData.keyHash P (Str.ofString "get_all"), key := Value.str (Str.ofString "get_all") 470, val := Value.ref 121 }, { hash := PyData.keyHash P (Str.ofString "get"), key := Value.str (Str.ofString "get") 481, val := Value.ref 129 }, { hash := PyData.keyHash P (Str.ofString "keys"), key := Value.str (Str.ofString "keys") 487, val := Value.ref 134 }, { hash := PyData.keyHash P (Str.ofString "values"), key := Value.str (Str.ofString "values") 493, val := Value.ref 139 }, { hash := PyData.keyHash P (Str.ofString "items"), key := Value.str (Str.ofString "items") 500, val := Value.ref 146 }, { hash := PyData.keyHash P (Str.ofString "__repr__"), key := Value.str (Str.ofString "__repr__") 507, val := Value.ref 153 }, { hash := PyData.keyHash P (Str.ofString "__str__"), key := Value.str (Str.ofString "__str__") 513, val := Value.ref 158 }, { hash := PyData.keyHash P (Str.ofString "__bytes__"), key := Value.str (Str.ofString "__bytes__") 520, val := Value.ref 165 }, { hash := PyData.keyHash P (Str.ofString "setdefault"), key := Value.str (Str.ofString "setdefault") 529, val := Value.ref 172 }, { hash := PyData.keyHash P (Str.ofString "add_header"), key := Value.str (Str.ofString "add_header") 542, val := Value.ref 179 }, { hash := PyData.keyHash P (Str.ofString "__static_attributes__"), key := Value.str (Str.ofString "__static_attributes__") 544, val := Value.ref 180 }, { hash := PyData.keyHash P (Str.ofString "__dict__"), key := Value.str (Str.ofString "__dict__") 546, val := Value.ref 183 }, { hash := PyData.keyHash P (Str.ofString "__weakref__"), key := Value.str (Str.ofString "__weakref__") 548, val := Value.ref 184 }, { hash := PyData.keyHash P (Str.ofString "__doc__"), key := Value.str (Str.ofString "__doc__") 549, val := Value.none }] 4 }),
  (182, { cls := Value.type "type", data := Data.cls { name := Str.ofString "Headers", bases := [Value.type "object"], mro := [Value.ref 182, Value.type "object"], ns := 181, qualname := Str.ofString "Headers" }, slots := #[none, none, some (Value.str (Str.ofString "Headers") 395), some (Value.str (Str.ofString "Headers") 403), some (Value.builtin "object.__new__"), some (Value.bool true)] }),
  (183, { cls := Value.type "getset_descriptor", data := Data.fields #[Value.str (Str.ofString "__dict__") 545, Value.ref 182, Value.builtin "function.__dict__", Value.builtin "function.__dict__#set"] }),
  (184, { cls := Value.type "getset_descriptor", data := Data.fields #[Value.str (Str.ofString "__weakref__") 547, Value.ref 182, Value.builtin "ExceptionGroup.__weakref__", Value.none] }),
  (190, { cls := Value.type "tuple", data := Data.seq #[Value.int 14 0, Value.int 14 0, Value.int 4 0, Value.int 1 0, Value.int 1 0, Value.int 9 0, Value.int 0 0, Value.int 64 0, Value.int 0 0, Value.int 1342177280 0, Value.int 0 0, Value.int 0 0, Value.int 0 0, Value.int 0 0, Value.int 0 0, Value.int 17 0, Value.int 0 0, Value.int 13 0, Value.int 11 0, Value.int 9 0, Value.int 0 0, Value.int 64 0, Value.int 0 0, Value.int 1342177280 0, Value.int 0 0, Value.int 0 0, Value.int 0 0, Value.int 0 0, Value.int 0 0, Value.int 17 0, Value.int 1 0, Value.int 1 0] }),
  (191, { cls := Value.type "re.Pattern", data := Data.fields #[Value.str (Str.ofString "([&~|])") 555, Value.int 32 590, Value.int 1 0, Value.none, Value.none, Value.ref 190, Value.int 0 0] }),
  (192, { cls := Value.type "tuple", data := Data.seq #[] }),
  (194, { cls := Value.type "tuple", data := Data.seq #[Value.str (Str.ofString "pat") 595, Value.str (Str.ofString "STAR") 596, Value.str (Str.ofString "parts") 597] }),
  (195, { cls := Value.type "tuple", data := Data.seq #[] }),
  (197, { cls := Value.type "code", data := Data.fields #[Value.str (Str.ofString "translate") 592, Value.str (Str.ofString "translate") 593, Value.str (Str.ofString "/claim/cut.py") 594, Value.int 102 0, Value.int 1 0, Value.int 0 0, Value.int 0 0, Value.int 3 0, Value.ref 192, Value.bool true, Value.int 276 0, Value.ref 193, Value.none, Value.ref 194, Value.ref 195, Value.ref 196, Value.int 598 0, Value.int 102 0, Value.str (Str.ofString "/claim/cut.py") 599] }),
  (198, fnO (topSt 10) (Str.ofString "translate") (Value.none) (Value.none) (Value.str (Str.ofString "cpy313.fnmatch") 552) (Value.ref 197)),
  (200, { cls := Value.type "dict", data := Data.dict #[{ hash := 40, key := Value.int 40 604, val := Value.str (Str.ofString "\\(") 608 }, { hash := 41, key := Value.int 41 610, val := Value.str (Str.ofString "\\)") 614 }, { hash := 91, key := Value.int 91 616, val := Value.str (Str.ofString "\\[") 620 }, { hash := 93, key := Value.int 93 622, val := Value.str (Str.ofString "\\]") 626 }, { hash := 123, key := Value.int 123 628, val := Value.str (Str.ofString "\\{") 632 }, { hash := 125, key := Value.int 125 634, val := Value.str (Str.ofString "\\}") 638 }, { hash := 63, key := Value.int 63 640, val := Value.str (Str.ofString "\\?") 644 }, { hash := 42, key := Value.int 42 646, val := Value.str (Str.ofString "\\*") 650 }, { hash := 43, key := Value.int 43 652, val := Value.str (Str.ofString "\\+") 656 }, { hash := 45, key := Value.int 45 658, val := Value.str (Str.ofString "\\-") 662 }, { hash := 124, key := Value.int 124 664, val := Value.str (Str.ofString "\\|") 668 }, { hash := 94, key := Value.int 94 670, val := Value.str (Str.ofString "\\^") 674 }, { hash := 36, key := Value.int 36 676, val := Value.str (Str.ofString "\\$") 680 }, { hash := 92, key := Value.int 92 682, val := Value.str (Str.ofString "\\\\") 686 }, { hash := 46, key := Value.int 46 688, val := Value.str (Str.ofString "\\.") 692 }, { hash := 38, key := Value.int 38 694, val := Value.str (Str.ofString "\\&") 698 }, { hash := 126, key := Value.int 126 700, val := Value.str (Str.ofString "\\~") 704 }, { hash := 35, key := Value.int 35 706, val := Value.str (Str.ofString "\\#") 710 }, { hash := 32, key := Value.int 32 712, val := Value.str (Str.ofString "\\ ") 716 }, { hash := 9, key := Value.int 9 718, val := Value.str (Str.ofString "\\\t") 722 }, { hash := 10, key := Value.int 10 724, val := Value.str (Str.ofString "\\\n") 728 }, { hash := 13, key := Value.int 13 730, val := Value.str (Str.ofString "\\\x0d") 734 }, { hash := 11, key := Value.int 11 736, val := Value.str (Str.ofString "\\\x0b") 740 }, { hash := 12, key := Value.int 12 742, val := Value.str (Str.ofString "\\\x0c") 746 }] 24 }),
  (204, { cls := Value.type "tuple", data := Data.seq #[] }),
  (206, { cls := Value.type "tuple", data := Data.seq #[Value.str (Str.ofString "pattern") 752] }),
  (207, { cls := Value.type "tuple", data := Data.seq #[] }),
  (209, { cls := Value.type "code", data := Data.fields #[Value.str (Str.ofString "escape") 749, Value.str (Str.ofString "escape") 750, Value.str (Str.ofString "/claim/cut.py") 751, Value.int 108 0, Value.int 1 0, Value.int 0 0, Value.int 0 0, Value.int 3 0, Value.ref 204, Value.bool true, Value.int 276 0, Value.ref 205, Value.none, Value.ref 206, Value.ref 207, Value.ref 208, Value.int 753 0, Value.int 108 0, Value.str (Str.ofString "/claim/cut.py") 754] }),
  (210, fnO (topSt 13) (Str.ofString "escape") (Value.none) (Value.none) (Value.str (Str.ofString "re") 601) (Value.ref 209)),
  (211, { cls := Value.type "tuple", data := Data.seq #[] }),
  (213, { cls := Value.type "tuple", data := Data.seq #[Value.str (Str.ofString "pat") 761, Value.str (Str.ofString "STAR") 762, Value.str (Str.ofString "QUESTION_MARK") 763, Value.str (Str.ofString "res") 764, Value.str (Str.ofString "add") 765, Value.str (Str.ofString "i") 766, Value.str (Str.ofString "n") 767, Value.str (Str.ofString "c") 768, Value.str (Str.ofString "j") 769, Value.str (Str.ofString "stuff") 770, Value.str (Str.ofString "chunks") 771, Value.str (Str.ofString "k") 772, Value.str (Str.ofString "chunk") 773] }),
  (214, { cls := Value.type "tuple", data := Data.seq #[] }),
  (216, { cls := Value.type "code", data := Data.fields #[Value.str (Str.ofString "_translate") 758, Value.str (Str.ofString "_translate") 759, Value.str (Str.ofString "/claim/cut.py") 760, Value.int 115 0, Value.int 3 0, Value.int 0 0, Value.int 0 0, Value.int 3 0, Value.ref 211, Value.bool true, Value.int 276 0, Value.ref 212, Value.none, Value.ref 213, Value.ref 214, Value.ref 215, Value.int 774 0, Value.int 115 0, Value.str (Str.ofString "/claim/cut.py") 775] }),
  (217, fnO (topSt 15) (Str.ofString "_translate") (Value.none) (Value.none) (Value.str (Str.ofString "cpy313.fnmatch") 756) (Value.ref 216)),
  (218, { cls := Value.type "tuple", data := Data.seq #[] }),
  (220, { cls := Value.type "tuple", data := Data.seq #[Value.str (Str.ofString "inp") 780, Value.str (Str.ofString "STAR") 781, Value.str (Str.ofString "res") 782, Value.str (Str.ofString "add") 783, Value.str (Str.ofString "i") 784, Value.str (Str.ofString "n") 785, Value.str (Str.ofString "fixed") 786] }),
  (221, { cls := Value.type "tuple", data := Data.seq #[] }),
  (223, { cls := Value.type "code", data := Data.fields #[Value.str (Str.ofString "_join_translated_parts") 777, Value.str (Str.ofString "_join_translated_parts") 778, Value.str (Str.ofString "/claim/cut.py") 779, Value.int 177 0, Value.int 2 0, Value.int 0 0, Value.int 0 0, Value.int 3 0, Value.ref 218, Value.bool true, Value.int 276 0, Value.ref 219, Value.none, Value.ref 220, Value.ref 221, Value.ref 222, Value.int 787 0, Value.int 177 0, Value.str (Str.ofString "/claim/cut.py") 788] }),
  (224, fnO (topSt 16) (Str.ofString "_join_translated_parts") (Value.none) (Value.none) (Value.str (Str.ofString "cpy313.fnmatch") 756) (Value.ref 223)),
  (225, { cls := Value.type "tuple", data := Data.seq #[] }),
  (227, { cls := Value.type "tuple", data := Data.seq #[Value.str (Str.ofString "heap") 795, Value.str (Str.ofString "lastelt") 796, Value.str (Str.ofString "returnitem") 797] }),
  (228, { cls := Value.type "tuple", data := Data.seq #[] }),
  (230, { cls := Value.type "code", data := Data.fields #[Value.str (Str.ofString "heappop") 792, Value.str (Str.ofString "heappop") 793, Value.str (Str.ofString "/claim/cut.py") 794, Value.int 205 0, Value.int 1 0, Value.int 0 0, Value.int 0 0, Value.int 3 0, Value.ref 225, Value.bool true, Value.int 276 0, Value.ref 226, Value.none, Value.ref 227, Value.ref 228, Value.ref 229, Value.int 798 0, Value.int 205 0, Value.str (Str.ofString "/claim/cut.py") 799] }),
  (231, fnO (topSt 18) (Str.ofString "heappop") (Value.none) (Value.none) (Value.str (Str.ofString "cpy313.heapq") 790) (Value.ref 230)),
  (232, { cls := Value.type "tuple", data := Data.seq #[] }),
  (234, { cls := Value.type "tuple", data := Data.seq #[Value.str (Str.ofString "x") 804, Value.str (Str.ofString "n") 805, Value.str (Str.ofString "i") 806] }),
  (235, { cls := Value.type "tuple", data := Data.seq #[] }),
  (237, { cls := Value.type "code", data := Data.fields #[Value.str (Str.ofString "heapify") 801, Value.str (Str.ofString "heapify") 802, Value.str (Str.ofString "/claim/cut.py") 803, Value.int 213 0, Value.int 1 0, Value.int 0 0, Value.int 0 0, Value.int 3 0, Value.ref 232, Value.bool true, Value.int 276 0, Value.ref 233, Value.none, Value.ref 234, Value.ref 235, Value.ref 236, Value.int 807 0, Value.int 213 0, Value.str (Str.ofString "/claim/cut.py") 808] }),
  (238, fnO (topSt 19) (Str.ofString "heapify") (Value.none) (Value.none) (Value.str (Str.ofString "cpy313.heapq") 790) (Value.ref 237)),
  (239, { cls := Value.type "tuple", data := Data.seq #[] }),
  (241, { cls := Value.type "tuple", data := Data.seq #[Value.str (Str.ofString "heap") 813, Value.str (Str.ofString "startpos") 814, Value.str (Str.ofString "pos") 815, Value.str (Str.ofString "newitem") 816, Value.str (Str.ofString "parentpos") 817, Value.str (Str.ofString "parent") 818] }),
  (242, { cls := Value.type "tuple", data := Data.seq #[] }),
  (244, { cls := Value.type "code", data := Data.fields #[Value.str (Str.ofString "_siftdown") 810, Value.str (Str.ofString "_siftdown") 811, Value.str (Str.ofString "/claim/cut.py") 812, Value.int 217 0, Value.int 3 0, Value.int 0 0, Value.int 0 0, Value.int 3 0, Value.ref 239, Value.bool true, Value.int 276 0, Value.ref 240, Value.none, Value.ref 241, Value.ref 242, Value.ref 243, Value.int 819 0, Value.int 217 0, Value.str (Str.ofString "/claim/cut.py") 820] }),
  (245, fnO (topSt 20) (Str.ofString "_siftdown") (Value.none) (Value.none) (Value.str (Str.ofString "cpy313.heapq") 790) (Value.ref 244)),
  (246, { cls := Value.type "tuple", data := Data.seq #[] }),
  (248, { cls := Value.type "tuple", data := Data.seq #[Value.str (Str.ofString "heap") 825, Value.str (Str.ofString "pos") 826, Value.str (Str.ofString "endpos") 827, Value.str (Str.ofString "startpos") 828, Value.str (Str.ofString "newitem") 829, Value.str (Str.ofString "childpos") 830, Value.str (Str.ofString "rightpos") 831] }),
  (249, { cls := Value.type "tuple", data := Data.seq #[] }),
  (251, { cls := Value.type "code", data := Data.fields #[Value.str (Str.ofString "_siftup") 822, Value.str (Str.ofString "_siftup") 823, Value.str (Str.ofString "/claim/cut.py") 824, Value.int 228 0, Value.int 2 0, Value.int 0 0, Value.int 0 0, Value.int 3 0, Value.ref 246, Value.bool true, Value.int 276 0, Value.ref 247, Value.none, Value.ref 248, Value.ref 249, Value.ref 250, Value.int 832 0, Value.int 228 0, Value.str (Str.ofString "/claim/cut.py") 833] }),
  (252, fnO (topSt 21) (Str.ofString "_siftup") (Value.none) (Value.none) (Value.str (Str.ofString "cpy313.heapq") 790) (Value.ref 251)),
  (253, { cls := Value.type "tuple", data := Data.seq #[] }),
  (256, { cls := Value.type "code", data := Data.fields #[Value.str (Str.ofString "_law_sets") 837, Value.str (Str.ofString "_law_sets") 838, Value.str (Str.ofString "/claim/cut.py") 839, Value.int 243 0, Value.int 1 0, Value.int 0 0, Value.int 0 0, Value.int 3 0, Value.ref 253, Value.bool true, Value.int 276 0, Value.ref 254, Value.none, Value.none, Value.none, Value.ref 255, Value.int 840 0, Value.int 243 0, Value.str (Str.ofString "/claim/cut.py") 841] }),
  (257, fnO (topSt 23) (Str.ofString "_law_sets") (Value.none) (Value.none) (Value.str (Str.ofString "law_kt0061_01") 835) (Value.ref 256)),
  (258, { cls := Value.type "tuple", data := Data.seq #[] }),
  (261, { cls := Value.type "code", data := Data.fields #[Value.str (Str.ofString "_law_pattern") 843, Value.str (Str.ofString "_law_pattern") 844, Value.str (Str.ofString "/claim/cut.py") 845, Value.int 246 0, Value.int 1 0, Value.int 0 0, Value.int 0 0, Value.int 3 0, Value.ref 258, Value.bool true, Value.int 276 0, Value.ref 259, Value.none, Value.none, Value.none, Value.ref 260, Value.int 846 0, Value.int 246 0, Value.str (Str.ofString "/claim/cut.py") 847] }),
  (262, fnO (topSt 24) (Str.ofString "_law_pattern") (Value.none) (Value.none) (Value.str (Str.ofString "law_kt0061_01") 835) (Value.ref 261)),
  (263, { cls := Value.type "tuple", data := Data.seq #[] }),
  (266, { cls := Value.type "code", data := Data.fields #[Value.str (Str.ofString "_law_taken") 849, Value.str (Str.ofString "_law_taken") 850, Value.str (Str.ofString "/claim/cut.py") 851, Value.int 251 0, Value.int 1 0, Value.int 0 0, Value.int 0 0, Value.int 3 0, Value.ref 263, Value.bool true, Value.int 276 0, Value.ref 264, Value.none, Value.none, Value.none, Value.ref 265, Value.int 852 0, Value.int 251 0, Value.str (Str.ofString "/claim/cut.py") 853] }),
  (267, fnO (topSt 25) (Str.ofString "_law_taken") (Value.none) (Value.none) (Value.str (Str.ofString "law_kt0061_01") 835) (Value.ref 266)),
  (268, { cls := Value.type "tuple", data := Data.seq #[] }),
  (270, { cls := Value.type "tuple", data := Data.seq #[Value.str (Str.ofString "sets") 858, Value.str (Str.ofString "table") 859, Value.str (Str.ofString "k") 860, Value.str (Str.ofString "x") 861] }),
  (271, { cls := Value.type "tuple", data := Data.seq #[] }),
  (273, { cls := Value.type "code", data := Data.fields #[Value.str (Str.ofString "_law_table") 855, Value.str (Str.ofString "_law_table") 856, Value.str (Str.ofString "/claim/cut.py") 857, Value.int 259 0, Value.int 1 0, Value.int 0 0, Value.int 0 0, Value.int 3 0, Value.ref 268, Value.bool true, Value.int 276 0, Value.ref 269, Value.none, Value.ref 270, Value.ref 271, Value.ref 272, Value.int 862 0, Value.int 259 0, Value.str (Str.ofString "/claim/cut.py") 863] }),
  (274, fnO (topSt 26) (Str.ofString "_law_table") (Value.none) (Value.none) (Value.str (Str.ofString "law_kt0061_01") 835) (Value.ref 273)),
  (275, { cls := Value.type "tuple", data := Data.seq #[] }),
  (278, { cls := Value.type "code", data := Data.fields #[Value.str (Str.ofString "_law_reduced") 865, Value.str (Str.ofString "_law_reduced") 866, Value.str (Str.ofString "/claim/cut.py") 867, Value.int 265 0, Value.int 2 0, Value.int 0 0, Value.int 0 0, Value.int 3 0, Value.ref 275, Value.bool true, Value.int 276 0, Value.ref 276, Value.none, Value.none, Value.none, Value.ref 277, Value.int 868 0, Value.int 265 0, Value.str (Str.ofString "/claim/cut.py") 869] }),
  (279, fnO (topSt 27) (Str.ofString "_law_reduced") (Value.none) (Value.none) (Value.str (Str.ofString "law_kt0061_01") 835) (Value.ref 278)),
  (280, { cls := Value.type "tuple", data := Data.seq #[] }),
  (283, { cls := Value.type "code", data := Data.fields #[Value.str (Str.ofString "_law_tree") 871, Value.str (Str.ofString "_law_tree") 872, Value.str (Str.ofString "/claim/cut.py") 873, Value.int 280 0, Value.int 1 0, Value.int 0 0, Value.int 0 0, Value.int 3 0, Value.ref 280, Value.bool true, Value.int 276 0, Value.ref 281, Value.none, Value.none, Value.none, Value.ref 282, Value.int 874 0, Value.int 280 0, Value.str (Str.ofString "/claim/cut.py") 875] }),
  (284, fnO (topSt 28) (Str.ofString "_law_tree") (Value.none) (Value.none) (Value.str (Str.ofString "law_kt0061_01") 835) (Value.ref 283)),
  (285, { cls := Value.type "tuple", data := Data.seq #[] }),
  (288, { cls := Value.type "code", data := Data.fields #[Value.str (Str.ofString "_law_knots") 877, Value.str (Str.ofString "_law_knots") 878, Value.str (Str.ofString "/claim/cut.py") 879, Value.int 290 0, Value.int 1 0, Value.int 0 0, Value.int 0 0, Value.int 3 0, Value.ref 285, Value.bool true, Value.int 276 0, Value.ref 286, Value.none, Value.none, Value.none, Value.ref 287, Value.int 880 0, Value.int 290 0, Value.str (Str.ofString "/claim/cut.py") 881] }),
  (289, fnO (topSt 29) (Str.ofString "_law_knots") (Value.none) (Value.none) (Value.str (Str.ofString "law_kt0061_01") 835) (Value.ref 288)),
  (290, { cls := Value.type "tuple", data := Data.seq #[] }),
  (293, { cls := Value.type "code", data := Data.fields #[Value.str (Str.ofString "law") 883, Value.str (Str.ofString "law") 884, Value.str (Str.ofString "/claim/cut.py") 885, Value.int 303 0, Value.int 1 0, Value.int 0 0, Value.int 0 0, Value.int 3 0, Value.ref 290, Value.bool true, Value.int 276 0, Value.ref 291, Value.none, Value.none, Value.none, Value.ref 292, Value.int 886 0, Value.int 303 0, Value.str (Str.ofString "/claim/cut.py") 887] }),
  (294, fnO (topSt 30) (Str.ofString "law") (Value.none) (Value.none) (Value.str (Str.ofString "law_kt0061_01") 835) (Value.ref 293))]
noncomputable abbrev aG__name_disallowed_re : Addr := 48
noncomputable abbrev aG__value_disallowed_re : Addr := 53
noncomputable abbrev aG_Headers : Addr := 182
noncomputable abbrev aG__twin_re_1 : Addr := 191
noncomputable abbrev aG_translate : Addr := 198
noncomputable abbrev aG__translate : Addr := 217
noncomputable abbrev aG__join_translated_parts : Addr := 224
noncomputable abbrev aG_heappop : Addr := 231
noncomputable abbrev aG_heapify : Addr := 238
noncomputable abbrev aG__siftdown : Addr := 245
noncomputable abbrev aG__siftup : Addr := 252
noncomputable abbrev aG__law_sets : Addr := 257
noncomputable abbrev aG__law_pattern : Addr := 262
noncomputable abbrev aG__law_taken : Addr := 267
noncomputable abbrev aG__law_table : Addr := 274
noncomputable abbrev aG__law_reduced : Addr := 279
noncomputable abbrev aG__law_tree : Addr := 284
noncomputable abbrev aG__law_knots : Addr := 289
noncomputable abbrev aG_law : Addr := 294
noncomputable abbrev aM___init__ : Addr := 76
noncomputable abbrev aD___init__ : Addr := 69
noncomputable abbrev aM__convert_string_type : Addr := 83
noncomputable abbrev aM___delitem__ : Addr := 102
noncomputable abbrev aM_get_all : Addr := 121
noncomputable abbrev aM_keys : Addr := 134
noncomputable abbrev aM_items : Addr := 146
noncomputable abbrev aM_add_header : Addr := 179
noncomputable def asL : List Addr := [3, 32, 34, 35, 37, 38, 42, 43, 47, 48, 52, 53, 54, 55, 57, 58, 60, 61, 69, 70, 72, 73, 75, 76, 77, 79, 80, 82, 83, 84, 86, 87, 89, 90, 91, 93, 94, 96, 97, 98, 101, 102, 103, 105, 106, 108, 109, 110, 112, 113, 115, 116, 117, 120, 121, 122, 123, 125, 126, 128, 129, 130, 133, 134, 135, 138, 139, 140, 142, 143, 145, 146, 147, 149, 150, 152, 153, 154, 157, 158, 159, 161, 162, 164, 165, 166, 168, 169, 171, 172, 173, 175, 176, 178, 179, 180, 181, 182, 183, 184, 190, 191, 192, 194, 195, 197, 198, 200, 204, 206, 207, 209, 210, 211, 213, 214, 216, 217, 218, 220, 221, 223, 224, 225, 227, 228, 230, 231, 232, 234, 235, 237, 238, 239, 241, 242, 244, 245, 246, 248, 249, 251, 252, 253, 256, 257, 258, 261, 262, 263, 266, 267, 268, 270, 271, 273, 274, 275, 278, 279, 280, 283, 284, 285, 288, 289, 290, 293, 294]
theorem asOk (P : Params) : asL = (Kp P).map (·.1) := by kernel_rfl
noncomputable abbrev Hk : Hook := kmHook Kp asL asOk [212]
noncomputable def qv : Program := view pgm [0, 1, 3, 4, 5, 7, 9, 10, 12, 13, 15, 16, 18, 19, 20, 21, 23, 24, 25, 26, 27, 28, 29, 30]
noncomputable def looseL : List Str := [Str.ofString "tspecials", Str.ofString "_name_disallowed_re", Str.ofString "_value_disallowed_re", Str.ofString "_formatparam", Str.ofString "_twin_re_1", Str.ofString "_special_chars_map"]
noncomputable abbrev Xh : Shared → Bool := fun s => xlAt qv [] s && recOk (RowW.records (OpenRow.toRowW rowL)) s
noncomputable def endsQ (w : World) : Option Shared := ((Fast.tw10274390034422433532 Fast.tw14364793385576792824 (opening pgm) w 5884 (start (opening pgm)).1 (start (opening pgm)).2).bind (Fast.tw14289696077712309145 pgm)).bind fun s₀ =>
  match s₀.heap.isNs mainGlobals && s₀.gens.size == 0 with
  | true => (Fast.tw14082659384304107361 Fast.tw14364793385576792824 pgm w s₀.heap.objs.size (s₀.heap.nsMap mainGlobals "__annotations__") 5884 s₀ (topStub pgm)).bind fun s₁ => match staticsOk (Fast.tw5923862056798008813 pgm.main.body) s₀.heap s₁.heap && namesBound pgm s₁.heap && gensDone s₁ && laidKept s₀.heap s₁.heap with
      | true => some s₁
      | false => none
  | false => none
noncomputable def seenQ (s : Shared) := (Fast.tw4187177175401517315 qv looseL (Fast.tw5923862056798008813 pgm.main.body) Xh true s, Hk.obs s)
noncomputable abbrev WayOk (w : World) : Prop := (endsQ w).map seenQ = some (openGood qv looseL, Hk.val w)
theorem way0 (w : World) : WayOk ((w.withFollow "special-get-raises" false).withFollow "comprehension-iter-twice" false) := by kernel_rfl
theorem way1 (w : World) : WayOk ((w.withFollow "special-get-raises" true).withFollow "comprehension-iter-twice" false) := by kernel_rfl
theorem way2 (w : World) : WayOk ((w.withFollow "special-get-raises" false).withFollow "comprehension-iter-twice" true) := by kernel_rfl
theorem way3 (w : World) : WayOk ((w.withFollow "special-get-raises" true).withFollow "comprehension-iter-twice" true) := by kernel_rfl
theorem left : LeftO pgm qv looseL Xh (Hook.obs Hk) (Hook.val Hk) 5884 := fun w => by
  have e : WayOk w := byRow2 "comprehension-iter-twice" (P := fun w => WayOk w) (fun w => byRow2 "special-get-raises" (P := fun w => WayOk (w.withFollow "comprehension-iter-twice" false)) (fun w => way0 w) (fun w => way1 w) w) (fun w => byRow2 "special-get-raises" (P := fun w => WayOk (w.withFollow "comprehension-iter-twice" true)) (fun w => way2 w) (fun w => way3 w) w) w
  unfold WayOk endsQ seenQ at e
  unfold openEnds fencedOpening topFrom
  rw [Fast.te10274390034422433532, Fast.te14364793385576792824, Fast.te14289696077712309145, Fast.te14082659384304107361, Fast.te5923862056798008813, Fast.te4187177175401517315]
  exact e
theorem said : PySem.Challenge.rw_kt0061_01.wellSaid = true := by kernel_rfl
end Mine.Tactic
namespace Mine.Tactic
theorem defs_ok : ∃ d kwd, defOf qv rowL.name = some (d, kwd) ∧ rowL.prog.theDef rowL.name = some (d.params, d.body, d.scope) ∧ kwWritten? d.params.kwonlyargs d.params.kw_defaults = some kwd := by
  have h1 : (defOf qv rowL.name).isSome = true := by kernel_rfl
  have h2 : (defOf qv rowL.name).map (fun x => some (x.1.params, x.1.body, x.1.scope)) = some (rowL.prog.theDef rowL.name) := by kernel_rfl
  have h3 : (defOf qv rowL.name).map (fun x => kwWritten? x.1.params.kwonlyargs x.1.params.kw_defaults) = (defOf qv rowL.name).map (fun x => some x.2) := by kernel_rfl
  cases e : defOf qv rowL.name with
  | none => rw [e] at h1; cases h1
  | some x =>
    rw [e] at h2 h3
    exact ⟨x.1, x.2, rfl, (Option.some.inj h2).symm, Option.some.inj h3⟩
theorem hd (call : ∀ d kwd, defOf qv rowL.name = some (d, kwd) → WalkO qv looseL (XL qv []) (Hook.says Hk) rowL.toRowW d kwd fun f vs => PySem.call f vs) : PySem.Challenge.rw_kt0061_01.Holds := by
  obtain ⟨d, kwd, h1, h2, h3⟩ := defs_ok
  refine holds_law said fun said => ?_
  exact holds_open (q := qv) (loose := looseL) (Xt := Xh) (XP := XL qv []) (Yf := Hook.obs Hk) (Ya := Hook.val Hk) (YP := Hook.says Hk) left (Hook.of Hk) (Hook.keeps Hk) (fun s e => xl_of s (Bool.and_eq_true_iff.mp e).1) XL.keeps h1 h2 h3
    (fun s e => recFacts_of (Bool.and_eq_true_iff.mp e).2) (by rfl) said (by decide +kernel) ⟨rfl, rfl, rfl, rfl, rfl, by decide +kernel⟩ (by w_witness2) (call d kwd h1)
end Mine.Tactic
end
section
set_option Elab.async false
set_option maxRecDepth 100000
namespace Mine.Tactic
inductive BX where
  | var (i : Nat)
  | and (a b : BX)
  | or (a b : BX)
  | xor (a b : BX)
  | tt
  | ff
namespace BX
noncomputable def ev (v : Nat → Bool) : BX → Bool
  | var i => v i
  | and a b => a.ev v && b.ev v
  | or a b => a.ev v || b.ev v
  | xor a b => a.ev v ^^ b.ev v
  | tt => true
  | ff => false
noncomputable def colT (i : Nat) : Nat → Nat
  | 0 => 0
  | n + 1 => if i = n then (2 ^ 2 ^ n - 1) <<< 2 ^ n else colT i n ||| (colT i n <<< 2 ^ n)
noncomputable def allT (n : Nat) : Nat := 2 ^ 2 ^ n - 1
noncomputable def tab (n : Nat) : BX → Nat
  | var i => colT i n
  | and a b => a.tab n &&& b.tab n
  | or a b => a.tab n ||| b.tab n
  | xor a b => a.tab n ^^^ b.tab n
  | tt => allT n
  | ff => 0
theorem colT_bit (i : Nat) : ∀ n j, (colT i n).testBit j = (decide (j < 2 ^ n) && (decide (i < n) && j.testBit i))
  | 0, j => by simp [colT]
  | n + 1, j => by
    have e2 : 2 ^ (n + 1) = 2 ^ n + 2 ^ n := by rw [Nat.pow_succ]; walk_at "zo"
    unfold colT
    split
    · rename_i h; subst h
      rw [Nat.testBit_shiftLeft, Nat.testBit_two_pow_sub_one, e2]
      by_cases h1 : j < 2 ^ i
      · have : j.testBit i = false := Nat.testBit_lt_two_pow h1
        rw [this, decide_eq_false (show ¬ j ≥ 2 ^ i by walk_at "zo")]; simp
      · by_cases h2 : j < 2 ^ i + 2 ^ i
        · have : j.testBit i = true := by
            obtain ⟨r, rfl⟩ : ∃ r, j = 2 ^ i + r := ⟨j - 2 ^ i, by walk_at "zo"⟩
            have hr : r < 2 ^ i := by walk_at "zo"
            rw [Nat.testBit_two_pow_add_eq, Nat.testBit_lt_two_pow hr]; rfl
          rw [this, decide_eq_true h2, decide_eq_true (show j ≥ 2 ^ i by walk_at "zo"), decide_eq_true (show j - 2 ^ i < 2 ^ i by walk_at "zo"), decide_eq_true (Nat.lt_succ_self i)]; rfl
        · rw [decide_eq_false h2, decide_eq_false (show ¬ j - 2 ^ i < 2 ^ i by walk_at "zo")]; simp
    · rename_i h
      rw [Nat.testBit_or, Nat.testBit_shiftLeft, colT_bit i n, colT_bit i n, e2]
      by_cases h1 : j < 2 ^ n
      · have : ¬ (2 ^ n ≤ j) := by walk_at "zo"
        by_cases h3 : i < n
        · simp [h1, this, h3, show j < 2 ^ n + 2 ^ n by walk_at "zo", show i < n + 1 by walk_at "zo"]
        · simp [h3, this, show ¬ i < n + 1 by walk_at "zo"]
      · by_cases h2 : j < 2 ^ n + 2 ^ n
        · obtain ⟨r, rfl⟩ : ∃ r, j = 2 ^ n + r := ⟨j - 2 ^ n, by walk_at "zo"⟩
          have hr : r < 2 ^ n := by walk_at "zo"
          rw [Nat.add_sub_cancel_left]
          by_cases h3 : i < n
          · rw [Nat.testBit_two_pow_add_gt h3]
            simp [hr, h3, show i < n + 1 by walk_at "zo"]
          · simp [h3, show ¬ i < n + 1 by walk_at "zo"]
        · simp [h1, h2, show ¬ (j - 2 ^ n < 2 ^ n) by walk_at "zo"]
theorem tab_bit (n : Nat) {v : Nat → Bool} {j : Nat} (hj : j < 2 ^ n) (hv : ∀ i, v i = (decide (i < n) && j.testBit i)) : ∀ e : BX, (e.tab n).testBit j = e.ev v
  | var i => by show (colT i n).testBit j = v i; rw [colT_bit, hv, decide_eq_true hj, Bool.true_and]
  | and a b => by show Nat.testBit (Nat.land _ _) j = _; refine (Nat.testBit_and ..).trans ?_; rw [tab_bit n hj hv a, tab_bit n hj hv b]; rfl
  | or a b => by show Nat.testBit (Nat.lor _ _) j = _; refine (Nat.testBit_or ..).trans ?_; rw [tab_bit n hj hv a, tab_bit n hj hv b]; rfl
  | xor a b => by show Nat.testBit (Nat.xor _ _) j = _; refine (Nat.testBit_xor ..).trans ?_; rw [tab_bit n hj hv a, tab_bit n hj hv b]; rfl
  | tt => by show (2 ^ 2 ^ n - 1).testBit j = true; rw [Nat.testBit_two_pow_sub_one]; exact decide_eq_true hj
  | ff => by show (0).testBit j = false; simp
noncomputable def placeN (v : Nat → Bool) : Nat → Nat
  | 0 => 0
  | n + 1 => if v n then 2 ^ n + placeN v n else placeN v n
theorem placeN_lt (v : Nat → Bool) : ∀ n, placeN v n < 2 ^ n
  | 0 => by simp [placeN]
  | n + 1 => by
    have := placeN_lt v n
    have e2 : 2 ^ (n + 1) = 2 ^ n + 2 ^ n := by rw [Nat.pow_succ]; walk_at "zo"
    unfold placeN
    split <;> walk_at "zo"
theorem placeN_bit (v : Nat → Bool) : ∀ n i, (placeN v n).testBit i = (decide (i < n) && v i)
  | 0, i => by simp [placeN]
  | n + 1, i => by
    have hl := placeN_lt v n
    have ih := placeN_bit v n
    unfold placeN
    by_cases h : v n = true
    · rw [if_pos h]
      by_cases h1 : i = n
      · subst h1
        rw [Nat.testBit_two_pow_add_eq, Nat.testBit_lt_two_pow hl, h]; simp
      · by_cases h2 : i < n
        · rw [Nat.testBit_two_pow_add_gt h2, ih]
          simp [h2, show i < n + 1 by walk_at "zo"]
        · have : 2 ^ n + placeN v n < 2 ^ i := by
            have : 2 ^ (n + 1) ≤ 2 ^ i := Nat.pow_le_pow_right (by decide) (by walk_at "zo")
            have e2 : 2 ^ (n + 1) = 2 ^ n + 2 ^ n := by rw [Nat.pow_succ]; walk_at "zo"
            walk_at "zo"
          rw [Nat.testBit_lt_two_pow this]; simp; walk_at "zo"
    · rw [if_neg h, ih]
      by_cases h1 : i = n
      · subst h1; simp [h]
      · by_cases h2 : i < n
        · simp [h2, show i < n + 1 by walk_at "zo"]
        · simp [h2, show ¬ i < n + 1 by walk_at "zo"]
theorem taut {n : Nat} {e : BX} (h : e.tab n = allT n) {v : Nat → Bool} (hv : ∀ i, n ≤ i → v i = false) : e.ev v = true := by
  have hv' : ∀ i, v i = (decide (i < n) && (placeN v n).testBit i) := fun i => by
    rw [placeN_bit]
    by_cases q : i < n
    · simp [q]
    · simp [q, hv i (by walk_at "zo")]
  rw [← tab_bit n (placeN_lt v n) hv' e, h]
  unfold allT
  rw [Nat.testBit_two_pow_sub_one]
  exact decide_eq_true (placeN_lt v n)
noncomputable def orL : List BX → BX
  | [] => ff
  | a :: l => or a (orL l)
noncomputable def andL : List BX → BX
  | [] => tt
  | a :: l => and a (andL l)
noncomputable def not (a : BX) : BX := xor tt a
noncomputable def iff (a b : BX) : BX := not (xor a b)
theorem ev_orL (v : Nat → Bool) : ∀ l : List BX, (orL l).ev v = l.any (·.ev v)
  | [] => rfl
  | a :: l => by show (_ || (orL l).ev v) = _; rw [ev_orL v l]; rfl
theorem ev_andL (v : Nat → Bool) : ∀ l : List BX, (andL l).ev v = l.all (·.ev v)
  | [] => rfl
  | a :: l => by show (_ && (andL l).ev v) = _; rw [ev_andL v l]; rfl
theorem ev_not (v : Nat → Bool) (a : BX) : (not a).ev v = !(a.ev v) := by show (true ^^ _) = _; simp
theorem ev_iff (v : Nat → Bool) (a b : BX) : (iff a b).ev v = (a.ev v == b.ev v) := by show (true ^^ (_ ^^ _)) = _; cases a.ev v <;> cases b.ev v <;> rfl
end BX
end Mine.Tactic
end
section
open PySem PySem.W PyProof.Rows PySem.Calls
set_option Elab.async false
set_option maxRecDepth 100000
namespace Mine.Tactic
theorem runs_toks {M : Model} {Γ : Ctx} {p : Pos} {t : Sem Fin} {fs : List Frame} {s : Shared} {e : End} {s' : Shared} (h : Runs M Γ p t fs s e s') : s.toks ≤ s'.toks := by
  induction h with
  | done => exact Nat.le_refl _
  | raise => exact Nat.le_refl _
  | yield => exact Nat.le_refl _
  | fresh _ ih => exact Nat.le_trans (Nat.le_succ _) ih
  | call _ _ a b => exact Nat.le_trans a b
  | resumeFresh _ _ _ _ a b => exact Nat.le_trans a b
  | resumeSuspended _ _ _ _ a b => exact Nat.le_trans a b
  | segRet _ _ a b => exact Nat.le_trans a b
  | segGen _ _ a b => exact Nat.le_trans a b
  | segSuspGen _ _ _ _ a b => exact Nat.le_trans a b
  | _ => assumption
theorem wakes_toks {M : Model} {Γ : Ctx} {p : Pos} {g : Nat} {r : Resume} {s : Shared} {res : GenResult} {s' : Shared} (h : Wakes M Γ p g r s res s') : s.toks ≤ s'.toks := by
  unfold Wakes at h
  split at h
  · exact h.elim
  · split at h
    · obtain ⟨e₁, s₁, h1, _, _, rfl⟩ := h; have := runs_toks h1; exact this
    · rw [h.2]; exact Nat.le_refl _
    · rw [h.2]; exact Nat.le_refl _
  · obtain ⟨e₁, s₁, h1, _, _, rfl⟩ := h; have := runs_toks h1; exact this
  · rw [h.2]; exact Nat.le_refl _
  · rw [h.2]; exact Nat.le_refl _
theorem wp_toks {α : Type} {M : Model} {Γ : Ctx} : ∀ (t : Sem α) {Q : α → Pos → Shared → Prop} {E : Value → Pos → Shared → Prop} {p : Pos} {s : Shared},
    Sem.wp M Γ t (fun a p' s' => s.toks ≤ s'.toks → Q a p' s') (fun e p' s' => s.toks ≤ s'.toks → E e p' s') p s → Sem.wp M Γ t Q E p s := by
  intro t
  induction t with
  | pure a => intro Q E p s h; unfold Sem.wp at h ⊢; exact h (Nat.le_refl _)
  | raise e => intro Q E p s h; unfold Sem.wp at h ⊢; exact h (Nat.le_refl _)
  | unsupported => intro Q E p s h; unfold Sem.wp at h; exact h.elim
  | finish => intro Q E p s h; unfold Sem.wp at h; exact h.elim
  | register => intro Q E p s h; unfold Sem.wp at h; exact h.elim
  | yield => intro Q E p s h; unfold Sem.wp at h; exact h.elim
  | fork => intro Q E p s h; unfold Sem.wp at h; exact h.elim
  | await => intro Q E p s h; unfold Sem.wp at h; exact h.elim
  | load a part k ih => intro Q E p s h; unfold Sem.wp at h ⊢; obtain ⟨o, h1, h2⟩ := h; exact ⟨o, h1, ih o h2⟩
  | update a part f k ih => intro Q E p s h; unfold Sem.wp at h ⊢; exact ⟨h.1, ih () (s := { s with heap := s.heap.update a f }) h.2⟩
  | alloc o k ih => intro Q E p s h; unfold Sem.wp at h ⊢; exact ih _ (s := { s with heap := s.heap.push o }) h
  | fresh k ih =>
    intro Q E p s h; unfold Sem.wp at h ⊢
    exact ih s.toks (s := { s with toks := s.toks + 1 }) (Sem.wp_mono M Γ _ (fun a p' s' (h : s.toks ≤ s'.toks → Q a p' s') (hle : s.toks + 1 ≤ s'.toks) => h (Nat.le_trans (Nat.le_succ _) hle)) (fun a p' s' (h : s.toks ≤ s'.toks → E a p' s') (hle : s.toks + 1 ≤ s'.toks) => h (Nat.le_trans (Nat.le_succ _) hle)) p _ h)
  | choose src n k ih => intro Q E p s h; unfold Sem.wp at h ⊢; exact ⟨h.1, ih _ (s := { s with drawn := s.drawn.bump src }) h.2⟩
  | os q l k ih => intro Q E p s h; unfold Sem.wp at h ⊢; exact ih _ (s := { s with os := (Os.step s.os q).1 }) h
  | call c hd g l k ih =>
    intro Q E p s h; unfold Sem.wp at h ⊢
    obtain ⟨r, s', h1, h2⟩ := h
    have hle := runs_toks h1
    refine ⟨r, s', h1, ih r (Sem.wp_mono M Γ _ (fun a p' s'' h hl => h (Nat.le_trans hle hl)) (fun a p' s'' h hl => h (Nat.le_trans hle hl)) p _ h2)⟩
  | genState g k ih => intro Q E p s h; unfold Sem.wp at h ⊢; obtain ⟨o, h1, h2⟩ := h; exact ⟨o, h1, ih _ h2⟩
  | newGen c k ih => intro Q E p s h; unfold Sem.wp at h ⊢; exact ih _ (s := { s with gens := s.gens.push (.fresh c) }) h
  | resume g r l k ih =>
    intro Q E p s h; unfold Sem.wp at h ⊢
    obtain ⟨res, s', h1, h2⟩ := h
    have hle := wakes_toks h1
    refine ⟨res, s', h1, ih res (Sem.wp_mono M Γ _ (fun a p' s'' h hl => h (Nat.le_trans hle hl)) (fun a p' s'' h hl => h (Nat.le_trans hle hl)) p _ h2)⟩
  | rule tag k ih => intro Q E p s h; unfold Sem.wp at h ⊢; exact ih _ h
  | «at» p k ih => intro Q E p s h; unfold Sem.wp at h ⊢; exact ih _ h
  | loadIfAlive a k ih => intro Q E p s h; unfold Sem.wp at h ⊢; exact ih _ h
  | point l k ih => intro Q E p s h; unfold Sem.wp at h ⊢; exact ih _ h
  | ask k ih => intro Q E p s h; unfold Sem.wp at h ⊢; exact ih _ h
  | handled o k ih => intro Q E p s h; unfold Sem.wp at h ⊢; exact ih _ h
  | stack k ih => intro Q E p s h; unfold Sem.wp at h ⊢; exact ih _ h
  | thread k ih => intro Q E p s h; unfold Sem.wp at h ⊢; exact ih _ h
theorem wpAny_up {α : Type} {M : Model} {A : Around} {t : Sem α} {Q : α → Shared → Prop} {E : Value → Shared → Prop} {s : Shared} (h : wpAny M A t (fun a s' => s.toks ≤ s'.toks → Q a s') E s) : wpAny M A t Q E s :=
  fun Γ p hΓ => wp_toks t (Sem.wp_mono M Γ t (fun _ _ _ h => h) (fun e p' s' (h : E e s') => (fun _ => h : s.toks ≤ s'.toks → E e s')) p s (h Γ p hΓ))
end Mine.Tactic
end
section
open PySem PySem.W PyProof.Rows PySem.Calls
set_option Elab.async false
set_option maxRecDepth 100000
namespace Mine.Tactic

structure PM where
  f : Addr → Option Obj
  n : Nat
noncomputable def PMle (im im' : PM) : Prop := (∀ a o, im.f a = some o → im'.f a = some o) ∧ im.n ≤ im'.n
theorem PMle.trans {a b c : PM} (h : PMle a b) (k : PMle b c) : PMle a c := ⟨fun x o e => k.1 x o (h.1 x o e), Nat.le_trans h.2 k.2⟩

inductive PV where
  | none | bool (b : Bool) | int (i : Int) | str (l : List Nat)
  | tup (l : List PV) | lst (l : List PV) | ref (a : Addr) | con (v : Value) | rng (a b c : Int)
  | strB (l : List Nat) | strL (l : List Nat) | intB (i : Int) | bm (id : String) (a : Addr) | obj (C : Addr) (l : List (String × PV)) | imo (o : Obj)

noncomputable abbrev tupO (vs : List Value) (n : Nat) : Obj := { cls := .type "tuple", data := .seq vs.toArray n }
noncomputable abbrev lstO (vs : List Value) (n : Nat) : Obj := { cls := .type "list", data := .seq vs.toArray n }
noncomputable abbrev bmO (id : String) (a : Addr) : Obj := { cls := .type "builtin_function_or_method", data := .fields #[.builtin id, .ref a] }
noncomputable abbrev insO (C dx : Addr) : Obj := { cls := .ref C, dict := some dx, data := .plain }
noncomputable abbrev dicO (es : List DictEntry) (n : Nat) : Obj := { cls := .type "dict", data := .dict es.toArray n }

mutual
noncomputable def VR (im : PM) : PV → Value → Prop
  | .none, v => v = .none
  | .bool b, v => v = .bool b
  | .int i, v => ∃ t, v = .int i t
  | .str l, v => ∃ t, v = .str ⟨l.toArray⟩ t
  | .strB l, v => ∃ t, v = .str ⟨l.toArray⟩ t ∧ t ≠ 0 ∧ t < im.n
  | .strL l, v => ∃ t, v = .str ⟨l.toArray⟩ t ∧ t < im.n
  | .intB i, v => ∃ t, v = .int i t ∧ t < im.n
  | .tup ps, v => ∃ a vs n, v = .ref a ∧ im.f a = some (tupO vs n) ∧ VRs im ps vs
  | .lst ps, v => ∃ a vs n, v = .ref a ∧ im.f a = some (lstO vs n) ∧ VRs im ps vs
  | .bm id a, v => ∃ b, v = .ref b ∧ im.f b = some (bmO id a)
  | .obj C l, v => ∃ x d es n, v = .ref x ∧ im.f x = some (insO C d) ∧ im.f d = some (dicO es n) ∧ VRe im l es
  | .ref a, v => v = .ref a
  | .con c, v => v = c
  | .imo o, v => ∃ b, v = .ref b ∧ im.f b = some o
  | .rng a b c, v => ∃ r t u w, v = .ref r ∧ im.f r = some { cls := .type "range", dict := none, data := .fields #[.int a t, .int b u, .int c w], slots := #[] }
noncomputable def VRs (im : PM) : List PV → List Value → Prop
  | [], vs => vs = []
  | p :: ps, vs => ∃ v vs', vs = v :: vs' ∧ VR im p v ∧ VRs im ps vs'
noncomputable def VRe (im : PM) : List (String × PV) → List DictEntry → Prop
  | [], es => es = []
  | (x, p) :: ps, es => ∃ hh t v es', es = ⟨hh, .str (Str.ofString x) t, v⟩ :: es' ∧ VR im p v ∧ VRe im ps es'
end
mutual
theorem VR.mono {im im' : PM} (h : PMle im im') : ∀ (p : PV) (v : Value), VR im p v → VR im' p v
  | .none, v, x => by unfold VR at *; exact x
  | .bool b, v, x => by unfold VR at *; exact x
  | .int i, v, x => by unfold VR at *; exact x
  | .str l, v, x => by unfold VR at *; exact x
  | .strB l, v, x => by unfold VR at *; obtain ⟨t, h1, h2, h3⟩ := x; exact ⟨t, h1, h2, Nat.lt_of_lt_of_le h3 h.2⟩
  | .strL l, v, x => by unfold VR at *; obtain ⟨t, h1, h3⟩ := x; exact ⟨t, h1, Nat.lt_of_lt_of_le h3 h.2⟩
  | .intB i, v, x => by unfold VR at *; obtain ⟨t, h1, h3⟩ := x; exact ⟨t, h1, Nat.lt_of_lt_of_le h3 h.2⟩
  | .tup ps, v, x => by
    unfold VR at *
    obtain ⟨a, vs, n, h1, h2, h5⟩ := x
    exact ⟨a, vs, n, h1, h.1 _ _ h2, VRs.mono h ps vs h5⟩
  | .lst ps, v, x => by
    unfold VR at *
    obtain ⟨a, vs, n, h1, h2, h5⟩ := x
    exact ⟨a, vs, n, h1, h.1 _ _ h2, VRs.mono h ps vs h5⟩
  | .bm id a, v, x => by unfold VR at *; obtain ⟨b, h1, h2⟩ := x; exact ⟨b, h1, h.1 _ _ h2⟩
  | .obj C l, v, x => by
    unfold VR at *
    obtain ⟨a, d, es, n, h1, h2, h3, h4⟩ := x
    exact ⟨a, d, es, n, h1, h.1 _ _ h2, h.1 _ _ h3, VRe.mono h l es h4⟩
  | .ref a, v, x => by unfold VR at *; exact x
  | .con c, v, x => by unfold VR at *; exact x
  | .imo o, v, x => by unfold VR at *; obtain ⟨b, h1, h2⟩ := x; exact ⟨b, h1, h.1 _ _ h2⟩
  | .rng a b c, v, x => by unfold VR at *; obtain ⟨r, t, u, w, h1, h2⟩ := x; exact ⟨r, t, u, w, h1, h.1 _ _ h2⟩
theorem VRs.mono {im im' : PM} (h : PMle im im') : ∀ (ps : List PV) (vs : List Value), VRs im ps vs → VRs im' ps vs
  | [], vs, x => by unfold VRs at *; exact x
  | p :: ps, vs, x => by
    unfold VRs at *
    obtain ⟨v, vs', h1, h2, h3⟩ := x
    exact ⟨v, vs', h1, VR.mono h p v h2, VRs.mono h ps vs' h3⟩
theorem VRe.mono {im im' : PM} (h : PMle im im') : ∀ (ps : List (String × PV)) (es : List DictEntry), VRe im ps es → VRe im' ps es
  | [], es, x => by unfold VRe at *; exact x
  | (y, p) :: ps, es, x => by
    unfold VRe at *
    obtain ⟨hh, t, v, es', h1, h2, h3⟩ := x
    exact ⟨hh, t, v, es', h1, VR.mono h p v h2, VRe.mono h ps es' h3⟩
end
theorem VRe.nil {im : PM} : VRe im [] [] := by unfold VRe; rfl
theorem VRe.cons {im : PM} {x : String} {p : PV} {ps : List (String × PV)} {hh : Int} {t : Tok} {v : Value} {es : List DictEntry} (h : VR im p v) (hs : VRe im ps es) : VRe im ((x, p) :: ps) (⟨hh, .str (Str.ofString x) t, v⟩ :: es) := by
  unfold VRe; exact ⟨_, _, _, _, rfl, h, hs⟩
theorem VRe.nil_inv {im : PM} {es : List DictEntry} (h : VRe im [] es) : es = [] := by unfold VRe at h; exact h
theorem VRe.cons_inv {im : PM} {x : String} {p : PV} {ps : List (String × PV)} {es : List DictEntry} (h : VRe im ((x, p) :: ps) es) : ∃ hh t v es', es = ⟨hh, .str (Str.ofString x) t, v⟩ :: es' ∧ VR im p v ∧ VRe im ps es' := by unfold VRe at h; exact h
theorem VRs.nil {im : PM} : VRs im [] [] := by unfold VRs; rfl
theorem VRs.cons {im : PM} {p : PV} {ps : List PV} {v : Value} {vs : List Value} (h : VR im p v) (hs : VRs im ps vs) : VRs im (p :: ps) (v :: vs) := by unfold VRs; exact ⟨_, _, rfl, h, hs⟩
theorem VRs.nil_inv {im : PM} {vs : List Value} (h : VRs im [] vs) : vs = [] := by unfold VRs at h; exact h
theorem VRs.cons_inv {im : PM} {p : PV} {ps : List PV} {vs : List Value} (h : VRs im (p :: ps) vs) : ∃ v vs', vs = v :: vs' ∧ VR im p v ∧ VRs im ps vs' := by unfold VRs at h; exact h
theorem VRs.length {im : PM} : ∀ {ps : List PV} {vs : List Value}, VRs im ps vs → vs.length = ps.length
  | [], vs, h => by rw [h.nil_inv]; rfl
  | _ :: _, vs, h => by obtain ⟨v, vs', rfl, _, h3⟩ := h.cons_inv; rw [List.length_cons, List.length_cons, h3.length]
theorem VRs.append {im : PM} : ∀ {ps qs : List PV} {vs ws : List Value}, VRs im ps vs → VRs im qs ws → VRs im (ps ++ qs) (vs ++ ws)
  | [], _, vs, _, h, k => by rw [h.nil_inv]; exact k
  | _ :: _, _, vs, _, h, k => by obtain ⟨v, vs', rfl, h2, h3⟩ := h.cons_inv; exact .cons h2 (h3.append k)
theorem VRs.get {im : PM} : ∀ {ps : List PV} {vs : List Value}, VRs im ps vs → ∀ {i : Nat} {p : PV}, ps[i]? = some p → ∃ v, vs[i]? = some v ∧ VR im p v
  | [], vs, h, i, p, e => by simp at e
  | q :: qs, vs, h, i, p, e => by
    obtain ⟨v, vs', rfl, h2, h3⟩ := h.cons_inv
    cases i with
    | zero => simp at e; subst e; exact ⟨v, rfl, h2⟩
    | succ i => simp at e; exact h3.get e
theorem VRs.set {im : PM} : ∀ {ps : List PV} {vs : List Value}, VRs im ps vs → ∀ {i : Nat} {p : PV} {v : Value}, VR im p v → VRs im (ps.set i p) (vs.set i v)
  | [], vs, h, i, p, v, k => by rw [h.nil_inv]; exact .nil
  | q :: qs, vs, h, i, p, v, k => by
    obtain ⟨w, vs', rfl, h2, h3⟩ := h.cons_inv
    cases i with
    | zero => exact .cons k h3
    | succ i => exact .cons h2 (h3.set k)
theorem VRs.take {im : PM} : ∀ {ps : List PV} {vs : List Value}, VRs im ps vs → ∀ (i : Nat), VRs im (ps.take i) (vs.take i)
  | [], vs, h, i => by rw [h.nil_inv]; simp; exact .nil
  | q :: qs, vs, h, i => by
    obtain ⟨w, vs', rfl, h2, h3⟩ := h.cons_inv
    cases i with
    | zero => exact .nil
    | succ i => exact .cons h2 (h3.take i)
theorem VRs.drop {im : PM} : ∀ {ps : List PV} {vs : List Value}, VRs im ps vs → ∀ (i : Nat), VRs im (ps.drop i) (vs.drop i)
  | [], vs, h, i => by rw [h.nil_inv]; simp; exact .nil
  | q :: qs, vs, h, i => by
    obtain ⟨w, vs', rfl, h2, h3⟩ := h.cons_inv
    cases i with
    | zero => exact .cons h2 h3
    | succ i => exact h3.drop i

theorem VR.none_i {im : PM} {v : Value} (h : VR im .none v) : v = .none := by unfold VR at h; exact h
theorem VR.bool_i {im : PM} {b : Bool} {v : Value} (h : VR im (.bool b) v) : v = .bool b := by unfold VR at h; exact h
theorem VR.int_i {im : PM} {i : Int} {v : Value} (h : VR im (.int i) v) : ∃ t, v = .int i t := by unfold VR at h; exact h
theorem VR.str_i {im : PM} {l : List Nat} {v : Value} (h : VR im (.str l) v) : ∃ t, v = .str ⟨l.toArray⟩ t := by unfold VR at h; exact h
theorem VR.ref_i {im : PM} {a : Addr} {v : Value} (h : VR im (.ref a) v) : v = .ref a := by unfold VR at h; exact h
theorem VR.con_i {im : PM} {c v : Value} (h : VR im (.con c) v) : v = c := by unfold VR at h; exact h
theorem VR.tup_i {im : PM} {ps : List PV} {v : Value} (h : VR im (.tup ps) v) : ∃ a vs n, v = .ref a ∧ im.f a = some (tupO vs n) ∧ VRs im ps vs := by unfold VR at h; exact h
theorem VR.lst_i {im : PM} {ps : List PV} {v : Value} (h : VR im (.lst ps) v) : ∃ a vs n, v = .ref a ∧ im.f a = some (lstO vs n) ∧ VRs im ps vs := by unfold VR at h; exact h
theorem VR.bm_i {im : PM} {id : String} {a : Addr} {v : Value} (h : VR im (.bm id a) v) : ∃ b, v = .ref b ∧ im.f b = some (bmO id a) := by unfold VR at h; exact h
theorem VR.obj_i {im : PM} {C : Addr} {l : List (String × PV)} {v : Value} (h : VR im (.obj C l) v) : ∃ x d es n, v = .ref x ∧ im.f x = some (insO C d) ∧ im.f d = some (dicO es n) ∧ VRe im l es := by unfold VR at h; exact h
theorem VR.imo_i {im : PM} {o : Obj} {v : Value} (h : VR im (.imo o) v) : ∃ b, v = .ref b ∧ im.f b = some o := by unfold VR at h; exact h
theorem VR.imo {im : PM} {o : Obj} {b : Addr} (h : im.f b = some o) : VR im (.imo o) (.ref b) := by unfold VR; exact ⟨b, rfl, h⟩
theorem VR.bm {im : PM} {id : String} {a b : Addr} (h : im.f b = some (bmO id a)) : VR im (.bm id a) (.ref b) := by unfold VR; exact ⟨b, rfl, h⟩
theorem VR.obj {im : PM} {C x d : Addr} {es : List DictEntry} {n : Nat} {l : List (String × PV)} (h : im.f x = some (insO C d)) (hd : im.f d = some (dicO es n)) (he : VRe im l es) : VR im (.obj C l) (.ref x) := by unfold VR; exact ⟨x, d, es, n, rfl, h, hd, he⟩
theorem VR.rng_i {im : PM} {a b c : Int} {v : Value} (h : VR im (.rng a b c) v) : ∃ r t u w, v = .ref r ∧ im.f r = some { cls := .type "range", dict := none, data := .fields #[.int a t, .int b u, .int c w], slots := #[] } := by unfold VR at h; exact h
theorem VR.none {im : PM} : VR im .none .none := by unfold VR; rfl
theorem VR.bool {im : PM} {b : Bool} : VR im (.bool b) (.bool b) := by unfold VR; rfl
theorem VR.int {im : PM} {i : Int} {t : Tok} : VR im (.int i) (.int i t) := by unfold VR; exact ⟨t, rfl⟩
theorem VR.str {im : PM} {l : List Nat} {t : Tok} : VR im (.str l) (.str ⟨l.toArray⟩ t) := by unfold VR; exact ⟨t, rfl⟩
theorem VR.str' {im : PM} {x : Str} {t : Tok} : VR im (.str x.cps.toList) (.str x t) := by unfold VR; exact ⟨t, by simp⟩
theorem VR.ref {im : PM} {a : Addr} : VR im (.ref a) (.ref a) := by unfold VR; rfl
theorem VR.con {im : PM} {c : Value} : VR im (.con c) c := by unfold VR; rfl
theorem VR.rng {im : PM} {r : Addr} {a b c : Int} {t u w : Tok} (h : im.f r = some { cls := .type "range", dict := Option.none, data := .fields #[.int a t, .int b u, .int c w], slots := #[] }) : VR im (.rng a b c) (.ref r) := by unfold VR; exact ⟨r, t, u, w, rfl, h⟩
theorem VR.tup {im : PM} {a : Addr} {vs : List Value} {n : Nat} {ps : List PV} (h : im.f a = some (tupO vs n)) (hv : VRs im ps vs) : VR im (.tup ps) (.ref a) := by
  unfold VR; exact ⟨a, vs, n, rfl, h, hv⟩
theorem VR.lst {im : PM} {a : Addr} {vs : List Value} {n : Nat} {ps : List PV} (h : im.f a = some (lstO vs n)) (hv : VRs im ps vs) : VR im (.lst ps) (.ref a) := by
  unfold VR; exact ⟨a, vs, n, rfl, h, hv⟩

inductive LO where
  | list (l : List PV)
  | rit (a : Int) (n : Nat) (c : Int)
  | ins (C d : Addr)
  | att (l : List (String × PV))
  | obj (o : Obj)
  | dic (p : Program) (w : World) (l : List (List Nat × PV))

noncomputable def KVR (im : PM) (l : List (List Nat × PV)) (kvs : List (Str × Value)) : Prop := kvs.map (·.1) = l.map (fun p => (⟨p.1.toArray⟩ : Str)) ∧ VRs im (l.map (·.2)) (kvs.map (·.2))
noncomputable def LR (im : PM) (h : Heap) (a : Addr) : LO → Prop
  | .list ps => ∃ vs n, h.get? a = some (lstO vs n) ∧ VRs im ps vs
  | .rit st n c => IsRangeIter h a st (n : Int) c
  | .ins C d => h.get? a = some (insO C d)
  | .att l => ∃ es n, h.get? a = some (dicO es n) ∧ VRe im l es
  | .obj o => h.get? a = some o
  | .dic p w l => ∃ kvs, h.DictOf (PySem.strKind p w) a kvs ∧ KVR im l kvs

theorem LR.at {im : PM} {h h' : Heap} {a : Addr} {o : LO} (x : LR im h a o) (e : ∀ y, h.get? a = some y → h'.get? a = some y) : LR im h' a o := by
  cases o with
  | list ps => obtain ⟨vs, n, h1, h2⟩ := x; exact ⟨vs, n, e _ h1, h2⟩
  | rit st n c => exact e _ x
  | ins C d => exact e _ x
  | att l => obtain ⟨es, n, h1, h2⟩ := x; exact ⟨es, n, e _ h1, h2⟩
  | obj o => exact e _ x
  | dic p w l => obtain ⟨kvs, ⟨o, es, ep, h1, r⟩, h2⟩ := x; exact ⟨kvs, ⟨o, es, ep, e _ h1, r⟩, h2⟩
theorem LR.mono {im im' : PM} {h : Heap} {a : Addr} {o : LO} (x : LR im h a o) (e : PMle im im') : LR im' h a o := by
  cases o with
  | list ps => obtain ⟨vs, n, h1, h2⟩ := x; exact ⟨vs, n, h1, h2.mono e⟩
  | rit st n c => exact x
  | ins C d => exact x
  | att l => obtain ⟨es, n, h1, h2⟩ := x; exact ⟨es, n, h1, h2.mono e⟩
  | obj o => exact x
  | dic p w l => obtain ⟨kvs, h1, h2, h3⟩ := x; exact ⟨kvs, h1, h2, h3.mono e⟩
theorem LR.some {im : PM} {h : Heap} {a : Addr} {o : LO} (x : LR im h a o) : ∃ y, h.get? a = some y := by
  cases o with
  | list ps => obtain ⟨vs, n, h1, h2⟩ := x; exact ⟨_, h1⟩
  | rit st n c => exact ⟨_, x⟩
  | ins C d => exact ⟨_, x⟩
  | att l => obtain ⟨es, n, h1, h2⟩ := x; exact ⟨_, h1⟩
  | obj o => exact ⟨_, x⟩
  | dic p w l => obtain ⟨kvs, ⟨o, es, ep, h1, r⟩, h2⟩ := x; exact ⟨_, h1⟩

structure Cx where
  prog : Program
  w : World
  K : Frag
  os : OsState
  gens : Array GenState
  gl : List (String × PV)
noncomputable abbrev Cx.M (C : Cx) : Model := model C.prog C.w
noncomputable abbrev Cx.base (C : Cx) : PM := ⟨fun a => C.K.lookup a, 0⟩

noncomputable abbrev Led := List (Addr × LO)
noncomputable abbrev Rho := List (String × PV)

noncomputable def PlainName (x : Str) : Prop := (x == ("__debug__" : Str)) = false ∧ (x == ("__classdict__" : Str)) = false
noncomputable def Glob (C : Cx) (x : Str) (v : Value) : Prop :=
  ∀ (env : Env) (A : Around) (E : Value → Shared → Prop) (Q : Value → Shared → Prop) (s : Shared), env.scope.kind = .function → env.globals = mainGlobals → env.builtins = builtinsNs → env.kindOf x = some .globalImplicit →
    (∀ a o, C.base.f a = some o → s.heap.get? a = some o) → Q v s → wpAny C.M A (loadName env x) Q E s

structure GlobP (C : Cx) (x : String) (p : PV) : Prop where
  pn : PlainName (Str.ofString x)
  how : ∃ v, (∀ im, VR im p v) ∧ Glob C (Str.ofString x) v

structure StL (C : Cx) (bs im : PM) (s : Shared) (σ : Led) : Prop where
  os : s.os = C.os
  gens : s.gens = C.gens
  cb : ∀ a o, C.base.f a = some o → bs.f a = some o
  hbs : ∀ a o, bs.f a = some o → s.heap.get? a = some o
  him : ∀ a o, im.f a = some o → s.heap.get? a = some o
  led : ∀ p ∈ σ, LR im s.heap p.1 p.2 ∧ bs.f p.1 = none ∧ im.f p.1 = none
  nd : (σ.map (·.1)).Nodup
  gok : ∀ p ∈ C.gl, GlobP C p.1 p.2
  tk : im.n ≤ s.toks

inductive How (C : Cx) (env : Env) (h : Heap) (m : Str → Option Value) (x : Str) (v : Value) : Prop where
  | loc (hk : env.kindOf x = some .local) (hm : m x = some v)
  | cell (hk : env.kindOf x = some .cell ∨ env.kindOf x = some .free) (c : Addr) (hc : env.cells.lookup x = some c) (hv : h.IsCell c (some v))
  | glob (hk : env.kindOf x = some .globalImplicit) (hg : Glob C x v)
structure Has (C : Cx) (env : Env) (h : Heap) (m : Str → Option Value) (x : Str) (v : Value) : Prop where
  pn : PlainName x
  how : How C env h m x v

noncomputable abbrev Names := List (String × NameKind)
structure FrOk (C : Cx) (env : Env) (κ : List (Str × Addr)) (ns : Names) (cn : List String) (bs im : PM) (h : Heap) (ρ : Rho) (σ : Led) : Prop where
  vars : ∃ m, h.Ns env.locals m ∧ ∀ p ∈ ρ, ∃ v, VR im p.2 v ∧ Has C env h m (Str.ofString p.1) v
  rn : (ρ.map (·.1)).Nodup
  lbs : bs.f env.locals = none
  lim : im.f env.locals = none
  lled : env.locals ∉ σ.map (·.1)
  cells : ∀ p ∈ κ, (∃ v, h.IsCell p.2 v) ∧ bs.f p.2 = none ∧ im.f p.2 = none ∧ p.2 ∉ σ.map (·.1) ∧ env.cells.lookup p.1 = some p.2
  apart : κ.Pairwise fun x y => x.2 ≠ y.2
  outer : ∀ x c, env.cells.lookup x = some c → (x, c) ∈ κ ∨ ∃ o, bs.f c = some o
  kind : env.scope.kind = .function
  gl : env.globals = mainGlobals
  bi : env.builtins = builtinsNs
  kn : ∀ p ∈ ns, env.kindOf (Str.ofString p.1) = some p.2 ∧ PlainName (Str.ofString p.1)
  own : ∀ p ∈ ns, p.2 = NameKind.cell → ∃ c, (Str.ofString p.1, c) ∈ κ
  ck : ∀ x ∈ cn, (env.kindOf (Str.ofString x) = some .cell ∨ env.kindOf (Str.ofString x) = some .free) ∧ ∃ c, env.cells.lookup (Str.ofString x) = some c

structure Gx where
  C : Cx
  env : Env
  κ : List (Str × Addr)
  ns : Names
  cn : List String
  n : Nat

structure St (G : Gx) (bs im : PM) (s : Shared) (ρ : Rho) (σ : Led) : Prop where
  l : StL G.C bs im s σ
  f : FrOk G.C G.env G.κ G.ns G.cn bs im s.heap ρ σ

noncomputable def Ext (bs im im' : PM) : Prop := PMle im im' ∧ ∀ a, im'.f a ≠ none → im.f a ≠ none ∨ bs.f a = none
theorem Ext.refl {bs im : PM} : Ext bs im im := ⟨⟨fun _ _ h => h, Nat.le_refl _⟩, fun _ h => .inl h⟩
theorem Ext.trans {bs im im' im'' : PM} (h : Ext bs im im') (k : Ext bs im' im'') : Ext bs im im'' :=
  ⟨h.1.trans k.1, fun a e => (k.2 a e).elim (h.2 a) .inr⟩

noncomputable def AOk (n : Nat) (A : Around) : Prop := A.handled = none ∧ A.depth + n ≤ 900 ∧ A.units + 8 * n ≤ 9000
theorem AOk.in1 {n : Nat} {A : Around} (h : AOk (n + 1) A) : AOk n A.in1 := ⟨h.1, by have := h.2.1; show A.depth + n ≤ 900; walk_at "zo", by have := h.2.2; show A.units + 1 + 8 * n ≤ 9000; walk_at "zo"⟩
theorem AOk.deeper {n : Nat} {A : Around} (h : AOk (n + 1) A) (env : Env) : AOk n (A.deeper env) := ⟨h.1, by have := h.2.1; show A.depth + 1 + n ≤ 900; walk_at "zo", by have := h.2.2; show A.units + 3 + 8 * n ≤ 9000; walk_at "zo"⟩
theorem AOk.mono {n m : Nat} {A : Around} (h : AOk n A) (k : m ≤ n) : AOk m A := ⟨h.1, by have := h.2.1; walk_at "zo", by have := h.2.2; walk_at "zo"⟩

noncomputable def Post (G : Gx) {α R : Type} (rel : PM → R → α → Prop) (bs im : PM) (Q : R → Rho → Led → Prop) (a : α) (s' : Shared) : Prop :=
  ∃ im' r ρ' σ', Ext bs im im' ∧ rel im' r a ∧ St G bs im' s' ρ' σ' ∧ Q r ρ' σ'
noncomputable def Bot : Value → Shared → Prop := fun _ _ => False
noncomputable def Tr (G : Gx) {α R : Type} (rel : PM → R → α → Prop) (t : Sem α) (ρ : Rho) (σ : Led) (Q : R → Rho → Led → Prop) : Prop :=
  ∀ A bs im s, AOk G.n A → St G bs im s ρ σ → wpAny G.C.M A t (Post G rel bs im Q) Bot s

theorem Post.mono {G : Gx} {α R : Type} {rel : PM → R → α → Prop} {bs im : PM} {Q Q' : R → Rho → Led → Prop} {a : α} {s' : Shared} (h : Post G rel bs im Q a s') (k : ∀ r ρ σ, Q r ρ σ → Q' r ρ σ) : Post G rel bs im Q' a s' := by
  obtain ⟨im', r, ρ', σ', h1, h2, h3, h4⟩ := h
  exact ⟨im', r, ρ', σ', h1, h2, h3, k _ _ _ h4⟩
theorem Post.ext {G : Gx} {α R : Type} {rel : PM → R → α → Prop} {bs im im₁ : PM} {Q : R → Rho → Led → Prop} {a : α} {s' : Shared} (e : Ext bs im im₁) (h : Post G rel bs im₁ Q a s') : Post G rel bs im Q a s' := by
  obtain ⟨im', r, ρ', σ', h1, h2, h3, h4⟩ := h
  exact ⟨im', r, ρ', σ', e.trans h1, h2, h3, h4⟩
theorem wpAny_bot {α : Type} {M : Model} {A : Around} {t : Sem α} {Q Q' : α → Shared → Prop} {E : Value → Shared → Prop} {s : Shared} (h : wpAny M A t Q Bot s) (hQ : ∀ a s, Q a s → Q' a s) : wpAny M A t Q' E s :=
  wpAny_mono h hQ (fun _ _ f => f.elim)

noncomputable def relB (_ : PM) (b : Bool) (b' : Bool) : Prop := b' = b
noncomputable def relU (_ : PM) (_ : Unit) (_ : Unit) : Prop := True
noncomputable abbrev relL : PM → List PV → List Value → Prop := VRs
noncomputable abbrev Ev (G : Gx) (e : Expr) (ρ : Rho) (σ : Led) (Q : PV → Rho → Led → Prop) : Prop := Tr G VR (eval e G.env) ρ σ Q
noncomputable abbrev Ts (G : Gx) (e : Expr) (ρ : Rho) (σ : Led) (Q : Bool → Rho → Led → Prop) : Prop := Tr G relB (isTrue e G.env (eval e G.env)) ρ σ Q
inductive Fl where
  | next | brk | cont | ret (v : PV)
noncomputable def FlR (im : PM) : Fl → Flow → Prop
  | .next, f => f = .next
  | .brk, f => f = .brk
  | .cont, f => f = .cont
  | .ret p, f => ∃ v, f = .ret v ∧ VR im p v
noncomputable abbrev Ex1 (G : Gx) (st : Stmt) (ρ : Rho) (σ : Led) (Q : Fl → Rho → Led → Prop) : Prop := Tr G FlR (exec st G.env) ρ σ Q
noncomputable abbrev Ex (G : Gx) (st : List Stmt) (ρ : Rho) (σ : Led) (Q : Fl → Rho → Led → Prop) : Prop := Tr G FlR (execs st G.env) ρ σ Q

noncomputable def Con (G : Gx) {α β R R' : Type} (rel : PM → R → α → Prop) (r : R) (f : α → Sem β) (rel' : PM → R' → β → Prop) (ρ : Rho) (σ : Led) (Q : R' → Rho → Led → Prop) : Prop :=
  ∀ A bs im s a, AOk G.n A → St G bs im s ρ σ → rel im r a → wpAny G.C.M A (f a) (Post G rel' bs im Q) Bot s
noncomputable abbrev Op1 (G : Gx) (f : Value → Sem Value) (a : PV) (ρ : Rho) (σ : Led) (Q : PV → Rho → Led → Prop) : Prop := Con G VR a f VR ρ σ Q
noncomputable def Op2 (G : Gx) (f : Value → Value → Sem Value) (a b : PV) (ρ : Rho) (σ : Led) (Q : PV → Rho → Led → Prop) : Prop :=
  ∀ A bs im s v w, AOk G.n A → St G bs im s ρ σ → VR im a v → VR im b w → wpAny G.C.M A (f v w) (Post G VR bs im Q) Bot s
noncomputable abbrev TrueOf (G : Gx) (a : PV) (ρ : Rho) (σ : Led) (Q : Bool → Rho → Led → Prop) : Prop := Con G VR a truthy relB ρ σ Q

section
variable {G : Gx} {α β R R' : Type} {rel : PM → R → α → Prop} {rel' : PM → R' → β → Prop} {ρ : Rho} {σ : Led}

theorem Tr.mono {t : Sem α} {Q Q' : R → Rho → Led → Prop} (h : Tr G rel t ρ σ Q) (k : ∀ r ρ σ, Q r ρ σ → Q' r ρ σ) : Tr G rel t ρ σ Q' :=
  fun A bs im s hA hS => wpAny_mono (h A bs im s hA hS) (fun _ _ p => p.mono k) fun _ _ x => x
theorem Con.mono {r : R} {f : α → Sem β} {Q Q' : R' → Rho → Led → Prop} (h : Con G rel r f rel' ρ σ Q) (k : ∀ r ρ σ, Q r ρ σ → Q' r ρ σ) : Con G rel r f rel' ρ σ Q' :=
  fun A bs im s a hA hS hr => wpAny_mono (h A bs im s a hA hS hr) (fun _ _ p => p.mono k) fun _ _ x => x

theorem Tr.then {t : Sem α} {f : α → Sem β} {Q : R' → Rho → Led → Prop} (h : Tr G rel t ρ σ (fun r ρ₁ σ₁ => Con G rel r f rel' ρ₁ σ₁ Q)) {A : Around} {bs im : PM} {s : Shared} (hA : AOk G.n A) (hS : St G bs im s ρ σ) :
    wpAny G.C.M A t (fun a s₁ => wpAny G.C.M A (f a) (Post G rel' bs im Q) Bot s₁) Bot s :=
  wpAny_mono (h A bs im s hA hS) (fun a s₁ p => by
    obtain ⟨im₁, r, ρ₁, σ₁, e, hr, hS₁, hC⟩ := p
    exact wpAny_mono (hC A bs im₁ s₁ a hA hS₁ hr) (fun _ _ q => q.ext e) fun _ _ x => x) fun _ _ x => x
theorem Post.now {bs im : PM} {a : α} {r : R} {s : Shared} {Q : R → Rho → Led → Prop} (hS : St G bs im s ρ σ) (hr : rel im r a) (h : Q r ρ σ) : Post G rel bs im Q a s := ⟨_, r, ρ, σ, .refl, hr, hS, h⟩
end

theorem StL.toks {C : Cx} {bs im : PM} {s : Shared} {σ : Led} (x : StL C bs im s σ) (t : Nat) (ht : s.toks ≤ t := by first | exact Nat.le_refl _ | exact Nat.le_succ _ | assumption | walk_at "zo") : StL C bs im { s with toks := t } σ := ⟨x.os, x.gens, x.cb, x.hbs, x.him, x.led, x.nd, x.gok, Nat.le_trans x.tk ht⟩
theorem St.toks {G : Gx} {bs im : PM} {s : Shared} {ρ : Rho} {σ : Led} (x : St G bs im s ρ σ) (t : Nat) (ht : s.toks ≤ t := by first | exact Nat.le_refl _ | exact Nat.le_succ _ | assumption | walk_at "zo") : St G bs im { s with toks := t } ρ σ := ⟨x.l.toks t ht, x.f⟩

theorem Has.keeps {C : Cx} {env : Env} {h h' : Heap} {m : Str → Option Value} {x : Str} {v : Value} (y : Has C env h m x v) (hk : ∀ c w, env.cells.lookup x = some c → h.IsCell c w → h'.IsCell c w) : Has C env h' m x v := by
  obtain ⟨n, y⟩ := y
  cases y with
  | loc a b => exact ⟨n, .loc a b⟩
  | cell a c b d => exact ⟨n, .cell a c b (hk c _ b d)⟩
  | glob a b => exact ⟨n, .glob a b⟩

theorem StL.grow {C : Cx} {bs im : PM} {s : Shared} {σ : Led} (x : StL C bs im s σ) {h' : Heap} (hk : ∀ b o, s.heap.get? b = some o → h'.get? b = some o) (t : Nat) (ht : s.toks ≤ t := by first | exact Nat.le_refl _ | exact Nat.le_succ _ | assumption | walk_at "zo") : StL C bs im { s with heap := h', toks := t } σ :=
  ⟨x.os, x.gens, x.cb, fun a o e => hk a o (x.hbs a o e), fun a o e => hk a o (x.him a o e), fun p hp => let ⟨a, b⟩ := x.led p hp; ⟨a.at fun y e => hk _ y e, b⟩, x.nd, x.gok, Nat.le_trans x.tk ht⟩
theorem FrOk.grow {C : Cx} {env : Env} {κ : List (Str × Addr)} {ns : Names} {cn : List String} {bs im : PM} {h h' : Heap} {ρ : Rho} {σ : Led} (x : FrOk C env κ ns cn bs im h ρ σ) (hk : ∀ b o, h.get? b = some o → h'.get? b = some o) : FrOk C env κ ns cn bs im h' ρ σ :=
  ⟨let ⟨m, a, b⟩ := x.vars; ⟨m, a.keeps hk, fun p hp => let ⟨v, c, d⟩ := b p hp; ⟨v, c, d.keeps fun _ _ _ z => z.keeps hk⟩⟩, x.rn, x.lbs, x.lim, x.lled,
    fun p hp => let ⟨⟨v, a⟩, b⟩ := x.cells p hp; ⟨⟨v, a.keeps hk⟩, b⟩, x.apart, x.outer, x.kind, x.gl, x.bi, x.kn, x.own, x.ck⟩
theorem St.grow {G : Gx} {bs im : PM} {s : Shared} {ρ : Rho} {σ : Led} (x : St G bs im s ρ σ) {h' : Heap} (hk : ∀ b o, s.heap.get? b = some o → h'.get? b = some o) (t : Nat) (ht : s.toks ≤ t := by first | exact Nat.le_refl _ | exact Nat.le_succ _ | assumption | walk_at "zo") : St G bs im { s with heap := h', toks := t } ρ σ := ⟨x.l.grow hk t ht, x.f.grow hk⟩

theorem get?_size_none (h : Heap) : h.get? h.objs.size = none := by
  cases e : h.get? h.objs.size with
  | none => rfl
  | some o => exact absurd (Heap.lt_size e) (Nat.lt_irrefl _)

noncomputable def PM.put (f : PM) (a : Addr) (o : Obj) : PM := ⟨fun b => if b = a then some o else f.f b, f.n⟩
theorem PM.put_at (f : PM) (a : Addr) (o : Obj) (b : Addr) : (f.put a o).f b = if b = a then some o else f.f b := rfl
theorem PM.put_self (f : PM) (a : Addr) (o : Obj) : (f.put a o).f a = some o := by simp [PM.put]
theorem PM.put_keep {f : PM} {a : Addr} (hn : f.f a = none) (o : Obj) : PMle f (f.put a o) := ⟨fun b p e => by
  show (if b = a then some o else f.f b) = _; split
  · rename_i q; rw [q, hn] at e; cases e
  · exact e, Nat.le_refl _⟩
theorem PM.put_ne {f : PM} {a b : Addr} (h : b ≠ a) (o : Obj) : (f.put a o).f b = f.f b := by simp [PM.put, h]

theorem StL.bs_none {C : Cx} {bs im : PM} {s : Shared} {σ : Led} (x : StL C bs im s σ) {a : Addr} (h : s.heap.get? a = none) : bs.f a = none := by
  cases e : bs.f a with
  | none => rfl
  | some o => have := x.hbs a o e; rw [h] at this; cases this
theorem StL.im_none {C : Cx} {bs im : PM} {s : Shared} {σ : Led} (x : StL C bs im s σ) {a : Addr} (h : s.heap.get? a = none) : im.f a = none := by
  cases e : im.f a with
  | none => rfl
  | some o => have := x.him a o e; rw [h] at this; cases this
theorem StL.led_some {C : Cx} {bs im : PM} {s : Shared} {σ : Led} (x : StL C bs im s σ) {a : Addr} (h : s.heap.get? a = none) : a ∉ σ.map (·.1) := fun hm => by
  obtain ⟨p, hp, rfl⟩ := List.mem_map.mp hm
  obtain ⟨y, e⟩ := (x.led p hp).1.some
  rw [h] at e; cases e
theorem FrOk.loc_some {C : Cx} {env : Env} {κ : List (Str × Addr)} {ns : Names} {cn : List String} {bs im : PM} {h : Heap} {ρ : Rho} {σ : Led} (x : FrOk C env κ ns cn bs im h ρ σ) : ∃ o es ep, h.get? env.locals = some o ∧ o.data = .dict es ep := by
  obtain ⟨m, ⟨o, es, ep, a, b, _⟩, _⟩ := x.vars
  exact ⟨o, es, ep, a, b⟩

theorem St.pushIm {G : Gx} {bs im : PM} {s : Shared} {ρ : Rho} {σ : Led} (x : St G bs im s ρ σ) (o : Obj) (hf : o.isFreed = false) (t : Nat) (ht : s.toks ≤ t := by first | exact Nat.le_refl _ | exact Nat.le_succ _ | assumption | walk_at "zo") :
    Ext bs im (im.put s.heap.objs.size o) ∧ St G bs (im.put s.heap.objs.size o) { s with heap := s.heap.push o, toks := t } ρ σ := by
  have hn := get?_size_none s.heap
  have hk : ∀ b p, s.heap.get? b = some p → (s.heap.push o).get? b = some p := fun b p e => Heap.get?_push_of_some _ e
  have hi := x.l.im_none hn
  have hput := PM.put_keep hi o
  have ne : ∀ b, (∃ p, s.heap.get? b = some p) → b ≠ s.heap.objs.size := fun b ⟨p, e⟩ q => by rw [q, hn] at e; cases e
  refine ⟨⟨hput, fun a e => ?_⟩, ⟨x.l.os, x.l.gens, x.l.cb, fun a p e => hk a p (x.l.hbs a p e), fun a p e => ?_, fun p hp => ?_, x.l.nd, x.l.gok, Nat.le_trans x.l.tk ht⟩, ?_⟩
  · by_cases q : a = s.heap.objs.size
    · subst q; exact .inr (x.l.bs_none hn)
    · rw [PM.put_ne q] at e; exact .inl e
  · have e : (if a = s.heap.objs.size then some o else im.f a) = some p := e
    split at e
    · rename_i q; cases e; rw [q]; exact Heap.get?_push_size _ hf
    · exact hk a p (x.l.him a p e)
  · obtain ⟨a, b, c⟩ := x.l.led p hp
    exact ⟨(a.at fun y e => hk _ y e).mono hput, b, by rw [PM.put_ne (ne _ a.some)]; exact c⟩
  · have f := x.f.grow hk
    obtain ⟨ol, _, _, hol, _⟩ := x.f.loc_some
    refine ⟨?_, f.rn, f.lbs, by rw [PM.put_ne (ne _ ⟨_, hol⟩)]; exact f.lim, f.lled, fun p hp => ?_, f.apart, f.outer, f.kind, f.gl, f.bi, f.kn, f.own, f.ck⟩
    · obtain ⟨m, a, b⟩ := f.vars
      exact ⟨m, a, fun p hp => let ⟨v, c, d⟩ := b p hp; ⟨v, c.mono hput, d⟩⟩
    · obtain ⟨a, b, c, d⟩ := f.cells p hp
      obtain ⟨⟨v, oc, hoc, _⟩, _⟩ := x.f.cells p hp
      exact ⟨a, b, by rw [PM.put_ne (ne _ ⟨_, hoc⟩)]; exact c, d⟩

theorem St.pushLed {G : Gx} {bs im : PM} {s : Shared} {ρ : Rho} {σ : Led} (x : St G bs im s ρ σ) (o : Obj) (lo : LO) (t : Nat) (hr : LR im (s.heap.push o) s.heap.objs.size lo) (ht : s.toks ≤ t := by first | exact Nat.le_refl _ | exact Nat.le_succ _ | assumption | walk_at "zo") :
    St G bs im { s with heap := s.heap.push o, toks := t } ρ ((s.heap.objs.size, lo) :: σ) := by
  have hn := get?_size_none s.heap
  have hk : ∀ b p, s.heap.get? b = some p → (s.heap.push o).get? b = some p := fun b p e => Heap.get?_push_of_some _ e
  have y := x.grow hk t ht
  have ne : ∀ b, (∃ p, s.heap.get? b = some p) → b ≠ s.heap.objs.size := fun b ⟨p, e⟩ q => by rw [q, hn] at e; cases e
  obtain ⟨ol, _, _, hol, _⟩ := x.f.loc_some
  refine ⟨⟨y.l.os, y.l.gens, y.l.cb, y.l.hbs, y.l.him, fun p hp => ?_, ?_, y.l.gok, y.l.tk⟩, ⟨y.f.vars, y.f.rn, y.f.lbs, y.f.lim, ?_, fun p hp => ?_, y.f.apart, y.f.outer, y.f.kind, y.f.gl, y.f.bi, y.f.kn, y.f.own, y.f.ck⟩⟩
  · rcases List.mem_cons.mp hp with rfl | hp
    · exact ⟨hr, x.l.bs_none hn, x.l.im_none hn⟩
    · exact y.l.led p hp
  · rw [List.map_cons]; exact List.nodup_cons.mpr ⟨x.l.led_some hn, x.l.nd⟩
  · rw [List.map_cons]; intro hm
    rcases List.mem_cons.mp hm with e | hm
    · exact ne _ ⟨_, hol⟩ e
    · exact x.f.lled hm
  · obtain ⟨a, b, c, d, e⟩ := y.f.cells p hp
    obtain ⟨⟨v, oc, hoc, _⟩, _⟩ := x.f.cells p hp
    refine ⟨a, b, c, ?_, e⟩
    rw [List.map_cons]; intro hm
    rcases List.mem_cons.mp hm with q | hm
    · exact ne _ ⟨_, hoc⟩ q
    · exact d hm

inductive Upd (a : Addr) (o o' : LO) : Led → Led → Prop
  | head {r : Led} : Upd a o o' ((a, o) :: r) ((a, o') :: r)
  | tail {p : Addr × LO} {r r' : Led} : Upd a o o' r r' → Upd a o o' (p :: r) (p :: r')
theorem Upd.keys {a : Addr} {o o' : LO} {σ σ' : Led} (u : Upd a o o' σ σ') : σ'.map (·.1) = σ.map (·.1) := by
  induction u with
  | head => rfl
  | tail _ ih => rw [List.map_cons, List.map_cons, ih]
theorem Upd.mem {a : Addr} {o o' : LO} {σ σ' : Led} (u : Upd a o o' σ σ') : (a, o) ∈ σ := by
  induction u with
  | head => exact .head _
  | tail _ ih => exact .tail _ ih
theorem Upd.mem' {a : Addr} {o o' : LO} {σ σ' : Led} (u : Upd a o o' σ σ') (hn : (σ.map (·.1)).Nodup) : ∀ p ∈ σ', p = (a, o') ∨ (p ∈ σ ∧ p.1 ≠ a) := by
  induction u with
  | head =>
    intro p hp
    rw [List.map_cons, List.nodup_cons] at hn
    rcases List.mem_cons.mp hp with rfl | hp
    · exact .inl rfl
    · exact .inr ⟨.tail _ hp, fun e => hn.1 (List.mem_map.mpr ⟨p, hp, e⟩)⟩
  | tail u ih =>
    intro p hp
    rw [List.map_cons, List.nodup_cons] at hn
    rcases List.mem_cons.mp hp with rfl | hp
    · exact .inr ⟨.head _, fun e => hn.1 (e ▸ List.mem_map_of_mem u.mem)⟩
    · exact (ih hn.2 p hp).imp id fun ⟨x, y⟩ => ⟨.tail _ x, y⟩

theorem StL.ledNe {C : Cx} {bs im : PM} {s : Shared} {σ : Led} (x : StL C bs im s σ) {a : Addr} (hm : a ∈ σ.map (·.1)) : bs.f a = none ∧ im.f a = none := by
  obtain ⟨p, hp, rfl⟩ := List.mem_map.mp hm
  exact (x.led p hp).2
theorem St.updK {G : Gx} {bs im : PM} {s : Shared} {ρ : Rho} {σ σ' : Led} (x : St G bs im s ρ σ) {a : Addr} {lo lo' : LO} (u : Upd a lo lo' σ σ') {h' : Heap} (t : Nat) (hk : ∀ b p, b ≠ a → s.heap.get? b = some p → h'.get? b = some p) (hr : LR im h' a lo') (ht : s.toks ≤ t := by first | exact Nat.le_refl _ | exact Nat.le_succ _ | assumption | walk_at "zo") :
    St G bs im { s with heap := h', toks := t } ρ σ' := by
  have hm : a ∈ σ.map (·.1) := List.mem_map_of_mem u.mem
  have hne := x.l.ledNe hm
  have hL : G.env.locals ≠ a := fun e => x.f.lled (e ▸ hm)
  have nb : ∀ b o, bs.f b = some o → b ≠ a := fun b o e q => by rw [q, hne.1] at e; cases e
  have ni : ∀ b o, im.f b = some o → b ≠ a := fun b o e q => by rw [q, hne.2] at e; cases e
  have hcell : ∀ y c w, G.env.cells.lookup y = some c → s.heap.IsCell c w → h'.IsCell c w := fun y c w e z => by
    have hc : c ≠ a := by
      rcases x.f.outer y c e with q | ⟨o, q⟩
      · intro r; exact (x.f.cells _ q).2.2.2.1 (r ▸ hm)
      · exact nb _ _ q
    obtain ⟨o, ho, hd⟩ := z
    exact ⟨o, hk c o hc ho, hd⟩
  refine ⟨⟨x.l.os, x.l.gens, x.l.cb, fun b o e => hk b o (nb b o e) (x.l.hbs b o e), fun b o e => hk b o (ni b o e) (x.l.him b o e), fun p hp => ?_, (by rw [u.keys]; exact x.l.nd), x.l.gok, Nat.le_trans x.l.tk ht⟩,
    ⟨?_, x.f.rn, x.f.lbs, x.f.lim, by rw [u.keys]; exact x.f.lled, fun p hp => ?_, x.f.apart, x.f.outer, x.f.kind, x.f.gl, x.f.bi, x.f.kn, x.f.own, x.f.ck⟩⟩
  · rcases u.mem' x.l.nd p hp with rfl | ⟨hp, q⟩
    · exact ⟨hr, hne⟩
    · obtain ⟨c, d⟩ := x.l.led p hp
      exact ⟨c.at fun y e => hk _ y q e, d⟩
  · obtain ⟨m, ⟨o, es, ep, c1, c2⟩, d⟩ := x.f.vars
    exact ⟨m, ⟨o, es, ep, hk _ _ hL c1, c2⟩, fun p hp => let ⟨v, e, f⟩ := d p hp; ⟨v, e, f.keeps (hcell _)⟩⟩
  · obtain ⟨⟨v, c⟩, d, e, f, g⟩ := x.f.cells p hp
    exact ⟨⟨v, hcell _ _ _ g c⟩, d, e, by rw [u.keys]; exact f, g⟩

theorem St.upd {G : Gx} {bs im : PM} {s : Shared} {ρ : Rho} {σ σ' : Led} (x : St G bs im s ρ σ) {a : Addr} {lo lo' : LO} (u : Upd a lo lo' σ σ') {h' : Heap} (t : Nat) (hs : Heap.SameBut a s.heap h') (hr : LR im h' a lo') (ht : s.toks ≤ t := by first | exact Nat.le_refl _ | exact Nat.le_succ _ | assumption | walk_at "zo") :
    St G bs im { s with heap := h', toks := t } ρ σ' := x.updK u t (fun b _ q e => (hs.2 b q).trans e) hr ht

theorem St.rho {G : Gx} {bs im : PM} {s : Shared} {ρ ρ' : Rho} {σ : Led} (x : St G bs im s ρ σ) (h : ∀ p ∈ ρ', p ∈ ρ) (hn : (ρ'.map (·.1)).Nodup) : St G bs im s ρ' σ :=
  ⟨x.l, ⟨let ⟨m, a, b⟩ := x.f.vars; ⟨m, a, fun p hp => b p (h p hp)⟩, hn, x.f.lbs, x.f.lim, x.f.lled, x.f.cells, x.f.apart, x.f.outer, x.f.kind, x.f.gl, x.f.bi, x.f.kn, x.f.own, x.f.ck⟩⟩
theorem StL.sub {C : Cx} {bs im : PM} {s : Shared} {σ σ' : Led} (x : StL C bs im s σ) (h : ∀ p ∈ σ', p ∈ σ) (hn : (σ'.map (·.1)).Nodup) : StL C bs im s σ' :=
  ⟨x.os, x.gens, x.cb, x.hbs, x.him, fun p hp => x.led p (h p hp), hn, x.gok, x.tk⟩
theorem St.sub {G : Gx} {bs im : PM} {s : Shared} {ρ : Rho} {σ σ' : Led} (x : St G bs im s ρ σ) (h : ∀ p ∈ σ', p ∈ σ) (hn : (σ'.map (·.1)).Nodup) : St G bs im s ρ σ' := by
  have hm : ∀ a, a ∈ σ'.map (·.1) → a ∈ σ.map (·.1) := fun a ha => by obtain ⟨p, hp, rfl⟩ := List.mem_map.mp ha; exact List.mem_map_of_mem (h p hp)
  exact ⟨x.l.sub h hn, ⟨x.f.vars, x.f.rn, x.f.lbs, x.f.lim, fun q => x.f.lled (hm _ q), fun p hp => let ⟨a, b, c, d, e⟩ := x.f.cells p hp; ⟨a, b, c, fun q => d (hm _ q), e⟩, x.f.apart, x.f.outer, x.f.kind, x.f.gl, x.f.bi, x.f.kn, x.f.own, x.f.ck⟩⟩
end Mine.Tactic
end
section
open PySem PySem.W PyProof.Rows PySem.Calls
set_option Elab.async false
set_option maxRecDepth 100000
namespace Mine.Tactic

noncomputable def cs (x : String) : List Nat := (Str.ofString x).cps.toList

inductive SetR (x : String) (p : PV) : Rho → Rho → Prop
  | nil : SetR x p [] [(x, p)]
  | head {q : PV} {r : Rho} : SetR x p ((x, q) :: r) ((x, p) :: r)
  | tail {y : String} {q : PV} {r r' : Rho} : y ≠ x → SetR x p r r' → SetR x p ((y, q) :: r) ((y, q) :: r')
theorem SetR.mem {x : String} {p : PV} {ρ ρ' : Rho} (u : SetR x p ρ ρ') (hn : (ρ.map (·.1)).Nodup) : ∀ q ∈ ρ', q = (x, p) ∨ (q ∈ ρ ∧ q.1 ≠ x) := by
  induction u with
  | nil => intro q hq; exact .inl (List.mem_singleton.mp hq)
  | head =>
    intro q hq
    rw [List.map_cons, List.nodup_cons] at hn
    rcases List.mem_cons.mp hq with rfl | hq
    · exact .inl rfl
    · exact .inr ⟨.tail _ hq, fun e => hn.1 (List.mem_map.mpr ⟨q, hq, e⟩)⟩
  | tail hne u ih =>
    intro q hq
    rw [List.map_cons, List.nodup_cons] at hn
    rcases List.mem_cons.mp hq with rfl | hq
    · exact .inr ⟨.head _, hne⟩
    · exact (ih hn.2 q hq).imp id fun ⟨a, b⟩ => ⟨.tail _ a, b⟩
theorem SetR.keys {x : String} {p : PV} {ρ ρ' : Rho} (u : SetR x p ρ ρ') : ∀ y, y ∈ ρ'.map (·.1) → y = x ∨ y ∈ ρ.map (·.1) := by
  induction u with
  | nil => intro y hy; exact .inl (List.mem_singleton.mp hy)
  | head => intro y hy; exact .inr hy
  | tail hne u ih =>
    intro y hy
    rw [List.map_cons] at hy ⊢
    rcases List.mem_cons.mp hy with e | hy
    · exact .inr (e ▸ .head _)
    · exact (ih y hy).imp id fun h => .tail _ h
theorem SetR.nodup {x : String} {p : PV} {ρ ρ' : Rho} (u : SetR x p ρ ρ') (hn : (ρ.map (·.1)).Nodup) : (ρ'.map (·.1)).Nodup := by
  induction u with
  | nil => exact List.nodup_cons.mpr ⟨List.not_mem_nil, List.nodup_nil⟩
  | head => exact hn
  | tail hne u ih =>
    rw [List.map_cons, List.nodup_cons] at hn ⊢
    exact ⟨fun h => (u.keys _ h).elim hne hn.1, ih hn.2⟩
theorem ofString_inj {a b : String} (h : Str.ofString a = Str.ofString b) : a = b := by
  rw [Str.ofString_eq_toList, Str.ofString_eq_toList] at h
  have h1 : a.toList.map Char.toNat = b.toList.map Char.toNat := by simpa using h
  have : a.toList = b.toList := by
    refine List.map_inj_right (fun x y e => ?_) |>.mp h1
    exact Char.toNat_inj.mp e
  exact String.toList_injective this

section
variable {G : Gx} {bs im : PM} {s : Shared} {ρ ρ' : Rho} {σ : Led}
theorem St.store_local (x : St G bs im s ρ σ) {y : String} {p : PV} {v : Value} {h' : Heap} (t : Nat) (hy : (y, NameKind.local) ∈ G.ns) (hv : VR im p v) (u : SetR y p ρ ρ')
    (hm : ∀ m, s.heap.Ns G.env.locals m → h'.Ns G.env.locals (fun z => if z = Str.ofString y then some v else m z)) (hs : Heap.SameBut G.env.locals s.heap h') (ht : s.toks ≤ t := by first | exact Nat.le_refl _ | exact Nat.le_succ _ | assumption | walk_at "zo") :
    St G bs im { s with heap := h', toks := t } ρ' σ := by
  obtain ⟨hk, hp⟩ := x.f.kn _ hy
  have ne : ∀ b, (∃ o, bs.f b = some o) → b ≠ G.env.locals := fun b ⟨o, e⟩ q => by rw [q, x.f.lbs] at e; cases e
  have ni : ∀ b, (∃ o, im.f b = some o) → b ≠ G.env.locals := fun b ⟨o, e⟩ q => by rw [q, x.f.lim] at e; cases e
  have nl : ∀ p ∈ σ, p.1 ≠ G.env.locals := fun p hp q => x.f.lled (List.mem_map.mpr ⟨p, hp, q⟩)
  obtain ⟨ol, _, _, hol, hod⟩ := x.f.loc_some
  have hcell : ∀ c w, s.heap.IsCell c w → h'.IsCell c w := fun c w ⟨o, ho, hd⟩ => ⟨o, (hs.2 c (fun q => by rw [q, hol] at ho; cases ho; rw [hd] at hod; cases hod)).trans ho, hd⟩
  obtain ⟨m, hn, hr⟩ := x.f.vars
  refine ⟨⟨x.l.os, x.l.gens, x.l.cb, fun b o e => (hs.2 b (ne b ⟨o, e⟩)).trans (x.l.hbs b o e), fun b o e => (hs.2 b (ni b ⟨o, e⟩)).trans (x.l.him b o e), fun p hp => ?_, x.l.nd, x.l.gok, Nat.le_trans x.l.tk ht⟩,
    ⟨⟨_, hm m hn, fun q hq => ?_⟩, u.nodup x.f.rn, x.f.lbs, x.f.lim, x.f.lled, fun p hp => ?_, x.f.apart, x.f.outer, x.f.kind, x.f.gl, x.f.bi, x.f.kn, x.f.own, x.f.ck⟩⟩
  · obtain ⟨a, b⟩ := x.l.led p hp
    exact ⟨a.at fun o e => (hs.2 _ (nl p hp)).trans e, b⟩
  · rcases u.mem x.f.rn q hq with rfl | ⟨hq, hne⟩
    · exact ⟨v, hv, hp, .loc hk (by simp)⟩
    · obtain ⟨w, a, b, c⟩ := hr q hq
      refine ⟨w, a, b, ?_⟩
      cases c with
      | loc c d => exact .loc c (by rw [if_neg (fun e => hne (ofString_inj e))]; exact d)
      | cell c d e f => exact .cell c d e (hcell _ _ f)
      | glob c d => exact .glob c d
  · obtain ⟨⟨w, a⟩, b⟩ := x.f.cells p hp
    exact ⟨⟨w, hcell _ _ a⟩, b⟩
theorem St.store_cell (x : St G bs im s ρ σ) {y : String} {p : PV} {v : Value} {c : Addr} {h' : Heap} (t : Nat) (hy : (y, NameKind.cell) ∈ G.ns) (hc : (Str.ofString y, c) ∈ G.κ) (hv : VR im p v) (u : SetR y p ρ ρ')
    (hm : h'.IsCell c (some v)) (hs : Heap.SameBut c s.heap h') (ht : s.toks ≤ t := by first | exact Nat.le_refl _ | exact Nat.le_succ _ | assumption | walk_at "zo") :
    St G bs im { s with heap := h', toks := t } ρ' σ := by
  obtain ⟨hk, hp⟩ := x.f.kn _ hy
  obtain ⟨⟨w₀, hw₀⟩, cb, ci, cl, cl'⟩ := x.f.cells _ hc
  have ne : ∀ b, (∃ o, bs.f b = some o) → b ≠ c := fun b ⟨o, e⟩ q => by rw [q, cb] at e; cases e
  have ni : ∀ b, (∃ o, im.f b = some o) → b ≠ c := fun b ⟨o, e⟩ q => by rw [q, ci] at e; cases e
  have nl : ∀ p ∈ σ, p.1 ≠ c := fun p hp q => cl (List.mem_map.mpr ⟨p, hp, q⟩)
  obtain ⟨ol, _, _, hol, hod⟩ := x.f.loc_some
  have hLc : G.env.locals ≠ c := fun q => by obtain ⟨o, ho, hd⟩ := hw₀; rw [← q, hol] at ho; cases ho; rw [hod] at hd; cases hd
  have hcell : ∀ z c' w, G.env.cells.lookup z = some c' → z ≠ Str.ofString y → s.heap.IsCell c' w → h'.IsCell c' w := fun z c' w e q k => by
    refine k.sameBut hs ?_
    rcases x.f.outer z c' e with hz | hz
    · intro r; subst r; exact q (name_of_addr x.f.apart hz hc)
    · exact ne _ hz
  obtain ⟨m, hn, hr⟩ := x.f.vars
  refine ⟨⟨x.l.os, x.l.gens, x.l.cb, fun b o e => (hs.2 b (ne b ⟨o, e⟩)).trans (x.l.hbs b o e), fun b o e => (hs.2 b (ni b ⟨o, e⟩)).trans (x.l.him b o e), fun p hp => ?_, x.l.nd, x.l.gok, Nat.le_trans x.l.tk ht⟩,
    ⟨⟨m, hn.sameBut hs hLc, fun q hq => ?_⟩, u.nodup x.f.rn, x.f.lbs, x.f.lim, x.f.lled, fun p hp => ?_, x.f.apart, x.f.outer, x.f.kind, x.f.gl, x.f.bi, x.f.kn, x.f.own, x.f.ck⟩⟩
  · obtain ⟨a, b⟩ := x.l.led p hp
    exact ⟨a.at fun o e => (hs.2 _ (nl p hp)).trans e, b⟩
  · rcases u.mem x.f.rn q hq with rfl | ⟨hq, hne⟩
    · exact ⟨v, hv, hp, .cell (.inl hk) c cl' hm⟩
    · obtain ⟨w, a, b, cc⟩ := hr q hq
      refine ⟨w, a, b, ?_⟩
      cases cc with
      | loc c d => exact .loc c d
      | cell c d e f => exact .cell c d e (hcell _ _ _ e (fun e => hne (ofString_inj e)) f)
      | glob c d => exact .glob c d
  · obtain ⟨⟨w, a⟩, b1, b2, b3, b4⟩ := x.f.cells p hp
    refine ⟨?_, b1, b2, b3, b4⟩
    by_cases q : p.1 = Str.ofString y
    · rw [q, cl'] at b4; cases b4; exact ⟨_, hm⟩
    · exact ⟨w, hcell _ _ _ b4 q a⟩
end

section
variable {G : Gx} {ρ ρ' : Rho} {σ : Led}

theorem Ev.int {i : Int} {k : Nat} {pos : Pos} {Q : PV → Rho → Led → Prop} (h : Q (.int i) ρ σ) : Ev G (.Constant (.int i) k pos) ρ σ Q :=
  fun _ _ _ _ _ hS => wpAny_Constant_int (.now (hS.toks _) .int h)
theorem Ev.str {x : String} {k : Nat} {pos : Pos} {Q : PV → Rho → Led → Prop} (h : Q (.str (cs x)) ρ σ) : Ev G (.Constant (.str (Str.ofString x)) k pos) ρ σ Q :=
  fun _ _ _ _ _ hS => Constant_str (.now (hS.toks _) VR.str' h)
theorem Ev.none {k : Nat} {pos : Pos} {Q : PV → Rho → Led → Prop} (h : Q .none ρ σ) : Ev G (.Constant .none k pos) ρ σ Q :=
  fun _ _ _ _ _ hS => Constant_none (.now hS .none h)
theorem Ev.bool {b : Bool} {k : Nat} {pos : Pos} {Q : PV → Rho → Led → Prop} (h : Q (.bool b) ρ σ) : Ev G (.Constant (.bool b) k pos) ρ σ Q :=
  fun _ _ _ _ _ hS => Constant_bool (.now hS .bool h)
theorem load_has {bs im : PM} {s : Shared} {A : Around} {E : Value → Shared → Prop} {Qv : Value → Shared → Prop} (hS : St G bs im s ρ σ) {x : String} {p : PV} (hx : (x, p) ∈ ρ) (h : ∀ v, VR im p v → Qv v s) :
    PlainName (Str.ofString x) ∧ wpAny G.C.M A (loadName G.env (Str.ofString x)) Qv E s := by
  obtain ⟨m, hn, hr⟩ := hS.f.vars
  obtain ⟨v, hv, hp, hh⟩ := hr _ hx
  refine ⟨hp, ?_⟩
  cases hh with
  | loc hk hm => exact wpAny_loadName_local hS.f.kind hk hn hm (h v hv)
  | cell hk c hc hcell =>
    rcases hk with hk | hk
    · exact wpAny_loadName_cell hS.f.kind hk hc hcell (h v hv)
    · exact wpAny_loadName_free hS.f.kind hk hc hcell (h v hv) hp.2
  | glob hk hg => exact hg _ _ _ _ _ hS.f.kind hS.f.gl hS.f.bi hk (fun a o e => hS.l.hbs a o (hS.l.cb a o e)) (h v hv)
theorem Ev.name {x : String} {pos : Pos} {p : PV} {Q : PV → Rho → Led → Prop} (hx : (x, p) ∈ ρ) (h : Q p ρ σ) : Ev G (.Name (Str.ofString x) pos) ρ σ Q :=
  fun A _ _ _ _ hS => by
    obtain ⟨hp, hl⟩ := load_has (A := A) (E := Bot) hS hx (fun v hv => Post.now (Q := Q) hS hv h)
    exact wpAny_Name hl hp.1

noncomputable abbrev KOp2 (G : Gx) (f : Value → Value → Sem Value) (a : PV) (Q : PV → Rho → Led → Prop) : PV → Rho → Led → Prop := fun b ρ₂ σ₂ => Op2 G f a b ρ₂ σ₂ Q
noncomputable abbrev KBin (G : Gx) (e₂ : Expr) (f : Value → Value → Sem Value) (Q : PV → Rho → Led → Prop) : PV → Rho → Led → Prop := fun a ρ₁ σ₁ => Ev G e₂ ρ₁ σ₁ (KOp2 G f a Q)
noncomputable abbrev KOp1 (G : Gx) (f : Value → Sem Value) (Q : PV → Rho → Led → Prop) : PV → Rho → Led → Prop := fun a ρ₁ σ₁ => Op1 G f a ρ₁ σ₁ Q
noncomputable abbrev KTrue (G : Gx) (Q : Bool → Rho → Led → Prop) : PV → Rho → Led → Prop := fun a ρ₁ σ₁ => TrueOf G a ρ₁ σ₁ Q
noncomputable abbrev KIfE (G : Gx) (body orelse : Expr) (Q : PV → Rho → Led → Prop) : Bool → Rho → Led → Prop := fun b ρ₁ σ₁ => if b then Ev G body ρ₁ σ₁ Q else Ev G orelse ρ₁ σ₁ Q
noncomputable abbrev KIfS (G : Gx) (body orelse : List Stmt) (Q : Fl → Rho → Led → Prop) : Bool → Rho → Led → Prop := fun b ρ₁ σ₁ => if b then Ex G body ρ₁ σ₁ Q else Ex G orelse ρ₁ σ₁ Q
noncomputable abbrev KAndV' (G : Gx) (a : PV) (e : Expr) (Q : PV → Rho → Led → Prop) : Bool → Rho → Led → Prop := fun b ρ₂ σ₂ => if b then Ev G e ρ₂ σ₂ Q else Q a ρ₂ σ₂
noncomputable abbrev KAndV (G : Gx) (e : Expr) (Q : PV → Rho → Led → Prop) : PV → Rho → Led → Prop := fun a ρ₁ σ₁ => TrueOf G a ρ₁ σ₁ (KAndV' G a e Q)
noncomputable abbrev KSeq (G : Gx) (rest : List Stmt) (Q : Fl → Rho → Led → Prop) : Fl → Rho → Led → Prop := fun fl ρ₁ σ₁ => match fl with | .next => Ex G rest ρ₁ σ₁ Q | fl => Q fl ρ₁ σ₁
noncomputable abbrev KRet (Q : Fl → Rho → Led → Prop) : PV → Rho → Led → Prop := fun p ρ₁ σ₁ => Q (.ret p) ρ₁ σ₁
noncomputable abbrev KAssert (Q : Fl → Rho → Led → Prop) : Bool → Rho → Led → Prop := fun b ρ₁ σ₁ => b = true ∧ Q .next ρ₁ σ₁
noncomputable abbrev KExpr (Q : Fl → Rho → Led → Prop) : PV → Rho → Led → Prop := fun p ρ₁ σ₁ => p = .none ∧ Q .next ρ₁ σ₁
theorem Tr.then2 {α β γ R R' R'' : Type} {rel : PM → R → α → Prop} {rel' : PM → R' → β → Prop} {rel'' : PM → R'' → γ → Prop} {t : Sem α} {u : Sem β} {f : α → β → Sem γ} {Q : R'' → Rho → Led → Prop}
    (hmono : ∀ im im' r a, PMle im im' → rel im r a → rel im' r a)
    (h : Tr G rel t ρ σ (fun r ρ₁ σ₁ => Tr G rel' u ρ₁ σ₁ (fun r' ρ₂ σ₂ => ∀ A bs im s a b, AOk G.n A → St G bs im s ρ₂ σ₂ → rel im r a → rel' im r' b → wpAny G.C.M A (f a b) (Post G rel'' bs im Q) Bot s)))
    {A : Around} {bs im : PM} {s : Shared} (hA : AOk G.n A) (hS : St G bs im s ρ σ) :
    wpAny G.C.M A t (fun a s₁ => wpAny G.C.M A u (fun b s₂ => wpAny G.C.M A (f a b) (Post G rel'' bs im Q) Bot s₂) Bot s₁) Bot s :=
  wpAny_mono (h A bs im s hA hS) (fun a s₁ p => by
    obtain ⟨im₁, r, ρ₁, σ₁, e, hr, hS₁, hC⟩ := p
    refine wpAny_mono (hC A bs im₁ s₁ hA hS₁) (fun b s₂ p => ?_) fun _ _ x => x
    obtain ⟨im₂, r', ρ₂, σ₂, e', hr', hS₂, hD⟩ := p
    exact wpAny_mono (hD A bs im₂ s₂ a b hA hS₂ (hmono _ _ _ _ e'.1 hr) hr') (fun _ _ q => q.ext (e.trans e')) fun _ _ x => x) fun _ _ x => x
theorem Ev.then2 {e₁ e₂ : Expr} {f : Value → Value → Sem Value} {Q : PV → Rho → Led → Prop} (h : Ev G e₁ ρ σ (fun a ρ₁ σ₁ => Ev G e₂ ρ₁ σ₁ (fun b ρ₂ σ₂ => Op2 G f a b ρ₂ σ₂ Q)))
    {A : Around} {bs im : PM} {s : Shared} (hA : AOk G.n A) (hS : St G bs im s ρ σ) :
    wpAny G.C.M A (eval e₁ G.env) (fun a s₁ => wpAny G.C.M A (eval e₂ G.env) (fun b s₂ => wpAny G.C.M A (f a b) (Post G VR bs im Q) Bot s₂) Bot s₁) Bot s :=
  Tr.then2 (fun _ _ _ _ k x => x.mono k) h hA hS
theorem Ev.binop {l : Expr} {op : Operator} {r : Expr} {pos : Pos} {Q : PV → Rho → Led → Prop} (h : Ev G l ρ σ (KBin G r (binaryOp op) Q)) :
    Ev G (.BinOp l op r pos) ρ σ Q := fun _ _ _ _ hA hS => wpAny_BinOp (Ev.then2 h hA hS)
theorem Ev.compare {l : Expr} {op : CmpOp} {r : Expr} {pos : Pos} {Q : PV → Rho → Led → Prop} (h : Ev G l ρ σ (KBin G r (compareOp op) Q))
    (hm : behindInMarks op r = false := by with_unfolding_all rfl) :
    Ev G (.Compare l [op] [r] pos) ρ σ Q := fun _ _ _ _ hA hS => wpAny_Compare1 (Ev.then2 h hA hS) hm
theorem Ev.unary {op : UnaryOp} {e : Expr} {pos : Pos} {Q : PV → Rho → Led → Prop} (h : Ev G e ρ σ (KOp1 G (unaryOp op) Q)) : Ev G (.UnaryOp op e pos) ρ σ Q :=
  fun _ _ _ _ hA hS => UnaryOp_ (Tr.then h hA hS)

theorem TrueOf.bool {b : Bool} {Q : Bool → Rho → Led → Prop} (h : Q b ρ σ) : TrueOf G (.bool b) ρ σ Q :=
  fun _ _ _ _ v _ hS hv => by rw [hv.bool_i]; exact wpAny_truthy_bool (.now hS rfl h)
theorem TrueOf.none {Q : Bool → Rho → Led → Prop} (h : Q false ρ σ) : TrueOf G .none ρ σ Q :=
  fun _ _ _ _ v _ hS hv => by rw [hv.none_i]; exact truthy_none (.now hS rfl h)

theorem Ts.plain {e : Expr} {Q : Bool → Rho → Led → Prop} (h : Ev G e ρ σ (KTrue G Q))
    (he : isTrue e G.env (eval e G.env) = (do let v ← eval e G.env; standAt e.pos; holding [v] (truthy v)) := by rfl) : Ts G e ρ σ Q :=
  fun _ _ _ _ hA hS => isTrue_plain (Tr.then h hA hS) he
theorem Ts.compare {l : Expr} {op : CmpOp} {r : Expr} {pos : Pos} {Q : Bool → Rho → Led → Prop} (h : Ev G l ρ σ (KBin G r (compareOp op) (KTrue G Q)))
    (hm : behindInMarks op r = false := by with_unfolding_all rfl) :
    Ts G (.Compare l [op] [r] pos) ρ σ Q := fun A bs im s hA hS => by
  refine wpAny_isTrue_Compare1 (wpAny_mono (h A bs im s hA hS) (fun a s₁ p => ?_) fun _ _ x => x) hm
  obtain ⟨im₁, r, ρ₁, σ₁, e, hr, hS₁, hC⟩ := p
  refine wpAny_mono (hC A bs im₁ s₁ hA hS₁) (fun b s₂ p => ?_) fun _ _ x => x
  obtain ⟨im₂, r', ρ₂, σ₂, e', hr', hS₂, hD⟩ := p
  refine wpAny_mono (hD A bs im₂ s₂ a b hA hS₂ (hr.mono e'.1) hr') (fun c s₃ p => ?_) fun _ _ x => x
  obtain ⟨im₃, r'', ρ₃, σ₃, e'', hr'', hS₃, hE⟩ := p
  exact wpAny_mono (hE A bs im₃ s₃ c hA hS₃ hr'') (fun _ _ q => q.ext (e.trans (e'.trans e''))) fun _ _ x => x
theorem Ts.not {e : Expr} {pos : Pos} {Q : Bool → Rho → Led → Prop} (h : Ts G e ρ σ (fun b ρ₁ σ₁ => Q (!b) ρ₁ σ₁)) : Ts G (.UnaryOp .Not e pos) ρ σ Q :=
  fun A bs im s hA hS => isTrue_not (wpAny_mono (h A bs im s hA hS) (fun b s' p => by
    obtain ⟨im', r, ρ', σ', e, hr, hS', hQ⟩ := p
    cases hr
    exact ⟨im', _, ρ', σ', e, rfl, hS', hQ⟩) fun _ _ x => x)
noncomputable def TsAll (G : Gx) (op : BoolOp) (es : List Expr) (ρ : Rho) (σ : Led) (Q : Bool → Rho → Led → Prop) : Prop := Tr G relB (allTrue op es G.env) ρ σ Q
noncomputable abbrev KAnd (G : Gx) (es : List Expr) (Q : Bool → Rho → Led → Prop) : Bool → Rho → Led → Prop := fun b ρ₁ σ₁ => if b then TsAll G .And es ρ₁ σ₁ Q else Q false ρ₁ σ₁
noncomputable abbrev KOr (G : Gx) (es : List Expr) (Q : Bool → Rho → Led → Prop) : Bool → Rho → Led → Prop := fun b ρ₁ σ₁ => if b then Q true ρ₁ σ₁ else TsAll G .Or es ρ₁ σ₁ Q
theorem Ts.bool {op : BoolOp} {es : List Expr} {pos : Pos} {Q : Bool → Rho → Led → Prop} (h : TsAll G op es ρ σ Q) : Ts G (.BoolOp op es pos) ρ σ Q := h
theorem TsAll.nilAnd {Q : Bool → Rho → Led → Prop} (h : Q true ρ σ) : TsAll G .And [] ρ σ Q := fun _ _ _ _ _ hS => wpAny_pure (.now hS rfl h)
theorem TsAll.nilOr {Q : Bool → Rho → Led → Prop} (h : Q false ρ σ) : TsAll G .Or [] ρ σ Q := fun _ _ _ _ _ hS => wpAny_pure (.now hS rfl h)
theorem TsAll.and {e : Expr} {es : List Expr} {Q : Bool → Rho → Led → Prop} (h : Ts G e ρ σ (KAnd G es Q)) : TsAll G .And (e :: es) ρ σ Q :=
  fun A bs im s hA hS => isTrue_and (pos := default) (whole := pure .none) (wpAny_mono (h A bs im s hA hS) (fun b s₁ p => by
    obtain ⟨im₁, r, ρ₁, σ₁, e, hr, hS₁, hC⟩ := p
    cases hr
    cases b with
    | false => exact ⟨im₁, false, ρ₁, σ₁, e, rfl, hS₁, hC⟩
    | true => exact wpAny_mono (hC A bs im₁ s₁ hA hS₁) (fun _ _ q => q.ext e) fun _ _ x => x) fun _ _ x => x)
theorem TsAll.or {e : Expr} {es : List Expr} {Q : Bool → Rho → Led → Prop} (h : Ts G e ρ σ (KOr G es Q)) : TsAll G .Or (e :: es) ρ σ Q :=
  fun A bs im s hA hS => isTrue_or (pos := default) (whole := pure .none) (wpAny_mono (h A bs im s hA hS) (fun b s₁ p => by
    obtain ⟨im₁, r, ρ₁, σ₁, e, hr, hS₁, hC⟩ := p
    cases hr
    cases b with
    | true => exact ⟨im₁, true, ρ₁, σ₁, e, rfl, hS₁, hC⟩
    | false => exact wpAny_mono (hC A bs im₁ s₁ hA hS₁) (fun _ _ q => q.ext e) fun _ _ x => x) fun _ _ x => x)

theorem Tr.ite {α R : Type} {rel : PM → R → α → Prop} {tst : Sem Bool} {t u : Sem α} {Q : R → Rho → Led → Prop} (h : Tr G relB tst ρ σ (fun b ρ₁ σ₁ => if b then Tr G rel t ρ₁ σ₁ Q else Tr G rel u ρ₁ σ₁ Q))
    {A : Around} {bs im : PM} {s : Shared} (hA : AOk G.n A) (hS : St G bs im s ρ σ) :
    wpAny G.C.M A tst (fun b s₁ => if b then wpAny G.C.M A t (Post G rel bs im Q) Bot s₁ else wpAny G.C.M A u (Post G rel bs im Q) Bot s₁) Bot s :=
  wpAny_mono (h A bs im s hA hS) (fun b s₁ p => by
    obtain ⟨im₁, r, ρ₁, σ₁, e, hr, hS₁, hC⟩ := p
    cases hr
    cases b with
    | true => exact wpAny_mono (hC A bs im₁ s₁ hA hS₁) (fun _ _ q => q.ext e) fun _ _ x => x
    | false => exact wpAny_mono (hC A bs im₁ s₁ hA hS₁) (fun _ _ q => q.ext e) fun _ _ x => x) fun _ _ x => x
theorem Ev.ifexp {test body orelse : Expr} {pos : Pos} {Q : PV → Rho → Led → Prop} (h : Ts G test ρ σ (KIfE G body orelse Q)) : Ev G (.IfExp test body orelse pos) ρ σ Q :=
  fun _ _ _ _ hA hS => wpAny_IfExp (Tr.ite h hA hS)
theorem Ev.boolOne {op : BoolOp} {e : Expr} {pos : Pos} {Q : PV → Rho → Led → Prop} (h : Ev G e ρ σ Q) : Ev G (.BoolOp op [e] pos) ρ σ Q := h
theorem Ev.and {e₁ e₂ : Expr} {rest : List Expr} {pos : Pos} {Q : PV → Rho → Led → Prop} (h : Ev G e₁ ρ σ (KAndV G (.BoolOp .And (e₂ :: rest) pos) Q)) :
    Ev G (.BoolOp .And (e₁ :: e₂ :: rest) pos) ρ σ Q := fun A bs im s hA hS => BoolOp_and (wpAny_mono (h A bs im s hA hS) (fun v s₁ p => by
    obtain ⟨im₁, r, ρ₁, σ₁, e, hr, hS₁, hC⟩ := p
    refine wpAny_mono (hC A bs im₁ s₁ v hA hS₁ hr) (fun b s₂ p => ?_) fun _ _ x => x
    obtain ⟨im₂, r', ρ₂, σ₂, e', hr', hS₂, hD⟩ := p
    cases hr'
    cases b with
    | true => exact wpAny_mono (hD A bs im₂ s₂ hA hS₂) (fun _ _ q => q.ext (e.trans e')) fun _ _ x => x
    | false => exact ⟨im₂, _, ρ₂, σ₂, e.trans e', hr.mono e'.1, hS₂, hD⟩) fun _ _ x => x)

noncomputable abbrev As (G : Gx) (t : Expr) (p : PV) (ρ : Rho) (σ : Led) (Q : Rho → Led → Prop) : Prop := Con G VR p (fun v => assign t G.env v) relU ρ σ (fun _ ρ' σ' => Q ρ' σ')
theorem store_con {y : String} {p : PV} {Q : Rho → Led → Prop} (hy : (y, NameKind.local) ∈ G.ns) (u : SetR y p ρ ρ') (h : Q ρ' σ) :
    Con G VR p (fun v => storeName G.env (Str.ofString y) v) relU ρ σ (fun _ ρ' σ' => Q ρ' σ') := fun A bs im s v hA hS hv => by
  obtain ⟨m, hn, hr⟩ := hS.f.vars
  refine wpAny_storeName_local (hS.f.kn _ hy).1 hn (fun h' hn' hs' => ?_) (by rw [hS.f.kind]; rfl)
  refine .now (r := ()) (hS.store_local _ hy hv u (fun m₂ hn₂ => ?_) hs') trivial h
  have e : m₂ = m := by
    obtain ⟨o, es, ep, a, b, c, d⟩ := hn
    obtain ⟨o', es', ep', a', b', c', d'⟩ := hn₂
    rw [a] at a'; cases a'; rw [b] at b'; cases b'
    funext z; rw [← d, ← d']
  rw [e]; exact hn'
theorem storeC_con {y : String} {p : PV} {Q : Rho → Led → Prop} (hy : (y, NameKind.cell) ∈ G.ns) (u : SetR y p ρ ρ') (h : Q ρ' σ) :
    Con G VR p (fun v => storeName G.env (Str.ofString y) v) relU ρ σ (fun _ ρ' σ' => Q ρ' σ') := fun A bs im s v hA hS hv => by
  obtain ⟨c, hc⟩ := hS.f.own _ hy rfl
  obtain ⟨⟨w, hw⟩, _, _, _, hl⟩ := hS.f.cells _ hc
  exact wpAny_storeName_cell hS.f.kind (hS.f.kn _ hy).1 hl hw fun h' hv' hs' => .now (r := ()) (hS.store_cell (v := v) s.toks hy hc hv u hv' hs') trivial h
theorem As.name {y : String} {pos : Pos} {p : PV} {Q : Rho → Led → Prop} (hy : (y, NameKind.local) ∈ G.ns) (u : SetR y p ρ ρ') (h : Q ρ' σ) : As G (.Name (Str.ofString y) pos) p ρ σ Q :=
  fun A bs im s v hA hS hv => wpAny_assign_Name (store_con hy u h A bs im s v hA hS hv)
theorem As.nameC {y : String} {pos : Pos} {p : PV} {Q : Rho → Led → Prop} (hy : (y, NameKind.cell) ∈ G.ns) (u : SetR y p ρ ρ') (h : Q ρ' σ) : As G (.Name (Str.ofString y) pos) p ρ σ Q :=
  fun A bs im s v hA hS hv => wpAny_assign_Name (storeC_con hy u h A bs im s v hA hS hv)

noncomputable abbrev KAs (G : Gx) (t : Expr) (Q : Fl → Rho → Led → Prop) : PV → Rho → Led → Prop := fun p ρ₁ σ₁ => As G t p ρ₁ σ₁ (Q .next)
noncomputable abbrev KSto (G : Gx) (y : String) (Q : Fl → Rho → Led → Prop) : PV → Rho → Led → Prop := fun r ρ₂ σ₂ => Con G VR r (fun v => storeName G.env (Str.ofString y) v) relU ρ₂ σ₂ (fun _ ρ₃ σ₃ => Q .next ρ₃ σ₃)
noncomputable abbrev KTurn (I : Nat → Rho → Led → Prop) (k : Nat) (Q : Fl → Rho → Led → Prop) : Fl → Rho → Led → Prop := fun fl ρ₂ σ₂ => match fl with | .next | .cont => ∃ m, m < k ∧ I m ρ₂ σ₂ | .brk => Q .next ρ₂ σ₂ | .ret v => Q (.ret v) ρ₂ σ₂
noncomputable abbrev KWhile (G : Gx) (body : List Stmt) (QB Q : Fl → Rho → Led → Prop) : Bool → Rho → Led → Prop := fun b ρ₁ σ₁ => if b then Ex G body ρ₁ σ₁ QB else Q .next ρ₁ σ₁
theorem Ex.nil {Q : Fl → Rho → Led → Prop} (h : Q .next ρ σ) : Ex G [] ρ σ Q := fun _ _ _ _ _ hS => wpAny_execs_nil (.now (r := Fl.next) hS rfl h)
theorem Ex.cons {st : Stmt} {rest : List Stmt} {Q : Fl → Rho → Led → Prop} (h : Ex1 G st ρ σ (KSeq G rest Q)) : Ex G (st :: rest) ρ σ Q :=
  fun A bs im s hA hS => wpAny_execs_cons (wpAny_mono (h A bs im s hA hS) (fun f s₁ p => by
    obtain ⟨im₁, fl, ρ₁, σ₁, e, hr, hS₁, hC⟩ := p
    cases fl with
    | next => cases hr; exact wpAny_mono (hC A bs im₁ s₁ hA hS₁) (fun _ _ q => q.ext e) fun _ _ x => x
    | brk => cases hr; exact ⟨im₁, .brk, ρ₁, σ₁, e, rfl, hS₁, hC⟩
    | cont => cases hr; exact ⟨im₁, .cont, ρ₁, σ₁, e, rfl, hS₁, hC⟩
    | ret v => obtain ⟨w, rfl, hw⟩ := hr; exact ⟨im₁, .ret v, ρ₁, σ₁, e, ⟨w, rfl, hw⟩, hS₁, hC⟩) fun _ _ x => x)
theorem Ex1.brk {pos : Pos} {Q : Fl → Rho → Led → Prop} (h : Q .brk ρ σ) : Ex1 G (.Break pos) ρ σ Q := fun _ _ _ _ _ hS => wpAny_Break (.now (r := Fl.brk) hS rfl h)
theorem Ex1.cont {pos : Pos} {Q : Fl → Rho → Led → Prop} (h : Q .cont ρ σ) : Ex1 G (.Continue pos) ρ σ Q := fun _ _ _ _ _ hS => wpAny_Continue (.now (r := Fl.cont) hS rfl h)
theorem Ex1.ret {e : Expr} {pos : Pos} {Q : Fl → Rho → Led → Prop} (h : Ev G e ρ σ (KRet Q)) : Ex1 G (.Return (some e) pos) ρ σ Q :=
  fun A bs im s hA hS => wpAny_Return_some (wpAny_mono (h A bs im s hA hS) (fun v s₁ p => by
    obtain ⟨im₁, r, ρ₁, σ₁, e, hr, hS₁, hC⟩ := p
    exact ⟨im₁, .ret r, ρ₁, σ₁, e, ⟨v, rfl, hr⟩, hS₁, hC⟩) fun _ _ x => x)
theorem Ex1.if {test : Expr} {body orelse : List Stmt} {pos : Pos} {Q : Fl → Rho → Led → Prop} (h : Ts G test ρ σ (KIfS G body orelse Q)) : Ex1 G (.If test body orelse pos) ρ σ Q :=
  fun _ _ _ _ hA hS => wpAny_If (Tr.ite h hA hS)
theorem Ex1.assert {test : Expr} {msg : Option Expr} {pos : Pos} {Q : Fl → Rho → Led → Prop} (h : Ts G test ρ σ (KAssert Q)) : Ex1 G (.Assert test msg pos) ρ σ Q :=
  fun A bs im s hA hS => wpAny_Assert_holds (wpAny_mono (h A bs im s hA hS) (fun b s₁ p => by
    obtain ⟨im₁, r, ρ₁, σ₁, e, hr, hS₁, hC⟩ := p
    cases hr
    exact ⟨hC.1, im₁, .next, ρ₁, σ₁, e, rfl, hS₁, hC.2⟩) fun _ _ x => x)
theorem Tr.thenNext {t : Sem Unit} {Q : Fl → Rho → Led → Prop} {A : Around} {bs im : PM} {s : Shared} (h : wpAny G.C.M A t (Post G relU bs im fun _ ρ₂ σ₂ => Q .next ρ₂ σ₂) Bot s) : wpAny G.C.M A (t >>= fun _ => pure Flow.next) (Post G FlR bs im Q) Bot s :=
  wpAny_bind (wpAny_mono h (fun _ s₂ p => by
    obtain ⟨im₂, r, ρ₂, σ₂, e, hr, hS₂, hC⟩ := p
    exact wpAny_pure ⟨im₂, .next, ρ₂, σ₂, e, rfl, hS₂, hC⟩) fun _ _ x => x)
theorem Ex1.asg {t value : Expr} {pos : Pos} {Q : Fl → Rho → Led → Prop} (h : Ev G value ρ σ (KAs G t Q))
    (hs : swapsWithSole [t] value pos.line G.env = pure false := by rfl) (hw : swappedStores [t] value G.env = pure none := by rfl) (ht : (assignEach [t] G.env).map (·.2) = [assign t G.env] := by rfl) : Ex1 G (.Assign [t] value pos) ρ σ Q :=
  fun A bs im s hA hS => by
    show wpAny _ _ (exec (.Assign [t] value pos) G.env) _ _ _
    rw [PyProof.Rows.exec_Assign]
    refine wpAny_bind (wpAny_standAt ?_)
    rw [hs]
    refine wpAny_bind (wpAny_pure ?_)
    rw [if_neg (by decide)]
    refine wpAny_bind (wpAny_mono (Tr.then h hA hS) (fun v s₁ h₁ => ?_) fun _ _ x => x)
    rw [hw]
    refine wpAny_bind (wpAny_pure ?_)
    rw [ht]
    exact Tr.thenNext h₁
theorem Ex1.aug {y : String} {pos' : Pos} {op : Operator} {value : Expr} {pos : Pos} {p : PV} {Q : Fl → Rho → Led → Prop} (hy : (y, p) ∈ ρ)
    (h : Ev G value ρ σ (KOp2 G (inplaceOp op) p (KSto G y Q))) :
    Ex1 G (.AugAssign (.Name (Str.ofString y) pos') op value pos) ρ σ Q := fun A bs im s hA hS => by
  refine wpAny_AugAssign_Name (load_has hS hy (fun v hv => ?_)).2
  refine wpAny_mono (h A bs im s hA hS) (fun w s₁ q => ?_) fun _ _ x => x
  obtain ⟨im₁, r, ρ₁, σ₁, e, hr, hS₁, hC⟩ := q
  refine wpAny_mono (hC A bs im₁ s₁ v w hA hS₁ (hv.mono e.1) hr) (fun z s₂ q => ?_) fun _ _ x => x
  obtain ⟨im₂, r₂, ρ₂, σ₂, e₂, hr₂, hS₂, hD⟩ := q
  refine wpAny_mono (hD A bs im₂ s₂ z hA hS₂ hr₂) (fun _ s₃ q => ?_) fun _ _ x => x
  obtain ⟨im₃, r₃, ρ₃, σ₃, e₃, hr₃, hS₃, hE⟩ := q
  exact ⟨im₃, .next, ρ₃, σ₃, e.trans (e₂.trans e₃), rfl, hS₃, hE⟩
theorem Ex1.expr {e : Expr} {pos : Pos} {Q : Fl → Rho → Led → Prop} (h : Ev G e ρ σ (KExpr Q)) (hs : swapsWith e none pos.line G.env = pure false := by rfl) :
    Ex1 G (.Expr e pos) ρ σ Q := fun A bs im s hA hS => by
  have hi : interactive G.env = false := by unfold interactive; rw [hS.f.kind]; rfl
  refine wpAny_Expr (wpAny_mono (h A bs im s hA hS) (fun v s₁ p => ?_) fun _ _ x => x) hi hs
  obtain ⟨im₁, r, ρ₁, σ₁, e, hr, hS₁, rfl, hC⟩ := p
  rw [hr.none_i]
  exact ⟨im₁, .next, ρ₁, σ₁, e, rfl, hS₁, hC⟩

theorem notedBot {A : Around} {env : Env} {E : Value → Shared → Prop} {M : Model} {v : Value} {s : Shared} (h : Bot v s) : notedBy M A env E v s := h.elim
theorem Ex1.while {test : Expr} {body : List Stmt} {pos : Pos} {Q : Fl → Rho → Led → Prop} (I : Nat → Rho → Led → Prop)
    (turn : ∀ k ρ σ, I k ρ σ → Ts G test ρ σ (KWhile G body (KTurn I k Q) Q))
    (k : Nat) (h : I k ρ σ) : Ex1 G (.While test body [] pos) ρ σ Q := fun A bs im s hA hS => by
  refine wpAny_While ?_
  refine codeAny_whileLoop (fun n s' => ∃ im' ρ' σ', Ext bs im im' ∧ St G bs im' s' ρ' σ' ∧ I n ρ' σ') ?_ k ⟨im, ρ, σ, .refl, hS, h⟩
  rintro n s' ⟨im', ρ', σ', e, hS', hI⟩
  refine wpAny_mono (turn n ρ' σ' hI A bs im' s' hA hS') (fun b s₂ p => ?_) fun _ _ x => notedBot x
  obtain ⟨im₂, r, ρ₂, σ₂, e₂, hr, hS₂, hC⟩ := p
  cases hr
  cases b with
  | false => exact wpAny_execs_nil ⟨im₂, .next, ρ₂, σ₂, e.trans e₂, rfl, hS₂, hC⟩
  | true =>
    refine wpAny_mono (hC A bs im₂ s₂ hA hS₂) (fun f s₃ p => ?_) fun _ _ x => notedBot x
    obtain ⟨im₃, fl, ρ₃, σ₃, e₃, hr₃, hS₃, hD⟩ := p
    have ee := e.trans (e₂.trans e₃)
    cases fl with
    | next => cases hr₃; obtain ⟨m, hm, hI'⟩ := hD; exact ⟨m, hm, im₃, ρ₃, σ₃, ee, hS₃, hI'⟩
    | cont => cases hr₃; obtain ⟨m, hm, hI'⟩ := hD; exact ⟨m, hm, im₃, ρ₃, σ₃, ee, hS₃, hI'⟩
    | brk => cases hr₃; exact ⟨im₃, .next, ρ₃, σ₃, ee, rfl, hS₃, hD⟩
    | ret v => obtain ⟨w, rfl, hw⟩ := hr₃; exact ⟨im₃, .ret v, ρ₃, σ₃, ee, ⟨w, rfl, hw⟩, hS₃, hD⟩
end
end Mine.Tactic
end
section
open PySem PySem.W PyProof.Rows PySem.Calls
set_option Elab.async false
set_option maxRecDepth 100000
namespace Mine.Tactic

theorem St.off {G : Gx} {bs im : PM} {s : Shared} {ρ : Rho} {σ : Led} (x : St G bs im s ρ σ) {W : Addr → Prop} {h' : Heap} (t : Nat) (hk : ∀ b o, ¬ W b → s.heap.get? b = some o → h'.get? b = some o)
    (wb : ∀ b, W b → bs.f b = none) (wi : ∀ b, W b → im.f b = none) (ws : ∀ b, W b → b ∉ σ.map (·.1)) (wl : ¬ W G.env.locals) (wk : ∀ p ∈ G.κ, ¬ W p.2) (ht : s.toks ≤ t := by first | exact Nat.le_refl _ | exact Nat.le_succ _ | assumption | walk_at "zo") : St G bs im { s with heap := h', toks := t } ρ σ := by
  have nb : ∀ b o, bs.f b = some o → ¬ W b := fun b o e q => by rw [wb b q] at e; cases e
  have ni : ∀ b o, im.f b = some o → ¬ W b := fun b o e q => by rw [wi b q] at e; cases e
  have hcell : ∀ y c w, G.env.cells.lookup y = some c → s.heap.IsCell c w → h'.IsCell c w := fun y c w e ⟨o, ho, hd⟩ => by
    have hc : ¬ W c := by
      rcases x.f.outer y c e with q | ⟨o, q⟩
      · exact wk _ q
      · exact nb _ _ q
    exact ⟨o, hk c o hc ho, hd⟩
  refine ⟨⟨x.l.os, x.l.gens, x.l.cb, fun b o e => hk b o (nb b o e) (x.l.hbs b o e), fun b o e => hk b o (ni b o e) (x.l.him b o e), fun p hp => ?_, x.l.nd, x.l.gok, Nat.le_trans x.l.tk ht⟩,
    ⟨?_, x.f.rn, x.f.lbs, x.f.lim, x.f.lled, fun p hp => ?_, x.f.apart, x.f.outer, x.f.kind, x.f.gl, x.f.bi, x.f.kn, x.f.own, x.f.ck⟩⟩
  · obtain ⟨c, d⟩ := x.l.led p hp
    exact ⟨c.at fun y e => hk _ y (fun q => ws _ q (List.mem_map_of_mem hp)) e, d⟩
  · obtain ⟨m, ⟨o, es, ep, a, b⟩, d⟩ := x.f.vars
    exact ⟨m, ⟨o, es, ep, hk _ _ wl a, b⟩, fun p hp => let ⟨v, e, f⟩ := d p hp; ⟨v, e, f.keeps (hcell _)⟩⟩
  · obtain ⟨⟨v, c⟩, d, e, f, g⟩ := x.f.cells p hp
    exact ⟨⟨v, hcell _ _ _ g c⟩, d, e, f, g⟩

noncomputable def PM.over (bs : PM) (F : Addr → Prop) [DecidablePred F] (h : Heap) : PM := ⟨fun b => if F b then h.get? b else bs.f b, bs.n⟩
theorem PM.over_at (bs : PM) (F : Addr → Prop) [DecidablePred F] (h : Heap) (b : Addr) : (bs.over F h).f b = if F b then h.get? b else bs.f b := rfl
theorem St.over {G : Gx} {bs im : PM} {s : Shared} {ρ : Rho} {σ : Led} (x : St G bs im s ρ σ) (F : Addr → Prop) [DecidablePred F] (fs : ∀ b, F b → b ∉ σ.map (·.1)) (fl : ¬ F G.env.locals) (fk : ∀ p ∈ G.κ, ¬ F p.2) :
    St G (bs.over F s.heap) im s ρ σ := by
  have sub : ∀ b o, bs.f b = some o → (bs.over F s.heap).f b = some o := fun b o e => by
    rw [PM.over_at]; split
    · exact x.l.hbs b o e
    · exact e
  refine ⟨⟨x.l.os, x.l.gens, fun a o e => sub a o (x.l.cb a o e), fun b o e => ?_, x.l.him, fun p hp => ?_, x.l.nd, x.l.gok, x.l.tk⟩, ⟨x.f.vars, x.f.rn, ?_, x.f.lim, x.f.lled, fun p hp => ?_, x.f.apart, fun y c e => ?_, x.f.kind, x.f.gl, x.f.bi, x.f.kn, x.f.own, x.f.ck⟩⟩
  · rw [PM.over_at] at e; split at e
    · exact e
    · exact x.l.hbs b o e
  · obtain ⟨a, b, c⟩ := x.l.led p hp
    exact ⟨a, by rw [PM.over_at, if_neg (fun q => fs _ q (List.mem_map_of_mem hp))]; exact b, c⟩
  · rw [PM.over_at, if_neg fl]; exact x.f.lbs
  · obtain ⟨a, b, c⟩ := x.f.cells p hp
    exact ⟨a, by rw [PM.over_at, if_neg (fk p hp)]; exact b, c⟩
  · exact (x.f.outer y c e).imp id fun ⟨o, q⟩ => ⟨o, sub _ _ q⟩
theorem PM.over_sub {bs : PM} {F : Addr → Prop} [DecidablePred F] {h : Heap} (hb : ∀ b o, bs.f b = some o → h.get? b = some o) : ∀ b o, bs.f b = some o → (bs.over F h).f b = some o := fun b o e => by
  rw [PM.over_at]; split
  · exact hb b o e
  · exact e
theorem St.under {G : Gx} {bs bs' im : PM} {s : Shared} {ρ : Rho} {σ : Led} (x : St G bs' im s ρ σ) (sub : ∀ b o, bs.f b = some o → bs'.f b = some o) (cb : ∀ a o, G.C.base.f a = some o → bs.f a = some o)
    (out : ∀ y c, G.env.cells.lookup y = some c → (y, c) ∈ G.κ ∨ ∃ o, bs.f c = some o) : St G bs im s ρ σ := by
  have none_of : ∀ b, bs'.f b = none → bs.f b = none := fun b e => by cases q : bs.f b with | none => rfl | some o => rw [sub b o q] at e; cases e
  exact ⟨⟨x.l.os, x.l.gens, cb, fun b o e => x.l.hbs b o (sub b o e), x.l.him, fun p hp => let ⟨a, b, c⟩ := x.l.led p hp; ⟨a, none_of _ b, c⟩, x.l.nd, x.l.gok, x.l.tk⟩,
    ⟨x.f.vars, x.f.rn, none_of _ x.f.lbs, x.f.lim, x.f.lled, fun p hp => let ⟨a, b, c⟩ := x.f.cells p hp; ⟨a, none_of _ b, c⟩, x.f.apart, out, x.f.kind, x.f.gl, x.f.bi, x.f.kn, x.f.own, x.f.ck⟩⟩
theorem Ext.under {bs bs' im im' : PM} (x : Ext bs' im im') (sub : ∀ b o, bs.f b = some o → bs'.f b = some o) : Ext bs im im' :=
  ⟨x.1, fun a e => (x.2 a e).imp id fun q => by cases z : bs.f a with | none => rfl | some o => rw [sub a o z] at q; cases q⟩

structure NewIm (im im₂ : PM) (h₀ h₂ : Heap) : Prop where
  k : PMle im im₂
  nw : ∀ a o, im₂.f a = some o → im.f a = some o ∨ (h₀.get? a = none ∧ h₂.get? a = some o)
  tn : im₂.n = im.n
theorem NewIm.refl {im : PM} {h₀ h₂ : Heap} : NewIm im im h₀ h₂ := ⟨⟨fun _ _ e => e, Nat.le_refl _⟩, fun _ _ e => .inl e, rfl⟩
theorem St.offNew {G : Gx} {bs im im₂ : PM} {s : Shared} {ρ : Rho} {σ : Led} (x : St G bs im s ρ σ) {W : Addr → Prop} {h' : Heap} (t : Nat) (hk : ∀ b o, ¬ W b → s.heap.get? b = some o → h'.get? b = some o)
    (wb : ∀ b, W b → bs.f b = none) (wi : ∀ b, W b → im.f b = none) (ws : ∀ b, W b → b ∉ σ.map (·.1)) (wl : ¬ W G.env.locals) (wk : ∀ p ∈ G.κ, ¬ W p.2) (n : NewIm im im₂ s.heap h') (ht : s.toks ≤ t := by first | exact Nat.le_refl _ | exact Nat.le_succ _ | assumption | walk_at "zo") : Ext bs im im₂ ∧ St G bs im₂ { s with heap := h', toks := t } ρ σ := by
  have y := x.off t hk wb wi ws wl wk ht
  have no : ∀ a, im.f a = none → (∃ o, s.heap.get? a = some o) → im₂.f a = none := fun a e ⟨o, ho⟩ => by
    cases q : im₂.f a with
    | none => rfl
    | some o' =>
      rcases n.nw a o' q with z | ⟨z, _⟩
      · rw [e] at z; cases z
      · rw [ho] at z; cases z
  refine ⟨⟨n.k, fun a e => ?_⟩, ⟨y.l.os, y.l.gens, y.l.cb, y.l.hbs, fun a o e => ?_, fun p hp => ?_, y.l.nd, y.l.gok, by rw [n.tn]; exact y.l.tk⟩, ⟨?_, y.f.rn, y.f.lbs, ?_, y.f.lled, fun p hp => ?_, y.f.apart, y.f.outer, y.f.kind, y.f.gl, y.f.bi, y.f.kn, y.f.own, y.f.ck⟩⟩
  · cases q : im₂.f a with
    | none => exact absurd q e
    | some o =>
      rcases n.nw a o q with z | ⟨z, _⟩
      · exact .inl (by rw [z]; simp)
      · exact .inr (x.l.bs_none z)
  · rcases n.nw a o e with z | ⟨_, z⟩
    · exact y.l.him a o z
    · exact z
  · obtain ⟨a, b, c⟩ := y.l.led p hp
    exact ⟨a.mono n.k, b, no _ c (x.l.led p hp).1.some⟩
  · obtain ⟨m, a, b⟩ := y.f.vars
    exact ⟨m, a, fun p hp => let ⟨v, c, d⟩ := b p hp; ⟨v, c.mono n.k, d⟩⟩
  · obtain ⟨o, _, _, ho, _⟩ := x.f.loc_some
    exact no _ y.f.lim ⟨o, ho⟩
  · obtain ⟨a, b, c, d, e⟩ := y.f.cells p hp
    obtain ⟨⟨v, oc, hoc, _⟩, _⟩ := x.f.cells p hp
    exact ⟨a, b, no _ c ⟨oc, hoc⟩, d, e⟩

structure Apart (G : Gx) (bs im : PM) (σ : Led) (b : Addr) : Prop where
  bs : bs.f b = none
  im : im.f b = none
  led : b ∉ σ.map (·.1)
  loc : b ≠ G.env.locals
  cel : ∀ q ∈ G.κ, q.2 ≠ b
theorem St.apart_new {G : Gx} {bs im : PM} {s : Shared} {ρ : Rho} {σ : Led} (hS : St G bs im s ρ σ) {b : Addr} (hn : s.heap.get? b = none) : Apart G bs im σ b := by
  obtain ⟨ol, _, _, hol, _⟩ := hS.f.loc_some
  refine ⟨hS.l.bs_none hn, hS.l.im_none hn, hS.l.led_some hn, (fun q => by rw [q, hol] at hn; cases hn), fun q hq e => ?_⟩
  obtain ⟨⟨v, o, ho, _⟩, _⟩ := hS.f.cells q hq
  rw [e, hn] at ho; cases ho
structure IsIt (G : Gx) (A : Around) (im : PM) (h : Heap) (tg : Expr) (σf σr : Led) (items : List PV) (I : Addr) (fp wr : List Addr) (P : Nat → Heap → Value → Heap → Prop) (S : Nat → Heap → Prop) : Prop where
  sub : ∀ b ∈ wr, b ∈ fp
  frame : ∀ i h h', S i h → (∀ b ∈ fp, ∀ o, h.get? b = some o → h'.get? b = some o) → S i h'
  next : ∀ i (s : Shared) (Q : Option Value → Shared → Prop) (E : Value → Shared → Prop), i < items.length → S i s.heap →
    (∀ v h₁ tk, (∀ (Q' : Unit → Shared → Prop), (∀ h₂, P i s.heap v h₂ → S (i + 1) h₂ → (∀ b o, b ∉ wr → s.heap.get? b = some o → h₂.get? b = some o) → Q' () { s with heap := h₂, toks := tk }) →
      wpAny G.C.M A (letOwnedTupleGo tg (.ref I) v) Q' Bot { s with heap := h₁, toks := tk }) → Q (some v) { s with heap := h₁, toks := tk }) → wpAny G.C.M A (pyNext (.ref I)) Q E s
  done : ∀ (s : Shared) (Q : Option Value → Shared → Prop) (E : Value → Shared → Prop), S items.length s.heap →
    (∀ h' tk, (∀ b o, b ∉ wr → s.heap.get? b = some o → h'.get? b = some o) → Q none { s with heap := h', toks := tk }) → wpAny G.C.M A (pyNext (.ref I)) Q E s
  self : ∀ i (s : Shared) (Q : Value → Shared → Prop) (E : Value → Shared → Prop), S i s.heap → Q (.ref I) s → wpAny G.C.M A (pyIter (.ref I)) Q E s
  st : S 0 h
  wrI : I ∈ wr
  fps : ∀ b ∈ fp, b ∉ wr → (∃ o, im.f b = some o) ∨ (b ∈ σf.map (·.1) ∧ b ∈ σr.map (·.1))
  back : ∀ p ∈ σr, p ∈ σf ∧ p.1 ∈ fp ∧ p.1 ∉ wr
  has : ∀ i h, S i h → ∀ b ∈ wr, ∃ o, h.get? b = some o
  val : ∀ im' i h₀ v h₂, PMle im im' → (∀ a o, im'.f a = some o → h₀.get? a = some o) → P i h₀ v h₂ → ∀ p, items[i]? = some p → ∃ im₂, NewIm im' im₂ h₀ h₂ ∧ VR im₂ p v
structure PlainIt (G : Gx) (A : Around) (im : PM) (h : Heap) (σf σr : Led) (items : List PV) (I : Addr) (fp : List Addr) (P : Nat → Value → Prop) (S : Nat → Heap → Prop) : Prop where
  walks : Walks G.C.prog G.C.w A I fp [I] items.length P S
  st : S 0 h
  fpI : I ∈ fp
  fps : ∀ b ∈ fp, b ≠ I → (∃ o, im.f b = some o) ∨ (b ∈ σf.map (·.1) ∧ b ∈ σr.map (·.1))
  back : ∀ p ∈ σr, p ∈ σf ∧ p.1 ∈ fp ∧ p.1 ≠ I
  has : ∀ i h, S i h → ∃ o, h.get? I = some o
  item : ∀ im' i v, PMle im im' → P i v → ∀ p, items[i]? = some p → VR im' p v
  go : ∀ target i v (s : Shared) (Q : Unit → Shared → Prop), S i s.heap → (∀ h', S i h' → Heap.SameBut I s.heap h' → Q () { s with heap := h' }) → wpAny G.C.M A (letOwnedTupleGo target (.ref I) v) Q Bot s
theorem PlainIt.it {G : Gx} {A : Around} {im : PM} {h : Heap} {tg : Expr} {σf σr : Led} {items : List PV} {I : Addr} {fp : List Addr} {P : Nat → Value → Prop} {S : Nat → Heap → Prop} (x : PlainIt G A im h σf σr items I fp P S) :
    IsIt G A im h tg σf σr items I fp [I] (fun i _ v _ => P i v) S where
  sub := fun b hb => by rw [List.mem_singleton.mp hb]; exact x.fpI
  frame := x.walks.frame
  next := fun i s Q E hi hS hQ => x.walks.item i s Q E hi hS fun v h₁ tk hP hS₁ hk₁ => hQ v h₁ tk fun Q' hq => x.go tg (i + 1) v _ Q' hS₁ fun h₂ hS₂ hs₂ => hq h₂ hP hS₂ fun b o hb e => (hs₂.2 b (by simpa using hb)).trans (hk₁ b o hb e)
  done := x.walks.done
  self := x.walks.self
  st := x.st
  wrI := .head _
  fps := fun b hb hn => x.fps b hb (by simpa using hn)
  back := fun p hp => let ⟨a, b, c⟩ := x.back p hp; ⟨a, b, by simpa using c⟩
  has := fun i h hS b hb => by rw [List.mem_singleton.mp hb]; exact x.has i h hS
  val := fun im' i h₀ v h₂ hm _ hP p hp => ⟨im', .refl, x.item im' i v hm hP p hp⟩

noncomputable def ItSrc (G : Gx) (tg : Expr) (p : PV) (σf σr : Led) (items : List PV) : Prop :=
  ∀ A bs im s ρ σ v (Q : Value → Shared → Prop), AOk G.n A → St G bs im s ρ (σf ++ σ) → VR im p v →
    (∀ I h' tk fp wr P S, (∀ b o, s.heap.get? b = some o → h'.get? b = some o) → (∀ b ∈ wr, s.heap.get? b = none ∨ b ∈ σf.map (·.1)) → IsIt G A im h' tg σf σr items I fp wr P S → Q (.ref I) { s with heap := h', toks := tk }) →
    wpAny G.C.M A (pyIter v) Q Bot s
noncomputable def ForSrc (G : Gx) (tg iter : Expr) (ρ : Rho) (σ : Led) (K : List PV → Led → Rho → Led → Prop) : Prop :=
  ∀ A bs im s, AOk G.n A → St G bs im s ρ σ → wpAny G.C.M A (eval iter G.env) (fun v s₁ => ∃ im₁ ρ₁ σf σr σ₂ items, Ext bs im im₁ ∧ St G bs im₁ s₁ ρ₁ (σf ++ σ₂) ∧ (σr.map (·.1)).Nodup ∧ K items σr ρ₁ σ₂ ∧
    ∀ Q : Value → Shared → Prop, (∀ I h' tk fp wr P S, (∀ b o, s₁.heap.get? b = some o → h'.get? b = some o) → (∀ b ∈ wr, Apart G bs im₁ (σf ++ σ₂) b ∨ b ∈ σf.map (·.1)) → IsIt G A im₁ h' tg σf σr items I fp wr P S → Q (.ref I) { s₁ with heap := h', toks := tk }) →
      wpAny G.C.M A (pyIter v) Q Bot s₁) Bot s
theorem ForSrc.of {G : Gx} {tg iter : Expr} {ρ : Rho} {σ : Led} {K : List PV → Led → Rho → Led → Prop} (h : Ev G iter ρ σ (fun p ρ₁ σ₁ => ∃ σf σr σ₂ items, ItSrc G tg p σf σr items ∧ (∀ q ∈ σf ++ σ₂, q ∈ σ₁) ∧ (((σf ++ σ₂).map (·.1)).Nodup ∨ σf ++ σ₂ = σ₁) ∧ (σr.map (·.1)).Nodup ∧ K items σr ρ₁ σ₂)) :
    ForSrc G tg iter ρ σ K := fun A bs im s hA hS => by
  refine wpAny_mono (h A bs im s hA hS) (fun v s₁ p => ?_) fun _ _ e => e
  obtain ⟨im₁, r, ρ₁, σ₁, e, hr, hS₁, σf, σr, σ₂, items, hI, hsub, hnd', hnr, hK⟩ := p
  have hnd : ((σf ++ σ₂).map (·.1)).Nodup := hnd'.elim id fun e => e ▸ hS₁.l.nd
  have hS₁' := hS₁.sub hsub hnd
  exact ⟨im₁, ρ₁, σf, σr, σ₂, items, e, hS₁', hnr, hK, fun Q hQ => hI A bs im₁ s₁ ρ₁ σ₂ v Q hA hS₁' hr fun I h' tk fp wr P S a b c => hQ I h' tk fp wr P S a (fun x hx => (b x hx).imp (fun z => hS₁'.apart_new z) id) c⟩

noncomputable def ForT (G : Gx) (target : Expr) (body : List Stmt) : List PV → Rho → Led → (Fl → Rho → Led → Prop) → Prop
  | [], ρ, σ, Q => Q .next ρ σ
  | x :: xs, ρ, σ, Q => As G target x ρ σ (fun ρ₁ σ₁ => Ex G body ρ₁ σ₁ (fun fl ρ₂ σ₂ => match fl with | .next | .cont => ForT G target body xs ρ₂ σ₂ Q | .brk => Q .next ρ₂ σ₂ | .ret v => Q (.ret v) ρ₂ σ₂))

structure Loop (G : Gx) (A : Around) (im₀ bs im : PM) (h₀ : Heap) (s : Shared) (σf σr : Led) (items : List PV) (I : Addr) (fp wr : List Addr) (S : Nat → Heap → Prop) (i : Nat) (ρ : Rho) (σ : Led) : Prop where
  st : St G bs im s ρ σ
  ext : Ext bs im₀ im
  si : S i s.heap
  old : ∀ b ∈ fp, b ∉ wr → ∀ o, h₀.get? b = some o → s.heap.get? b = some o
  ib : ∀ b ∈ wr, bs.f b = none
  ii : ∀ b ∈ wr, im.f b = none
  is : ∀ b ∈ fp, b ∉ σ.map (·.1)
  ifr : ∀ b ∈ σr.map (·.1), im.f b = none

theorem mem_map_fst {σ : Led} {p : Addr × LO} (h : p ∈ σ) : p.1 ∈ σ.map (·.1) := List.mem_map_of_mem h

section
variable {G : Gx} {A : Around} {bs im₀ im : PM} {h₀ : Heap} {s : Shared} {ρ : Rho} {σ σf σr : Led} {items : List PV} {I : Addr} {tg : Expr} {fp wr : List Addr} {P : Nat → Heap → Value → Heap → Prop} {S : Nat → Heap → Prop} {i : Nat}

theorem Loop.body {α R : Type} {rel : PM → R → α → Prop} {t : Sem α} {Q : R → Rho → Led → Prop} (x : Loop G A im₀ bs im h₀ s σf σr items I fp wr S i ρ σ) (hsubw : ∀ b ∈ wr, b ∈ fp) (hfra : ∀ i h h', S i h → (∀ b ∈ fp, ∀ o, h.get? b = some o → h'.get? b = some o) → S i h')
    (hl : G.env.locals ∉ fp) (hk : ∀ p ∈ G.κ, p.2 ∉ fp) (hsr : ∀ b ∈ σr.map (·.1), b ∈ fp) (hso : ∀ b ∈ fp, ∃ o, s.heap.get? b = some o) (h : ∀ bs', St G bs' im s ρ σ → wpAny G.C.M A t (Post G rel bs' im Q) Bot s) :
    wpAny G.C.M A t (fun a s' => ∃ im' r ρ' σ', Loop G A im₀ bs im' h₀ s' σf σr items I fp wr S i ρ' σ' ∧ Ext bs im im' ∧ rel im' r a ∧ Q r ρ' σ') Bot s := by
  have y := x.st.over (fun b => b ∈ fp) (fun b hb => x.is b hb) hl hk
  have sub := PM.over_sub (F := fun b => b ∈ fp) x.st.l.hbs
  refine wpAny_mono (h _ y) (fun a s' p => ?_) fun _ _ e => e
  obtain ⟨im', r, ρ', σ', e, hr, hS', hQ⟩ := p
  have e' := e.under sub
  have fpk : ∀ b ∈ fp, ∀ o, s.heap.get? b = some o → s'.heap.get? b = some o := fun b hb o q => hS'.l.hbs b o (by rw [PM.over_at, if_pos hb]; exact q)
  have fpn : ∀ b ∈ fp, (bs.over (fun b => b ∈ fp) s.heap).f b ≠ none := fun b hb q => by
    obtain ⟨o, ho⟩ := hso b hb
    rw [PM.over_at, if_pos hb, ho] at q; cases q
  refine ⟨im', r, ρ', σ', ⟨hS'.under sub x.st.l.cb x.st.f.outer, x.ext.trans e', hfra _ _ _ x.si fpk, fun b hb hbI o q => fpk b hb o (x.old b hb hbI o q), x.ib, fun b hb => ?_, fun b hb q => ?_, fun b hb => ?_⟩, e', hr, hQ⟩
  · cases q : im'.f b with
    | none => rfl
    | some o => exact absurd (x.ii b hb) ((e.2 b (by rw [q]; simp)).resolve_right (fpn b (hsubw b hb)))
  · obtain ⟨p, hp, rfl⟩ := List.mem_map.mp q
    exact fpn _ hb (hS'.l.led p hp).2.1
  · cases q : im'.f b with
    | none => rfl
    | some o => exact absurd (x.ifr b hb) ((e.2 b (by rw [q]; simp)).resolve_right (fpn b (hsr b hb)))
theorem Loop.step {h₀' : Heap} (y : Loop G A im₀ bs im h₀ s σf σr items I fp wr S i ρ σ) (hI : IsIt G A im₀ h₀' tg σf σr items I fp wr P S) (hl : G.env.locals ∉ fp) (hk : ∀ p ∈ G.κ, p.2 ∉ fp) (hsr : ∀ b ∈ σr.map (·.1), b ∈ fp) (hso : ∀ b ∈ fp, ∃ o, h₀.get? b = some o) {v : Value} {h₂ : Heap} (tk : Nat) (hP : P i s.heap v h₂) (hS₂ : S (i + 1) h₂)
    (hk₂ : ∀ b o, b ∉ wr → s.heap.get? b = some o → h₂.get? b = some o) {p : PV} (hp : items[i]? = some p) (ht : s.toks ≤ tk := by first | exact Nat.le_refl _ | exact Nat.le_succ _ | assumption | walk_at "zo") :
    ∃ im₂, Ext bs im im₂ ∧ Loop G A im₀ bs im₂ h₀ { s with heap := h₂, toks := tk } σf σr items I fp wr S (i + 1) ρ σ ∧ VR im₂ p v := by
  obtain ⟨im₂, n, hv⟩ := hI.val im i s.heap v h₂ y.ext.1 y.st.l.him hP p hp
  obtain ⟨e, z⟩ := y.st.offNew (W := fun b => b ∈ wr) tk hk₂ y.ib y.ii (fun b q => y.is b (hI.sub b q)) (fun q => hl (hI.sub _ q)) (fun p hp q => hk p hp (hI.sub _ q)) n ht
  have hs : ∀ b ∈ fp, ∃ o, s.heap.get? b = some o := fun b hb => by
    by_cases q : b ∈ wr
    · exact hI.has _ _ y.si b q
    · obtain ⟨o, ho⟩ := hso b hb; exact ⟨o, y.old b hb q o ho⟩
  have no : ∀ a ∈ fp, im.f a = none → im₂.f a = none := fun a ha e => by
    obtain ⟨o, ho⟩ := hs a ha
    cases q : im₂.f a with
    | none => rfl
    | some o' =>
      rcases n.nw a o' q with z | ⟨z, _⟩
      · rw [e] at z; cases z
      · rw [ho] at z; cases z
  exact ⟨im₂, e, ⟨z, y.ext.trans e, hS₂, fun b hb q o e => hk₂ b o q (y.old b hb q o e), y.ib, fun b hb => no b (hI.sub b hb) (y.ii b hb), y.is, fun b hb => no b (hsr b hb) (y.ifr b hb)⟩, hv⟩
theorem Loop.fin {h₀' : Heap} (y : Loop G A im₀ bs im h₀ s σf σr items I fp wr S i ρ σ) (hI : IsIt G A im₀ h₀' tg σf σr items I fp wr P S) (hl : G.env.locals ∉ fp) (hk : ∀ p ∈ G.κ, p.2 ∉ fp) (hsr : ∀ b ∈ σr.map (·.1), b ∈ fp)
    (hback : ∀ p ∈ σr, LR im₀ h₀ p.1 p.2 ∧ bs.f p.1 = none ∧ G.env.locals ≠ p.1 ∧ ∀ q ∈ G.κ, q.2 ≠ p.1) (hnr : (σr.map (·.1)).Nodup) {h' : Heap} (tk : Nat) (hk' : ∀ b o, b ∉ wr → s.heap.get? b = some o → h'.get? b = some o) (ht : s.toks ≤ tk := by first | exact Nat.le_refl _ | exact Nat.le_succ _ | assumption | walk_at "zo") :
    St G bs im { s with heap := h', toks := tk } ρ (σr ++ σ) := by
  have z : St G bs im { s with heap := h', toks := tk } ρ σ := y.st.off (W := fun b => b ∈ wr) tk hk' y.ib y.ii (fun b q => y.is b (hI.sub b q)) (fun q => hl (hI.sub _ q)) (fun p hp q => hk p hp (hI.sub _ q)) ht
  have fr : ∀ p ∈ σr, p.1 ∉ σ.map (·.1) := fun p hp => y.is _ (hsr _ (mem_map_fst hp))
  refine ⟨⟨z.l.os, z.l.gens, z.l.cb, z.l.hbs, z.l.him, fun p hp => ?_, ?_, z.l.gok, z.l.tk⟩, ⟨z.f.vars, z.f.rn, z.f.lbs, z.f.lim, ?_, fun p hp => ?_, z.f.apart, z.f.outer, z.f.kind, z.f.gl, z.f.bi, z.f.kn, z.f.own, z.f.ck⟩⟩
  · rcases List.mem_append.mp hp with hp | hp
    · obtain ⟨a, b, _⟩ := hback p hp
      obtain ⟨hpf, hpfp, hpI⟩ := hI.back p hp
      exact ⟨(a.at fun o e => hk' _ o hpI (y.old _ hpfp hpI o e)).mono y.ext.1, b, y.ifr _ (mem_map_fst hp)⟩
    · exact z.l.led p hp
  · rw [List.map_append]
    refine List.nodup_append.mpr ⟨hnr, z.l.nd, fun a ha b hb e => ?_⟩
    obtain ⟨p, hp, rfl⟩ := List.mem_map.mp ha
    exact fr p hp (e ▸ hb)
  · rw [List.map_append]; intro hm
    rcases List.mem_append.mp hm with hm | hm
    · obtain ⟨p, hp, e⟩ := List.mem_map.mp hm
      exact (hback p hp).2.2.1 e.symm
    · exact z.f.lled hm
  · obtain ⟨a, b, c, d, e⟩ := z.f.cells p hp
    refine ⟨a, b, c, ?_, e⟩
    rw [List.map_append]; intro hm
    rcases List.mem_append.mp hm with hm | hm
    · obtain ⟨q, hq, e⟩ := List.mem_map.mp hm
      exact (hback q hq).2.2.2 p hp e.symm
    · exact d hm
theorem it_facts {A : Around} {bs im : PM} {s : Shared} {ρ : Rho} {σf σr σ : Led} {items : List PV} {I : Addr} {h' : Heap} {fp wr : List Addr} {P : Nat → Heap → Value → Heap → Prop} {S : Nat → Heap → Prop} (hS : St G bs im s ρ (σf ++ σ))
    (hk : ∀ b o, s.heap.get? b = some o → h'.get? b = some o) (hfr : ∀ b ∈ wr, Apart G bs im (σf ++ σ) b ∨ b ∈ σf.map (·.1)) (hIt : IsIt G A im h' tg σf σr items I fp wr P S) :
    (∀ b ∈ wr, bs.f b = none ∧ im.f b = none) ∧ (∀ b ∈ fp, b ∉ σ.map (·.1) ∧ b ≠ G.env.locals ∧ (∀ q ∈ G.κ, q.2 ≠ b) ∧ ∃ o, h'.get? b = some o) ∧
    (∀ b ∈ σf.map (·.1), bs.f b = none ∧ im.f b = none ∧ b ∉ σ.map (·.1) ∧ b ≠ G.env.locals ∧ ∀ q ∈ G.κ, q.2 ≠ b) := by
  have hnd := hS.l.nd
  have hm : ∀ b, b ∈ σf.map (·.1) → bs.f b = none ∧ im.f b = none ∧ b ∉ σ.map (·.1) ∧ b ≠ G.env.locals ∧ ∀ q ∈ G.κ, q.2 ≠ b := fun b hb => by
    have hb' : b ∈ (σf ++ σ).map (·.1) := by rw [List.map_append]; exact List.mem_append_left _ hb
    have := hS.l.ledNe hb'
    refine ⟨this.1, this.2, fun hb2 => ?_, fun q => hS.f.lled (q ▸ hb'), fun q hq e => (hS.f.cells q hq).2.2.2.1 (e ▸ hb')⟩
    rw [List.map_append] at hnd
    exact (List.nodup_append.mp hnd).2.2 b hb b hb2 rfl
  have hI4 : ∀ I ∈ wr, bs.f I = none ∧ im.f I = none ∧ I ∉ σ.map (·.1) ∧ I ≠ G.env.locals ∧ ∀ q ∈ G.κ, q.2 ≠ I := fun I hI => by
    rcases hfr I hI with hn | hm'
    · exact ⟨hn.bs, hn.im, fun q => hn.led (by rw [List.map_append]; exact List.mem_append_right _ q), hn.loc, hn.cel⟩
    · exact hm I hm'
  refine ⟨fun b hb => ⟨(hI4 b hb).1, (hI4 b hb).2.1⟩, fun b hb => ?_, hm⟩
  by_cases q : b ∈ wr
  · exact ⟨(hI4 b q).2.2.1, (hI4 b q).2.2.2.1, (hI4 b q).2.2.2.2, hIt.has _ _ hIt.st b q⟩
  · rcases hIt.fps b hb q with ⟨o, ho⟩ | ⟨hbf, _⟩
    · refine ⟨fun z => ?_, fun z => ?_, fun p hp z => ?_, o, hk b o (hS.l.him b o ho)⟩
      · have := (hS.l.ledNe (a := b) (by rw [List.map_append]; exact List.mem_append_right _ z)).2
        rw [ho] at this; cases this
      · have := hS.f.lim; rw [← z, ho] at this; cases this
      · have := (hS.f.cells p hp).2.2.1; rw [z, ho] at this; cases this
    · obtain ⟨p, hp, rfl⟩ := List.mem_map.mp hbf
      obtain ⟨y, hy⟩ := (hS.l.led p (List.mem_append_left _ hp)).1.some
      exact ⟨(hm _ hbf).2.2.1, (hm _ hbf).2.2.2.1, (hm _ hbf).2.2.2.2, y, hk _ y hy⟩

theorem For.loop {body : List Stmt} {pos : Pos} {Q : Fl → Rho → Led → Prop} (hA : AOk G.n A) (hI : IsIt G A im₀ h₀ tg σf σr items I fp wr P S)
    (hl : G.env.locals ∉ fp) (hk : ∀ p ∈ G.κ, p.2 ∉ fp) (hsr : ∀ b ∈ σr.map (·.1), b ∈ fp) (hso : ∀ b ∈ fp, ∃ o, h₀.get? b = some o)
    (hback : ∀ p ∈ σr, LR im₀ h₀ p.1 p.2 ∧ bs.f p.1 = none ∧ G.env.locals ≠ p.1 ∧ ∀ q ∈ G.κ, q.2 ≠ p.1) (hnr : (σr.map (·.1)).Nodup)
    (x : Loop G A im₀ bs im h₀ s σf σr items I fp wr S 0 ρ σ) (h : ForT G tg body items ρ σ (fun fl ρ' σ' => Q fl ρ' (σr ++ σ'))) :
    codeAny G.C.M A (.forLoop tg (.ref I) body [] G.env) (fun r s' => match r with | .ok f => Post G FlR bs im₀ Q f s' | .error e => cameBackBy G.C.M A G.env Bot e s') s := by
  have leave : ∀ {f : Flow} {fl : Fl} {i : Nat} {im' : PM} {s' : Shared} {ρ' : Rho} {σ' : Led}, Loop G A im₀ bs im' h₀ s' σf σr items I fp wr S i ρ' σ' → FlR im' fl f → Q fl ρ' (σr ++ σ') → Post G FlR bs im₀ Q f s' := fun {f fl i im' s' ρ' σ'} y hf hq =>
    ⟨im', fl, ρ', σr ++ σ', y.ext, hf, y.fin hI hl hk hsr hback hnr s'.toks fun _ _ _ e => e, hq⟩
  refine codeAny_forLoop_any (fun k s' => ∃ i im' ρ' σ', Loop G A im₀ bs im' h₀ s' σf σr items I fp wr S i ρ' σ' ∧ i ≤ items.length ∧ k = items.length + 1 - i ∧ ForT G tg body (items.drop i) ρ' σ' (fun fl ρ' σ' => Q fl ρ' (σr ++ σ')))
    ?_ (items.length + 1) ⟨0, im, ρ, σ, x, Nat.zero_le _, rfl, by simpa using h⟩
  rintro k s' ⟨i, im', ρ', σ', y, hi, rfl, hT⟩
  by_cases hlt : i < items.length
  · have hx : items[i]? = some items[i] := by simp [hlt]
    have ed : items.drop i = items[i] :: items.drop (i + 1) := by simp
    rw [ed] at hT
    refine wpAny_up (hI.next i _ _ _ hlt y.si fun v h₁ tk₁ hgo htk => ?_)
    dsimp only
    dsimp only at htk
    refine wpAny_bot (hgo _ fun h₂ hP hS₂ hk₂ => ?_) fun _ _ q => q
    obtain ⟨im₂, e₂, y₂, hv⟩ := y.step hI hl hk hsr hso tk₁ hP hS₂ hk₂ hx
    have hs2 : ∀ {j im' s' ρ' σ'}, Loop G A im₀ bs im' h₀ s' σf σr items I fp wr S j ρ' σ' → ∀ b ∈ fp, ∃ o, s'.heap.get? b = some o := fun {j im' s' ρ' σ'} y b hb => by
      by_cases q : b ∈ wr
      · exact hI.has _ _ y.si b q
      · obtain ⟨o, ho⟩ := hso b hb; exact ⟨o, y.old b hb q o ho⟩
    refine wpAny_mono (y₂.body hI.sub hI.frame hl hk hsr (hs2 y₂) fun bs' hS => hT A bs' im₂ _ v hA hS hv) (fun _ s₃ p => ?_) fun _ _ e => notedBot e
    obtain ⟨im₃, _, ρ₃, σ₃, y₃, e₃, _, hB⟩ := p
    refine wpAny_mono (y₃.body hI.sub hI.frame hl hk hsr (hs2 y₃) fun bs' hS => hB A bs' im₃ _ hA hS) (fun f s₄ p => ?_) fun _ _ e => notedBot e
    obtain ⟨im₄, fl, ρ₄, σ₄, y₄, e₄, hf, hC⟩ := p
    cases fl with
    | next => cases hf; exact ⟨items.length + 1 - (i + 1), by walk_at "zo", i + 1, im₄, ρ₄, σ₄, y₄, hlt, rfl, hC⟩
    | cont => cases hf; exact ⟨items.length + 1 - (i + 1), by walk_at "zo", i + 1, im₄, ρ₄, σ₄, y₄, hlt, rfl, hC⟩
    | brk => cases hf; exact leave (fl := .next) y₄ rfl hC
    | ret v => obtain ⟨w, rfl, hw⟩ := hf; exact leave (fl := .ret v) y₄ ⟨w, rfl, hw⟩ hC
  · have hin : i = items.length := by walk_at "zo"
    subst hin
    refine wpAny_up (hI.done _ _ _ y.si fun h₁ tk₁ hk₁ htk => wpAny_execs_nil ?_)
    dsimp only at htk
    rw [List.drop_length] at hT
    exact ⟨im', .next, ρ', σr ++ σ', y.ext, rfl, y.fin hI hl hk hsr hback hnr tk₁ hk₁, hT⟩

noncomputable abbrev KFor (σr : Led) (Q : Fl → Rho → Led → Prop) : Fl → Rho → Led → Prop := fun fl ρ' σ' => Q fl ρ' (σr ++ σ')
noncomputable abbrev KForS (G : Gx) (tg : Expr) (body : List Stmt) (Q : Fl → Rho → Led → Prop) : List PV → Led → Rho → Led → Prop := fun items σr ρ₁ σ₂ => ForT G tg body items ρ₁ σ₂ (KFor σr Q)
noncomputable abbrev KFor1 (G : Gx) (tg : Expr) (body : List Stmt) (Q : Fl → Rho → Led → Prop) : PV → Rho → Led → Prop := fun p ρ₁ σ₁ => ∃ σf σr σ₂ items, ItSrc G tg p σf σr items ∧ (∀ q ∈ σf ++ σ₂, q ∈ σ₁) ∧ (((σf ++ σ₂).map (·.1)).Nodup ∨ σf ++ σ₂ = σ₁) ∧ (σr.map (·.1)).Nodup ∧ ForT G tg body items ρ₁ σ₂ (KFor σr Q)
theorem Ex1.forS {iter : Expr} {body : List Stmt} {pos : Pos} {ρ : Rho} {σ : Led} {Q : Fl → Rho → Led → Prop}
    (h : ForSrc G tg iter ρ σ (KForS G tg body Q))
    (hs : ∀ x, foldedSetIterable iter G.env x = pure x := by intro _; rfl) : Ex1 G (.For tg iter body [] pos) ρ σ Q := fun A bs im s hA hS => by
  refine wpAny_For (wpAny_mono (h A bs im s hA hS) (fun v s₁ p => ?_) fun _ _ e => e) hs
  obtain ⟨im₁, ρ₁, σf, σr, σ₂, items, e, hS₁', hnr, hT, hI⟩ := p
  refine wpAny_up (hI _ fun I h' tk fp wr P S hk hfr hIt htk => ?_)
  obtain ⟨hI2, hfp, hm⟩ := it_facts hS₁' hk hfr hIt
  have hnd := hS₁'.l.nd
  have hsrf : ∀ p ∈ σr, p.1 ∈ σf.map (·.1) := fun p hp => mem_map_fst (hIt.back p hp).1
  have hS₂ : St G bs im₁ { s₁ with heap := h', toks := tk } ρ₁ σ₂ := (hS₁'.grow hk tk).sub (fun q hq => List.mem_append_right _ hq) (by rw [List.map_append] at hnd; exact (List.nodup_append.mp hnd).2.1)
  refine codeAny_mono (For.loop (pos := pos) (Q := Q) hA hIt (fun z => (hfp _ z).2.1 rfl) (fun p hp z => (hfp _ z).2.2.1 p hp rfl) (fun b hb => ?_) (fun b hb => (hfp b hb).2.2.2) (fun p hp => ?_) hnr
    ⟨hS₂, .refl, hIt.st, fun _ _ _ o q => q, fun b hb => (hI2 b hb).1, fun b hb => (hI2 b hb).2, fun b hb => (hfp b hb).1, fun b hb => ?_⟩ hT) (fun r s' p => ?_)
  · obtain ⟨p, hp, rfl⟩ := List.mem_map.mp hb; exact (hIt.back p hp).2.1
  · have := hS₁'.l.led p (List.mem_append_left _ (hIt.back p hp).1)
    exact ⟨this.1.at fun o e => hk _ o e, this.2.1, (hm _ (hsrf p hp)).2.2.2.1.symm, fun q hq => (hm _ (hsrf p hp)).2.2.2.2 q hq⟩
  · obtain ⟨p, hp, rfl⟩ := List.mem_map.mp hb; exact (hm _ (hsrf p hp)).2.1
  · cases r with
    | ok f => exact p.ext e
    | error _ => exact p
theorem Ex1.for {iter : Expr} {body : List Stmt} {pos : Pos} {ρ : Rho} {σ : Led} {Q : Fl → Rho → Led → Prop}
    (h : Ev G iter ρ σ (KFor1 G tg body Q))
    (hs : ∀ x, foldedSetIterable iter G.env x = pure x := by intro _; rfl) : Ex1 G (.For tg iter body [] pos) ρ σ Q := .forS (.of h) hs
end
end Mine.Tactic
end
section
open PySem PySem.W PyProof.Rows PySem.Calls
set_option Elab.async false
set_option maxRecDepth 100000
namespace Mine.Tactic

theorem go_plain {M : Model} {A : Around} {target : Expr} {I : Addr} {v : Value} {s : Shared} {Q : Unit → Shared → Prop} {E : Value → Shared → Prop} {o : Obj} {T : String} (ho : s.heap.get? I = some o) (hc : o.cls = .type T)
    (hT : ["enumerate", "zip", "dict_itemiterator", "dict_reverseitemiterator", "odict_iterator", "itertools.zip_longest", "itertools.pairwise"].contains T = false) (h : Q () s) :
    wpAny M A (letOwnedTupleGo target (.ref I) v) Q E s := by
  have go : wpAny M A (do
      let (.ref r, .ref a) := (Value.ref I, v) | return
      let o ← load r
      match o.cls, o.data with
      | .type n, .fields vs =>
        if ["enumerate", "zip", "dict_itemiterator", "dict_reverseitemiterator", "odict_iterator", "itertools.zip_longest", "itertools.pairwise"].contains n && vs[0]? == some (rawInt a) then
          rule "for.unpacks-the-owned-tuple"
          updateField r 0 .none
      | _, _ => pure () : Sem Unit) Q E s := by
    cases v with
    | ref a =>
      dsimp only
      refine wpAny_bind (wpAny_load ho ?_)
      rw [hc]
      split
      · rename_i n vs e1 e2
        cases e1
        rw [hT]
        simp only [Bool.false_and, Bool.false_eq_true, if_false]
        exact wpAny_pure h
      · exact wpAny_pure h
    | _ => exact wpAny_pure h
  unfold letOwnedTupleGo
  cases target <;> first | exact go | exact wpAny_pure h

theorem ItSrc.lst {G : Gx} {tg : Expr} {l : List PV} : ItSrc G tg (.lst l) [] [] l := by
  intro A bs im s ρ σ v Q hA hS hv hQ
  obtain ⟨a, vs, n, rfl, ho, hvs⟩ := hv.lst_i
  have ho' := hS.l.him _ _ ho
  have hl : s.heap.IsList a vs.toArray := ⟨_, ho', rfl, n, rfl⟩
  have hne : a ≠ s.heap.objs.size := Nat.ne_of_lt (Heap.lt_size ho')
  refine wpAny_pyIter_list hl ?_
  have W := Walks.list (prog := G.C.prog) (w := G.C.w) hA.1 s.heap.objs.size a hne vs.toArray
  have hlen : vs.toArray.size = l.length := by simp [hvs.length]
  rw [hlen] at W
  refine hQ s.heap.objs.size (s.heap.push _) s.toks [s.heap.objs.size, a] _ _ _ (fun b o e => Heap.get?_push_of_some _ e) (fun b hb => .inl (by rw [List.mem_singleton.mp hb]; exact get?_size_none _)) (PlainIt.it
    ⟨W, ⟨⟨_, Heap.get?_push_size _ rfl, rfl, rfl⟩, hl.push _⟩, .head _, fun b hb q => ?_, (fun _ h => (nomatch h)), fun i h st => ?_, fun im' i v hm hP p hp => ?_, fun target i v s Q st hq => ?_⟩)
  · rcases List.mem_cons.mp hb with e | hb
    · exact absurd e q
    · rw [List.mem_singleton.mp hb]; exact .inl ⟨_, ho⟩
  · obtain ⟨⟨o, ho, _⟩, _⟩ := st; exact ⟨o, ho⟩
  · obtain ⟨w, hw, hr⟩ := hvs.get hp
    have hP' : vs[i]? = some v := by simpa using hP
    rw [hw] at hP'; cases hP'; exact hr.mono hm
  · obtain ⟨⟨o, ho, hc, _⟩, _⟩ := id st
    exact go_plain ho hc (by decide) (hq _ st (.refl ..))

theorem ItSrc.led {G : Gx} {tg : Expr} {a : Addr} {l : List PV} : ItSrc G tg (.ref a) [(a, .list l)] [(a, .list l)] l := by
  intro A bs im s ρ σ v Q hA hS hv hQ
  rw [hv.ref_i]
  obtain ⟨⟨vs, n, ho', hvs⟩, _⟩ := hS.l.led (a, .list l) (.head _)
  have hl : s.heap.IsList a vs.toArray := ⟨_, ho', rfl, n, rfl⟩
  have hne : a ≠ s.heap.objs.size := Nat.ne_of_lt (Heap.lt_size ho')
  refine wpAny_pyIter_list hl ?_
  have W := Walks.list (prog := G.C.prog) (w := G.C.w) hA.1 s.heap.objs.size a hne vs.toArray
  have hlen : vs.toArray.size = l.length := by simp [hvs.length]
  rw [hlen] at W
  refine hQ s.heap.objs.size (s.heap.push _) s.toks [s.heap.objs.size, a] _ _ _ (fun b o e => Heap.get?_push_of_some _ e) (fun b hb => .inl (by rw [List.mem_singleton.mp hb]; exact get?_size_none _)) (PlainIt.it
    ⟨W, ⟨⟨_, Heap.get?_push_size _ rfl, rfl, rfl⟩, hl.push _⟩, .head _, fun b hb q => ?_, fun p hp => ?_, fun i h st => ?_, fun im' i v hm hP p hp => ?_, fun target i v s Q st hq => ?_⟩)
  · rcases List.mem_cons.mp hb with e | hb
    · exact absurd e q
    · rw [List.mem_singleton.mp hb]; exact .inr ⟨.head _, .head _⟩
  · rw [List.mem_singleton.mp hp]; exact ⟨.head _, .tail _ (.head _), hne⟩
  · obtain ⟨⟨o, ho, _⟩, _⟩ := st; exact ⟨o, ho⟩
  · obtain ⟨w, hw, hr⟩ := hvs.get hp
    have hP' : vs[i]? = some v := by simpa using hP
    rw [hw] at hP'; cases hP'; exact hr.mono hm
  · obtain ⟨⟨o, ho, hc, _⟩, _⟩ := id st
    exact go_plain ho hc (by decide) (hq _ st (.refl ..))

noncomputable def signs (l : List Nat) : List PV := l.map fun c => .str [c]
theorem ItSrc.str {G : Gx} {tg : Expr} {l : List Nat} : ItSrc G tg (.str l) [] [] (signs l) := by
  intro A bs im s ρ σ v Q hA hS hv hQ
  obtain ⟨t, rfl⟩ := hv.str_i
  have hlen : (⟨l.toArray⟩ : Str).cps.size = (signs l).length := by simp [signs]
  have item : ∀ (im' : PM) (i : Nat) (v : Value), PMle im im' → SignAt ⟨l.toArray⟩ i v → ∀ p, (signs l)[i]? = some p → VR im' p v := fun im' i v hm hP p hp => by
    obtain ⟨c, u, hc, rfl⟩ := hP
    have hc' : l[i]? = some c := by simpa using hc
    have : p = .str [c] := by
      unfold signs at hp; rw [List.getElem?_map, hc'] at hp; simpa using hp.symm
    subst this; exact VR.str
  cases ha : (⟨l.toArray⟩ : Str).cps.all (· < 128)
  · refine wpAny_pyIter_wide ha ?_
    have W := Walks.strWide (prog := G.C.prog) (w := G.C.w) hA.1 s.heap.objs.size ⟨l.toArray⟩ t
    rw [hlen] at W
    refine hQ s.heap.objs.size (s.heap.push _) s.toks [s.heap.objs.size] _ _ _ (fun b o e => Heap.get?_push_of_some _ e) (fun b hb => .inl (by rw [List.mem_singleton.mp hb]; exact get?_size_none _)) (PlainIt.it
      ⟨W, ⟨_, Heap.get?_push_size _ rfl, rfl, rfl⟩, .head _, fun b hb q => absurd (List.mem_singleton.mp hb) q, (fun _ h => (nomatch h)), fun i h st => ?_, item, fun target i v s Q st hq => ?_⟩)
    · obtain ⟨o, ho, _⟩ := st; exact ⟨o, ho⟩
    · obtain ⟨o, ho, hc, _⟩ := id st
      exact go_plain ho hc (by decide) (hq _ st (.refl ..))
  · refine wpAny_pyIter_ascii ha ?_
    have W := Walks.strAscii (prog := G.C.prog) (w := G.C.w) hA.1 s.heap.objs.size ⟨l.toArray⟩ t
    rw [hlen] at W
    refine hQ s.heap.objs.size (s.heap.push _) s.toks [s.heap.objs.size] _ _ _ (fun b o e => Heap.get?_push_of_some _ e) (fun b hb => .inl (by rw [List.mem_singleton.mp hb]; exact get?_size_none _)) (PlainIt.it
      ⟨W, ⟨_, Heap.get?_push_size _ rfl, rfl, rfl⟩, .head _, fun b hb q => absurd (List.mem_singleton.mp hb) q, (fun _ h => (nomatch h)), fun i h st => ?_, item, fun target i v s Q st hq => ?_⟩)
    · obtain ⟨o, ho, _⟩ := st; exact ⟨o, ho⟩
    · obtain ⟨o, ho, hc, _⟩ := id st
      exact go_plain ho hc (by decide) (hq _ st (.refl ..))

noncomputable def rints (a c : Int) (n : Nat) : List PV := (List.range n).map fun (k : Nat) => PV.int (a + (k : Int) * c)
theorem rints_item {im' : PM} {a c : Int} {n i : Nat} {v : Value} (hP : ∃ t, v = .int (a + i * c) t) {p : PV} (hp : (rints a c n)[i]? = some p) : VR im' p v := by
  obtain ⟨t, rfl⟩ := hP
  unfold rints at hp
  rw [List.getElem?_map] at hp
  by_cases h : i < n
  · rw [List.getElem?_range h] at hp
    have : p = .int (a + (i : Int) * c) := by simpa using hp.symm
    subst this; exact .int
  · rw [List.getElem?_eq_none (by simpa using h)] at hp; simp at hp
theorem ItSrc.rng {G : Gx} {tg : Expr} {a b c : Int} {n : Nat} (hs : Builtin.Range.small a b c = true) (hn : Builtin.Range.rangeSize a b c = (n : Int)) : ItSrc G tg (.rng a b c) [] [] (rints a c n) := by
  intro A bs im s ρ σ v Q hA hS hv hQ
  obtain ⟨r, t, u, w, rfl, ho⟩ := hv.rng_i
  have ho' := hS.l.him _ _ ho
  refine wpAny_pyIter_range ho' hs ?_
  have W := Walks.range (prog := G.C.prog) (w := G.C.w) hA.1 s.heap.objs.size a c n
  have hlen : n = (rints a c n).length := by simp [rints]
  refine hQ s.heap.objs.size (s.heap.push _) s.toks [s.heap.objs.size] _ _ _ (fun b o e => Heap.get?_push_of_some _ e) (fun b hb => .inl (by rw [List.mem_singleton.mp hb]; exact get?_size_none _)) (PlainIt.it (P := fun i v => ∃ t, v = .int (a + i * c) t) (S := fun i h => IsRangeIter h s.heap.objs.size (a + (i : Nat) * c) ((n : Int) - (i : Nat)) c)
    ⟨by rw [← hlen]; exact W, ?_, .head _, fun b hb q => absurd (List.mem_singleton.mp hb) q, (fun _ h => (nomatch h)), fun i h st => ⟨_, st⟩, fun im' i v hm hP p hp => rints_item hP hp, fun target i v s Q st hq => ?_⟩)
  · show IsRangeIter _ _ _ _ _
    rw [hn]; simpa using Heap.get?_push_size _ rfl
  · exact go_plain (T := "range_iterator") st rfl (by decide) (hq _ st (.refl ..))
theorem ItSrc.rit {G : Gx} {tg : Expr} {I : Addr} {a c : Int} {n : Nat} : ItSrc G tg (.ref I) [(I, .rit a n c)] [] (rints a c n) := by
  intro A bs im s ρ σ v Q hA hS hv hQ
  rw [hv.ref_i]
  obtain ⟨ho', _⟩ := hS.l.led (I, .rit a n c) (.head _)
  refine wpAny_pyIter_rangeiter ho' ?_
  have W := Walks.range (prog := G.C.prog) (w := G.C.w) hA.1 I a c n
  have hlen : n = (rints a c n).length := by simp [rints]
  refine hQ I s.heap s.toks [I] _ _ _ (fun b o e => e) (fun b hb => .inr (by rw [List.mem_singleton.mp hb]; exact .head _)) (PlainIt.it (P := fun i v => ∃ t, v = .int (a + i * c) t) (S := fun i h => IsRangeIter h I (a + (i : Nat) * c) ((n : Int) - (i : Nat)) c)
    ⟨by rw [← hlen]; exact W, ?_, .head _, fun b hb q => absurd (List.mem_singleton.mp hb) q, (fun _ h => (nomatch h)), fun i h st => ⟨_, st⟩, fun im' i v hm hP p hp => rints_item hP hp, fun target i v s Q st hq => ?_⟩)
  · show IsRangeIter _ _ _ _ _
    have hh : IsRangeIter s.heap I a (n : Int) c := ho'
    simpa using hh
  · exact go_plain (T := "range_iterator") st rfl (by decide) (hq _ st (.refl ..))
end Mine.Tactic
end
section
open PySem PySem.W PyProof.Rows PySem.Calls
set_option Elab.async false
set_option maxRecDepth 100000
namespace Mine.Tactic

theorem St.frame {G : Gx} {bs im : PM} {s : Shared} {ρ : Rho} {σ φ : Led} {α R : Type} {rel : PM → R → α → Prop} {t : Sem α} {Q : R → Rho → Led → Prop} {A : Around} (hS : St G bs im s ρ (φ ++ σ))
    (h : ∀ bs', St G bs' im s ρ σ → wpAny G.C.M A t (Post G rel bs' im Q) Bot s) :
    wpAny G.C.M A t (fun a s' => ∃ im' r ρ' σ', Ext bs im im' ∧ rel im' r a ∧ St G bs im' s' ρ' (φ ++ σ') ∧ Q r ρ' σ') Bot s := by
  have hnd := hS.l.nd
  rw [List.map_append] at hnd
  obtain ⟨hn1, hn2, hn3⟩ := List.nodup_append.mp hnd
  have hS₂ : St G bs im s ρ σ := hS.sub (fun p hp => List.mem_append_right _ hp) hn2
  have inφ : ∀ b, b ∈ φ.map (·.1) → b ∈ (φ ++ σ).map (·.1) := fun b hb => by rw [List.map_append]; exact List.mem_append_left _ hb
  have y := hS₂.over (fun b => b ∈ φ.map (·.1)) (fun b hb hq => hn3 b hb b hq rfl) (fun q => hS.f.lled (inφ _ q)) (fun p hp q => (hS.f.cells p hp).2.2.2.1 (inφ _ q))
  have sub := PM.over_sub (F := fun b => b ∈ φ.map (·.1)) hS.l.hbs
  refine wpAny_mono (h _ y) (fun a s' p => ?_) fun _ _ e => e
  obtain ⟨im', r, ρ', σ', e, hr, hS', hQ⟩ := p
  have e' := e.under sub
  have z := hS'.under sub hS.l.cb hS.f.outer
  have some_of : ∀ p ∈ φ, ∃ o, s.heap.get? p.1 = some o := fun p hp => (hS.l.led p (List.mem_append_left _ hp)).1.some
  have over_some : ∀ p ∈ φ, ∀ o, s.heap.get? p.1 = some o → (bs.over (fun b => b ∈ φ.map (·.1)) s.heap).f p.1 = some o := fun p hp o ho => by rw [PM.over_at, if_pos (mem_map_fst hp)]; exact ho
  have keep : ∀ p ∈ φ, ∀ o, s.heap.get? p.1 = some o → s'.heap.get? p.1 = some o := fun p hp o ho => hS'.l.hbs _ o (over_some p hp o ho)
  have nim : ∀ p ∈ φ, im'.f p.1 = none := fun p hp => by
    cases q : im'.f p.1 with
    | none => rfl
    | some o =>
      obtain ⟨w, hw⟩ := some_of p hp
      rcases e.2 p.1 (by rw [q]; simp) with a | a
      · exact absurd (hS.l.led p (List.mem_append_left _ hp)).2.2 a
      · rw [over_some p hp w hw] at a; cases a
  refine ⟨im', r, ρ', σ', e', hr, ⟨⟨z.l.os, z.l.gens, z.l.cb, z.l.hbs, z.l.him, fun p hp => ?_, ?_, z.l.gok, z.l.tk⟩, ⟨z.f.vars, z.f.rn, z.f.lbs, z.f.lim, ?_, fun p hp => ?_, z.f.apart, z.f.outer, z.f.kind, z.f.gl, z.f.bi, z.f.kn, z.f.own, z.f.ck⟩⟩, hQ⟩
  · rcases List.mem_append.mp hp with hp | hp
    · obtain ⟨a, b, _⟩ := hS.l.led p (List.mem_append_left _ hp)
      exact ⟨(a.at (keep p hp)).mono e'.1, b, nim p hp⟩
    · exact z.l.led p hp
  · rw [List.map_append]
    refine List.nodup_append.mpr ⟨hn1, z.l.nd, fun a ha b hb q => ?_⟩
    obtain ⟨p, hp, rfl⟩ := List.mem_map.mp ha
    obtain ⟨p', hp', rfl⟩ := List.mem_map.mp hb
    have h1 := (hS'.l.led p' hp').2.1
    obtain ⟨w, hw⟩ := some_of p hp
    rw [← q, over_some p hp w hw] at h1; cases h1
  · rw [List.map_append]; intro hm
    rcases List.mem_append.mp hm with hm | hm
    · exact hS.f.lled (inφ _ hm)
    · exact z.f.lled hm
  · obtain ⟨a, b, c, d, f⟩ := z.f.cells p hp
    refine ⟨a, b, c, ?_, f⟩
    rw [List.map_append]; intro hm
    rcases List.mem_append.mp hm with hm | hm
    · exact (hS.f.cells p hp).2.2.2.1 (inφ _ hm)
    · exact d hm

theorem St.freezeObj {G : Gx} {bs im : PM} {s : Shared} {ρ : Rho} {σ : Led} {D : Addr} {lo : LO} {o : Obj} (hS : St G bs im s ρ ((D, lo) :: σ)) (ho : s.heap.get? D = some o) :
    Ext bs im (im.put D o) ∧ St G bs (im.put D o) s ρ σ := by
  obtain ⟨_, hb, hi⟩ := hS.l.led (D, lo) (.head _)
  have hput := PM.put_keep hi o
  have hnd := hS.l.nd
  rw [List.map_cons, List.nodup_cons] at hnd
  have ext : Ext bs im (im.put D o) := ⟨hput, fun a e => by
    by_cases q : a = D
    · subst q; exact .inr hb
    · rw [PM.put_ne q] at e; exact .inl e⟩
  refine ⟨ext, ⟨⟨hS.l.os, hS.l.gens, hS.l.cb, hS.l.hbs, fun a p e => ?_, fun p hp => ?_, hnd.2, hS.l.gok, hS.l.tk⟩, ⟨?_, hS.f.rn, hS.f.lbs, ?_, fun q => hS.f.lled (.tail _ q), fun p hp => ?_, hS.f.apart, hS.f.outer, hS.f.kind, hS.f.gl, hS.f.bi, hS.f.kn, hS.f.own, hS.f.ck⟩⟩⟩
  · rw [PM.put_at] at e; split at e
    · rename_i q; cases e; rw [q]; exact ho
    · exact hS.l.him a p e
  · obtain ⟨a, b, c⟩ := hS.l.led p (.tail _ hp)
    exact ⟨a.mono hput, b, by rw [PM.put_ne (fun q => hnd.1 (List.mem_map.mpr ⟨p, hp, q⟩))]; exact c⟩
  · obtain ⟨m, a, b⟩ := hS.f.vars
    exact ⟨m, a, fun p hp => let ⟨v, c, d⟩ := b p hp; ⟨v, c.mono hput, d⟩⟩
  · rw [PM.put_ne (fun q => hS.f.lled (by rw [q]; exact .head _))]; exact hS.f.lim
  · obtain ⟨a, b, c, d, f⟩ := hS.f.cells p hp
    exact ⟨a, b, by rw [PM.put_ne (fun q => d (by rw [q]; exact .head _))]; exact c, fun q => d (.tail _ q), f⟩
theorem St.freeze {G : Gx} {bs im : PM} {s : Shared} {ρ : Rho} {σ : Led} {D : Addr} {l : List PV} (hS : St G bs im s ρ ((D, .list l) :: σ)) :
    ∃ im', Ext bs im im' ∧ VR im' (.lst l) (.ref D) ∧ St G bs im' s ρ σ := by
  obtain ⟨⟨vs, n, ho, hvs⟩, _, _⟩ := hS.l.led (D, .list l) (.head _)
  obtain ⟨e, x⟩ := hS.freezeObj ho
  exact ⟨_, e, .lst (PM.put_self ..) (hvs.mono e.1), x⟩

noncomputable def TsIfs (G : Gx) : List Expr → Rho → Led → (Bool → Rho → Led → Prop) → Prop
  | [], ρ, σ, Q => Q true ρ σ
  | c :: cs, ρ, σ, Q => Ts G c ρ σ (fun b ρ' σ' => if b then TsIfs G cs ρ' σ' Q else Q false ρ' σ')

noncomputable def compItems (G : Gx) (g : Comprehension) (inner : List PV → Rho → Led → (List PV → Rho → Led → Prop) → Prop) : List PV → List PV → Rho → Led → (List PV → Rho → Led → Prop) → Prop
  | [], acc, ρ, σ, K => K acc ρ σ
  | x :: xs, acc, ρ, σ, K => As G g.target x ρ σ (fun ρ₁ σ₁ => TsIfs G g.ifs ρ₁ σ₁ (fun ok ρ₂ σ₂ => if ok then inner acc ρ₂ σ₂ (fun acc' ρ₃ σ₃ => compItems G g inner xs acc' ρ₃ σ₃ K) else compItems G g inner xs acc ρ₂ σ₂ K))
noncomputable def compInner (G : Gx) (elt : Expr) : List Comprehension → List PV → Rho → Led → (List PV → Rho → Led → Prop) → Prop
  | [], acc, ρ, σ, K => Ev G elt ρ σ (fun p ρ' σ' => acc.length < 16000000 ∧ K (acc ++ [p]) ρ' σ')
  | g :: rest, acc, ρ, σ, K => Ev G g.iter ρ σ (fun p ρ' σ' => ∃ items, ItSrc G g.target p [] [] items ∧ compItems G g (compInner G elt rest) items acc ρ' σ' K)

theorem compTurn_at {elt : Expr} {gens : List Comprehension} {scope : Scope} {pos : Pos} {d : Nat} {g : Comprehension} {it acc : Value} {env : Env} (hg : gens[d]? = some g) (ha : g.is_async = 0) :
    compTurn (.ListComp elt gens scope pos) d it acc env = (do
      standAt g.iter.pos
      match ← pyNext it with
      | none => pure (.done .next)
      | some v =>
        letOwnedTupleGo g.target it v
        assign g.target env v
        let mut ok := true
        for c in g.ifs do
          if ok then ok ← isTrue c env (eval c env)
        if ok then
          match gens[d + 1]? with
          | some g' =>
            let x ← eval g'.iter env
            standAt g'.iter.pos
            let x ← if g'.is_async != 0 then foldedIterable g'.iter x else foldedSetIterable g'.iter env x
            let _ ← runOwn (.compStart (.ListComp elt gens scope pos) (d + 1) (← holding [x] (if g'.is_async != 0 then asyncIter x else pyIter x)) acc env) env
          | none => (do let _ ← call (.builtin "list.append") [acc, ← eval elt env])
        again (.compLoop (.ListComp elt gens scope pos) d it acc env)) := by
  unfold compTurn
  simp only [hg, ha]
  rw [if_neg (by decide), if_neg (by decide)]
  rfl

theorem ifs_false {env : Env} {M : Model} {A : Around} {E : Value → Shared → Prop} : ∀ {cs : List Expr} {s : Shared} {Q : Bool → Shared → Prop}, Q false s →
    wpAny M A (forIn cs false fun c r => if r = true then do let ok ← isTrue c env (eval c env); pure (ForInStep.yield ok) else pure (ForInStep.yield r)) Q E s
  | [], _, _, h => wpAny_pure h
  | c :: cs, _, _, h => by
    rw [List.forIn_cons]
    rw [if_neg (by decide)]
    exact wpAny_bind (wpAny_pure (ifs_false h))
theorem ifs_run {G : Gx} : ∀ {cs : List Expr} {ρ : Rho} {σ : Led} {Q : Bool → Rho → Led → Prop}, TsIfs G cs ρ σ Q →
    Tr G relB (forIn cs true fun c r => if r = true then do let ok ← isTrue c G.env (eval c G.env); pure (ForInStep.yield ok) else pure (ForInStep.yield r)) ρ σ Q
  | [], _, _, _, h => fun _ _ _ _ _ hS => wpAny_pure (.now hS rfl h)
  | c :: cs, ρ, σ, Q, h => fun A bs im s hA hS => by
    rw [List.forIn_cons, if_pos rfl]
    refine wpAny_bind (wpAny_bind (wpAny_mono (h A bs im s hA hS) (fun b s₁ p => wpAny_pure ?_) fun _ _ e => e))
    obtain ⟨im₁, r, ρ₁, σ₁, e, hr, hS₁, hC⟩ := p
    cases hr
    dsimp only
    cases b with
    | true => exact wpAny_mono (ifs_run hC A bs im₁ s₁ hA hS₁) (fun _ _ q => q.ext e) fun _ _ x => x
    | false => exact ifs_false ⟨im₁, false, ρ₁, σ₁, e, rfl, hS₁, hC⟩

theorem append_led {G : Gx} {A : Around} {bs im : PM} {s : Shared} {ρ : Rho} {σ : Led} {D : Addr} {l : List PV} {p : PV} {v : Value} {Q : Value → Shared → Prop} {E : Value → Shared → Prop} (hS : St G bs im s ρ ((D, .list l) :: σ)) (hv : VR im p v)
    (hl : l.length < 16000000) (h : ∀ h', St G bs im { s with heap := h' } ρ ((D, .list (l ++ [p])) :: σ) → Q .none { s with heap := h' }) :
    wpAny G.C.M A (call (.builtin "list.append") [.ref D, v]) Q E s := by
  obtain ⟨⟨vs, n, ho, hvs⟩, hb, hi⟩ := hS.l.led (D, .list l) (.head _)
  have hlen : vs.toArray.size ≤ sizeLine := by rw [List.size_toArray, hvs.length, sizeLine_eq]; walk_at "zo"
  refine wpAny_list_append_plain (hsz := hlen) ⟨n, ho⟩ fun h' hl' hs' => h h' ?_
  refine hS.upd .head s.toks hs' ?_
  obtain ⟨n', e'⟩ := hl'
  refine ⟨vs ++ [v], n', ?_, hvs.append (.cons hv .nil)⟩
  rw [e']; simp

section
variable {G : Gx} {elt : Expr} {gens : List Comprehension} {scope : Scope} {pos : Pos} {D : Addr}

noncomputable def innerTree (elt : Expr) (gens : List Comprehension) (scope : Scope) (pos : Pos) (d : Nat) (acc : Value) (env : Env) : Sem Unit :=
  match gens[d + 1]? with
  | some g' => do
    let x ← eval g'.iter env
    standAt g'.iter.pos
    let x ← foldedSetIterable g'.iter env x
    let _ ← runOwn (.compStart (.ListComp elt gens scope pos) (d + 1) (← holding [x] (pyIter x)) acc env) env
  | none => do let _ ← call (.builtin "list.append") [acc, ← eval elt env]
theorem inner_then {M : Model} {A : Around} {E : Value → Shared → Prop} {α : Type} {Q : α → Shared → Prop} {s : Shared} {d : Nat} {acc : Value} {env : Env} {k : Sem α} (ha : ∀ g ∈ gens, g.is_async = 0)
    (h : wpAny M A (innerTree elt gens scope pos d acc env) (fun _ s' => wpAny M A k Q E s') E s) :
    wpAny M A (match gens[d + 1]? with
      | some g' => do
        let x ← eval g'.iter env
        standAt g'.iter.pos
        if (g'.is_async != 0) = true then do
            let x ← foldedIterable g'.iter x
            let __do_lift ← holding [x] (if (g'.is_async != 0) = true then asyncIter x else pyIter x)
            let _ ← runOwn (Code.compStart (elt.ListComp gens scope pos) (d + 1) __do_lift acc env) env
            k
          else do
            let x ← foldedSetIterable g'.iter env x
            let __do_lift ← holding [x] (if (g'.is_async != 0) = true then asyncIter x else pyIter x)
            let _ ← runOwn (Code.compStart (elt.ListComp gens scope pos) (d + 1) __do_lift acc env) env
            k
      | none => (do let _ ← call (.builtin "list.append") [acc, ← eval elt env] : Sem Unit) >>= fun _ => k) Q E s := by
  unfold innerTree at h
  cases hg : gens[d + 1]? with
  | none =>
    rw [hg] at h
    exact wpAny_bind h
  | some g' =>
    rw [hg] at h
    have ha' : g'.is_async = 0 := ha g' (List.mem_of_getElem? hg)
    dsimp only at h ⊢
    rw [ha']
    simp only [bne_self_eq_false, Bool.false_eq_true, if_false]
    have := wpAny_bind (f := fun _ => k) h
    simpa only [bind_assoc, pure_bind] using this

noncomputable def InnerOk (G : Gx) (elt : Expr) (gens : List Comprehension) (scope : Scope) (pos : Pos) (D : Addr) (d : Nat) (rest : List Comprehension) : Prop :=
  ∀ A bs im s ρ σ acc (K : List PV → Rho → Led → Prop), AOk G.n A → St G bs im s ρ ((D, .list acc) :: σ) → compInner G elt rest acc ρ σ K →
    wpAny G.C.M A (innerTree elt gens scope pos d (.ref D) G.env) (Post G relU bs im (fun _ ρ' σ' => ∃ acc' σ'', σ' = (D, .list acc') :: σ'' ∧ K acc' ρ' σ'')) Bot s

theorem Comp.loop {A : Around} {bs im₀ im : PM} {h₀ : Heap} {s : Shared} {ρ : Rho} {σ σf σr : Led} {items acc : List PV} {I : Addr} {fp wr : List Addr} {P : Nat → Heap → Value → Heap → Prop} {S : Nat → Heap → Prop} {d : Nat} {g : Comprehension} {rest : List Comprehension}
    {K : List PV → Rho → Led → Prop} (hin : InnerOk G elt gens scope pos D d rest) (hg : gens[d]? = some g) (ha : ∀ g ∈ gens, g.is_async = 0) (hA : AOk G.n A) (hI : IsIt G A im₀ h₀ g.target σf σr items I fp wr P S)
    (hl : G.env.locals ∉ fp) (hk : ∀ p ∈ G.κ, p.2 ∉ fp) (hsr : ∀ b ∈ σr.map (·.1), b ∈ fp) (hso : ∀ b ∈ fp, ∃ o, h₀.get? b = some o)
    (x : Loop G A im₀ bs im h₀ s σf σr items I fp wr S 0 ρ ((D, .list acc) :: σ)) (h : compItems G g (compInner G elt rest) items acc ρ σ K) {R : Result → Shared → Prop}
    (hR : ∀ im' s' ρ' σ' acc' i h' tk, Loop G A im₀ bs im' h₀ s' σf σr items I fp wr S i ρ' ((D, .list acc') :: σ') → (∀ b o, b ∉ wr → s'.heap.get? b = some o → h'.get? b = some o) → s'.toks ≤ tk → K acc' ρ' σ' → R (.ok .next) { s' with heap := h', toks := tk }) :
    codeAny G.C.M A (.compLoop (.ListComp elt gens scope pos) d (.ref I) (.ref D) G.env) R s := by
  refine codeAny_loop rfl (fun k s' => ∃ i im' ρ' σ' acc', Loop G A im₀ bs im' h₀ s' σf σr items I fp wr S i ρ' ((D, .list acc') :: σ') ∧ i ≤ items.length ∧ k = items.length + 1 - i ∧ compItems G g (compInner G elt rest) (items.drop i) acc' ρ' σ' K)
    ?_ (items.length + 1) ⟨0, im, ρ, σ, acc, x, Nat.zero_le _, rfl, by simpa using h⟩
  rintro k s' ⟨i, im', ρ', σ', acc', y, hi, rfl, hT⟩
  show wpAny _ A ((compTurn (.ListComp elt gens scope pos) d (.ref I) (.ref D) G.env).onRaise (fun x => do noteFrame x G.env; theTreesLotGoes x)) _ _ s'
  refine wpAny_noted ?_
  rw [compTurn_at hg (ha g (List.mem_of_getElem? hg))]
  refine wpAny_bind (wpAny_standAt (wpAny_bind ?_))
  by_cases hlt : i < items.length
  · have hx : items[i]? = some items[i] := by simp [hlt]
    have ed : items.drop i = items[i] :: items.drop (i + 1) := by simp
    rw [ed] at hT
    refine wpAny_up (hI.next i _ _ _ hlt y.si fun v h₁ tk₁ hgo htk => ?_)
    dsimp only
    dsimp only at htk
    refine wpAny_bind (wpAny_bot (hgo _ fun h₂ hP hS₂ hk₂ => ?_) fun _ _ q => q)
    obtain ⟨im₂, e₂, y₂, hv⟩ := y.step hI hl hk hsr hso tk₁ hP hS₂ hk₂ hx
    have hs2 : ∀ {j im' s' ρ' σ'}, Loop G A im₀ bs im' h₀ s' σf σr items I fp wr S j ρ' σ' → ∀ b ∈ fp, ∃ o, s'.heap.get? b = some o := fun {j im' s' ρ' σ'} y b hb => by
      by_cases q : b ∈ wr
      · exact hI.has _ _ y.si b q
      · obtain ⟨o, ho⟩ := hso b hb; exact ⟨o, y.old b hb q o ho⟩
    have post : ∀ {α R : Type} {rel : PM → R → α → Prop} {bs im : PM} {Q : R → Rho → Led → Prop} {a : α} {s' : Shared} (φ : Led), (∃ im' r ρ' σ', Ext bs im im' ∧ rel im' r a ∧ St G bs im' s' ρ' (φ ++ σ') ∧ Q r ρ' σ') →
        Post G rel bs im (fun r ρ' σ' => ∃ σ'', σ' = φ ++ σ'' ∧ Q r ρ' σ'') a s' := fun φ ⟨im', r, ρ', σ', e, hr, hS, hQ⟩ => ⟨im', r, ρ', φ ++ σ', e, hr, hS, σ', rfl, hQ⟩
    -- the target
    refine wpAny_bind (wpAny_mono (y₂.body hI.sub hI.frame hl hk hsr (hs2 y₂) fun bs' hS => wpAny_mono (St.frame (φ := [(D, .list acc')]) hS fun bs'' hS' => hT A bs'' im₂ _ v hA hS' hv) (fun _ _ p => post [(D, .list acc')] p) fun _ _ e => e) (fun _ s₃ p => ?_) fun _ _ e => notedBot e)
    obtain ⟨im₃, _, ρ₃, σ₃, y₃, e₃, _, σ₃', rfl, hB⟩ := p
    -- the tests
    refine wpAny_bind (wpAny_mono (y₃.body hI.sub hI.frame hl hk hsr (hs2 y₃) fun bs' hS => wpAny_mono (St.frame (φ := [(D, .list acc')]) hS fun bs'' hS' => ifs_run hB A bs'' im₃ _ hA hS') (fun _ _ p => post [(D, .list acc')] p) fun _ _ e => e) (fun ok s₄ p => ?_) fun _ _ e => notedBot e)
    obtain ⟨im₄, ok', ρ₄, σ₄, y₄, e₄, hok, σ₄', rfl, hC⟩ := p
    cases hok
    cases ok with
    | false =>
      exact wpAny_pure ⟨rfl, items.length + 1 - (i + 1), by walk_at "zo", i + 1, im₄, ρ₄, σ₄', acc', y₄, hlt, rfl, hC⟩
    | true =>
      refine inner_then ha (wpAny_mono (y₄.body hI.sub hI.frame hl hk hsr (hs2 y₄) fun bs' hS => hin A bs' im₄ s₄ ρ₄ σ₄' acc' _ hA hS hC) (fun _ s₅ p => ?_) fun _ _ e => notedBot e)
      obtain ⟨im₅, _, ρ₅, σ₅, y₅, e₅, _, acc₅, σ₅', rfl, hD⟩ := p
      exact wpAny_pure ⟨rfl, items.length + 1 - (i + 1), by walk_at "zo", i + 1, im₅, ρ₅, σ₅', acc₅, y₅, hlt, rfl, hD⟩
  · have hin : i = items.length := by walk_at "zo"
    subst hin
    refine wpAny_up (hI.done _ _ _ y.si fun h₁ tk₁ hk₁ htk => wpAny_pure ?_)
    dsimp only at htk
    rw [List.drop_length] at hT
    exact hR im' s' ρ' σ' acc' _ h₁ tk₁ y hk₁ htk hT
end
end Mine.Tactic
end
section
open PySem PySem.W PyProof.Rows PySem.Calls
set_option Elab.async false
set_option maxRecDepth 100000
namespace Mine.Tactic

theorem codeAny_compStart_at {prog : Program} {w : World} {A : Around} {R : Result → Shared → Prop} {s : Shared} {elt : Expr} {gens : List Comprehension} {scope : Scope} {pos : Pos} {d : Nat} {g : Comprehension} {it acc : Value} {env : Env} (hg : gens[d]? = some g) (ha : g.is_async = 0)
    (h0 : codeAny (model prog w) A (.compLoop (.ListComp elt gens scope pos) d it acc env) R s)
    (h : wpAny (model prog w) A (pyIter it) (fun it' s' => codeAny (model prog w) A (.compLoop (.ListComp elt gens scope pos) d it' acc env) R s')
      (notedBy (model prog w) A env fun x s' => R (.error x) s') s) :
    codeAny (model prog w) A (.compStart (.ListComp elt gens scope pos) d it acc env) R s := by
  refine codeAny_of_tree ?_
  show wpAny _ _ ((compStart (.ListComp elt gens scope pos) d it acc env).onRaise (fun x => do noteFrame x env; standAt theWindowsPlace)) _ _ s
  refine wpAny_notedAt ?_
  unfold compStart
  have e1 : (((clausesOf (.ListComp elt gens scope pos))[d]?).elim false (·.is_async != 0)) = false := by
    show ((gens[d]?).elim false (·.is_async != 0)) = false
    rw [hg]; simp [ha]
  have e2 : (clausesOf (.ListComp elt gens scope pos))[d]? = some g := hg
  rw [e1, e2]
  show wpAny _ _ (ask >>= _) _ _ s
  refine wpAny_bind (wpAny_askSetting (wpAny_ite ?_))
  split
  · first
      | exact wpAny_bind (wpAny_pure (wpAny_pure (And.intro rfl h0)))
      | exact wpAny_pure (And.intro rfl h0)
  · first
      | exact wpAny_bind (wpAny_rule (wpAny_bind (wpAny_standAt (wpAny_bind (wpAny_mono h (fun it' s' h' => wpAny_pure (And.intro rfl h')) fun _ _ x => x)))))
      | (refine wpAny_bind (wpAny_rule ?_); show wpAny _ _ (standAt g.iter.pos >>= _) _ _ s; exact wpAny_bind (wpAny_standAt (wpAny_bind (wpAny_mono h (fun it' s' h' => wpAny_pure (And.intro rfl h')) fun _ _ x => x))))

section
variable {G : Gx} {elt : Expr} {gens : List Comprehension} {scope : Scope} {pos : Pos} {D : Addr}

theorem Comp.start {A : Around} {bs im₀ : PM} {s : Shared} {ρ : Rho} {σ σf σr : Led} {items acc : List PV} {I : Addr} {h' : Heap} {tk : Nat} {fp wr : List Addr} {P : Nat → Heap → Value → Heap → Prop} {S : Nat → Heap → Prop} {d : Nat} {g : Comprehension} {rest : List Comprehension}
    {K : List PV → Rho → Led → Prop} (hin : InnerOk G elt gens scope pos D d rest) (hg : gens[d]? = some g) (ha : ∀ g ∈ gens, g.is_async = 0) (hA : AOk G.n A)
    (hS : St G bs im₀ s ρ (σf ++ (D, .list acc) :: σ)) (hk : ∀ b o, s.heap.get? b = some o → h'.get? b = some o) (hfr : ∀ b ∈ wr, Apart G bs im₀ (σf ++ (D, .list acc) :: σ) b ∨ b ∈ σf.map (·.1)) (hI : IsIt G A im₀ h' g.target σf σr items I fp wr P S) (htk : s.toks ≤ tk)
    (h : compItems G g (compInner G elt rest) items acc ρ σ K) {R : Result → Shared → Prop}
    (hR : ∀ im' s' ρ' σ' acc' i h'' tk, Loop G A im₀ bs im' h' s' σf σr items I fp wr S i ρ' ((D, .list acc') :: σ') → (∀ b o, b ∉ wr → s'.heap.get? b = some o → h''.get? b = some o) → s'.toks ≤ tk → K acc' ρ' σ' → R (.ok .next) { s' with heap := h'', toks := tk }) :
    codeAny G.C.M A (.compStart (.ListComp elt gens scope pos) d (.ref I) (.ref D) G.env) R { s with heap := h', toks := tk } := by
  obtain ⟨hI2, hfp, hm⟩ := it_facts hS hk hfr hI
  have hnd := hS.l.nd
  rw [List.map_append] at hnd
  have hS₂ : St G bs im₀ { s with heap := h', toks := tk } ρ ((D, .list acc) :: σ) := (hS.grow hk tk).sub (fun q hq => List.mem_append_right _ hq) (List.nodup_append.mp hnd).2.1
  have loop : codeAny G.C.M A (.compLoop (.ListComp elt gens scope pos) d (.ref I) (.ref D) G.env) R { s with heap := h', toks := tk } := by
    refine Comp.loop (K := K) hin hg ha hA hI (fun z => (hfp _ z).2.1 rfl) (fun p hp z => (hfp _ z).2.2.1 p hp rfl) (fun b hb => ?_) (fun b hb => (hfp b hb).2.2.2)
      ⟨hS₂, .refl, hI.st, fun _ _ _ o q => q, fun b hb => (hI2 b hb).1, fun b hb => (hI2 b hb).2, fun b hb => (hfp b hb).1, fun b hb => ?_⟩ h hR
    · obtain ⟨p, hp, rfl⟩ := List.mem_map.mp hb; exact (hI.back p hp).2.1
    · obtain ⟨p, hp, rfl⟩ := List.mem_map.mp hb; exact (hm _ (mem_map_fst (hI.back p hp).1)).2.1
  exact codeAny_compStart_at hg (ha g (List.mem_of_getElem? hg)) loop (hI.self 0 { s with heap := h', toks := tk } _ _ hI.st loop)

theorem InnerOk.nil {d : Nat} (hd : gens[d + 1]? = none) : InnerOk G elt gens scope pos D d [] := by
  intro A bs im s ρ σ acc K hA hS hC
  unfold innerTree
  rw [hd]
  dsimp only
  refine wpAny_bind (wpAny_mono (St.frame (φ := [(D, .list acc)]) hS fun bs' hS' => hC A bs' im s hA hS') (fun v s₁ p => ?_) fun _ _ e => e)
  obtain ⟨im₁, r, ρ₁, σ₁, e, hr, hS₁, hl, hK⟩ := p
  exact wpAny_bind (append_led hS₁ hr hl fun h' hS₂ => wpAny_pure ⟨im₁, (), ρ₁, _, e, trivial, hS₂, _, _, rfl, hK⟩)
theorem InnerOk.cons {d : Nat} {g : Comprehension} {rest : List Comprehension} (hd : gens[d + 1]? = some g) (ha : ∀ g ∈ gens, g.is_async = 0) (hs : ∀ x, foldedSetIterable g.iter G.env x = pure x) (ih : InnerOk G elt gens scope pos D (d + 1) rest) : InnerOk G elt gens scope pos D d (g :: rest) := by
  intro A bs im s ρ σ acc K hA hS hC
  unfold innerTree
  rw [hd]
  dsimp only
  refine wpAny_bind (wpAny_mono (St.frame (φ := [(D, .list acc)]) hS fun bs' hS' => hC A bs' im s hA hS') (fun v s₁ p => ?_) fun _ _ e => e)
  obtain ⟨im₁, r, ρ₁, σ₁, e, hr, hS₁, items, hI, hT⟩ := p
  refine wpAny_bind (wpAny_standAt (wpAny_bind (wpAny_of_eq (hs v) (wpAny_bind (wpAny_holding ?_)))))
  refine wpAny_up (hI A bs im₁ s₁ ρ₁ ((D, .list acc) :: σ₁) v _ hA hS₁ hr fun I h' tk fp wr P S hk hfr₀ hIt htk => ?_)
  have hfr : ∀ b ∈ wr, Apart G bs im₁ ([] ++ (D, .list acc) :: σ₁) b ∨ b ∈ ([] : Led).map (·.1) := fun b hb => (hfr₀ b hb).imp (fun z => hS₁.apart_new z) id
  obtain ⟨_, hfp, _⟩ := it_facts (σ := (D, .list acc) :: σ₁) (σf := []) hS₁ hk hfr hIt
  refine wpAny_bind (wpAny_runOwn (Comp.start (K := K) ih hd ha hA hS₁ hk hfr hIt htk hT fun im' s' ρ' σ' acc' i h'' tk' L hk'' htk' hK => ?_))
  refine wpAny_pure ⟨im', (), ρ', _, e.trans L.ext, trivial, ?_, acc', σ', rfl, hK⟩
  exact L.st.off (W := fun b => b ∈ wr) tk' hk'' L.ib L.ii (fun b q => L.is b (hIt.sub b q)) (fun q => (hfp _ (hIt.sub _ q)).2.1 rfl) (fun p hp q => (hfp _ (hIt.sub _ q)).2.2.1 p hp rfl)
theorem InnerOk.all (ha : ∀ g ∈ gens, g.is_async = 0) (hs : ∀ g ∈ gens, ∀ x, foldedSetIterable g.iter G.env x = pure x) : ∀ (rest : List Comprehension) (d : Nat), gens.drop (d + 1) = rest → InnerOk G elt gens scope pos D d rest
  | [], d, h => .nil (by
      have : gens.length ≤ d + 1 := List.drop_eq_nil_iff.mp h
      exact List.getElem?_eq_none this)
  | g :: rest, d, h => by
    have hd : gens[d + 1]? = some g := by
      have := congrArg (fun l => l[0]?) h
      simpa using this
    refine .cons hd ha (hs g (List.mem_of_getElem? hd)) (InnerOk.all ha hs rest (d + 1) ?_)
    have := congrArg List.tail h
    simpa [List.tail_drop] using this
end
end Mine.Tactic
end
section
open PySem PySem.W PyProof.Rows PySem.Calls
set_option Elab.async false
set_option maxRecDepth 100000
namespace Mine.Tactic

theorem St.back {G : Gx} {bs im : PM} {s : Shared} {ρ : Rho} {σ₀ : Led} (hS : St G bs im s ρ σ₀) {bs' im' : PM} {s' : Shared} {σ' : Led} (hid : Addr → Prop) (hL : StL G.C bs' im' s' σ') (hext : Ext bs' im im')
    (hb : ∀ b o, s.heap.get? b = some o → ¬ hid b → bs'.f b = some o) (hh : ∀ b, hid b → b ∈ σ₀.map (·.1) ∨ Apart G bs im σ₀ b) : St G bs im' s' ρ σ' ∧ Ext bs im im' := by
  have nh : ∀ b o, bs.f b = some o → ¬ hid b := fun b o e q => by
    rcases hh b q with h | h
    · rw [(hS.l.ledNe h).1] at e; cases e
    · rw [h.bs] at e; cases e
  have sub : ∀ b o, bs.f b = some o → bs'.f b = some o := fun b o e => hb b o (hS.l.hbs b o e) (nh b o e)
  obtain ⟨ol, esl, epl, hol, hod⟩ := hS.f.loc_some
  have nhL : ¬ hid G.env.locals := fun q => by
    rcases hh _ q with h | h
    · exact hS.f.lled h
    · exact h.loc rfl
  have bL := hb _ _ hol nhL
  have cellk : ∀ p ∈ G.κ, ∃ o, s.heap.get? p.2 = some o ∧ bs'.f p.2 = some o := fun p hp => by
    obtain ⟨⟨v, o, ho, _⟩, _, _, hn, _⟩ := hS.f.cells p hp
    refine ⟨o, ho, hb _ _ ho fun q => ?_⟩
    rcases hh _ q with h | h
    · exact hn h
    · exact h.cel p hp rfl
  have nim : ∀ b o, bs'.f b = some o → im.f b = none → im'.f b = none := fun b o e q => by
    cases z : im'.f b with
    | none => rfl
    | some w => exact absurd q ((hext.2 b (by rw [z]; simp)).resolve_right (by rw [e]; simp))
  have nled : ∀ b o, bs'.f b = some o → b ∉ σ'.map (·.1) := fun b o e q => by rw [(hL.ledNe q).1] at e; cases e
  have hcell : ∀ y c w, G.env.cells.lookup y = some c → s.heap.IsCell c w → s'.heap.IsCell c w := fun y c w e ⟨o, ho, hd⟩ => by
    refine ⟨o, ?_, hd⟩
    rcases hS.f.outer y c e with q | ⟨o', q⟩
    · obtain ⟨o₁, h1, h2⟩ := cellk _ q
      rw [ho] at h1; cases h1; exact hL.hbs _ _ h2
    · have h1 := hS.l.hbs _ _ q
      rw [ho] at h1; cases h1; exact hL.hbs _ _ (sub _ _ q)
  refine ⟨⟨⟨hL.os, hL.gens, hS.l.cb, fun b o e => hL.hbs b o (sub b o e), hL.him, fun p hp => ?_, hL.nd, hL.gok, hL.tk⟩, ⟨?_, hS.f.rn, hS.f.lbs, nim _ _ bL hS.f.lim, nled _ _ bL, fun p hp => ?_, hS.f.apart, hS.f.outer, hS.f.kind, hS.f.gl, hS.f.bi, hS.f.kn, hS.f.own, hS.f.ck⟩⟩, hext.under sub⟩
  · obtain ⟨a, b, c⟩ := hL.led p hp
    exact ⟨a, (by cases z : bs.f p.1 with | none => rfl | some o => (rw [sub _ _ z] at b; cases b)), c⟩
  · obtain ⟨m, ⟨o, es, ep, a, b⟩, d⟩ := hS.f.vars
    refine ⟨m, ⟨o, es, ep, hL.hbs _ _ (hb _ _ a nhL), b⟩, fun p hp => ?_⟩
    obtain ⟨v, e, f⟩ := d p hp
    exact ⟨v, e.mono hext.1, f.keeps (hcell _)⟩
  · obtain ⟨⟨v, a⟩, b, c, d, e⟩ := hS.f.cells p hp
    obtain ⟨o, h1, h2⟩ := cellk p hp
    exact ⟨⟨v, hcell _ _ _ e a⟩, b, nim _ _ h2 c, nled _ _ h2, e⟩

theorem cellsFrom_acc : ∀ (names : List (Str × NameKind)) (n : Nat) (acc : List (Str × Addr)), cellsFrom n names acc = cellsFrom n names [] ++ acc
  | [], n, acc => rfl
  | (x, k) :: r, n, acc => by
    unfold cellsFrom
    split
    · rw [cellsFrom_acc r (n + 1) ((x, n) :: acc), cellsFrom_acc r (n + 1) [(x, n)], List.append_assoc]; rfl
    · exact cellsFrom_acc r n acc
theorem cellsFrom_ge : ∀ (names : List (Str × NameKind)) (n : Nat) (p : Str × Addr), p ∈ cellsFrom n names [] → n ≤ p.2 ∧ (p.1, NameKind.cell) ∈ names
  | [], _, p, h => nomatch h
  | (x, k) :: r, n, p, h => by
    unfold cellsFrom at h
    split at h
    · rename_i hk
      rw [cellsFrom_acc] at h
      rcases List.mem_append.mp h with h | h
      · have := cellsFrom_ge r (n + 1) p h
        exact ⟨by walk_at "zo", .tail _ this.2⟩
      · rw [List.mem_singleton.mp h]
        have : k = .cell := by simpa using hk
        subst this
        exact ⟨Nat.le_refl _, .head _⟩
    · exact (cellsFrom_ge r n p h).imp id (.tail _)
theorem cellsFrom_mem : ∀ (names : List (Str × NameKind)) (n : Nat) (x : Str), (x, NameKind.cell) ∈ names → ∃ c, (x, c) ∈ cellsFrom n names []
  | [], _, _, h => nomatch h
  | (y, k) :: r, n, x, h => by
    unfold cellsFrom
    rcases List.mem_cons.mp h with e | h
    · cases e
      rw [if_pos (by rfl), cellsFrom_acc]
      exact ⟨n, List.mem_append_right _ (.head _)⟩
    · split
      · rw [cellsFrom_acc]
        obtain ⟨c, hc⟩ := cellsFrom_mem r (n + 1) x h
        exact ⟨c, List.mem_append_left _ hc⟩
      · exact cellsFrom_mem r n x h
theorem cellsFrom_keys : ∀ (names : List (Str × NameKind)) (n : Nat), (names.map (·.1)).Nodup → ((cellsFrom n names []).map (·.1)).Nodup
  | [], _, _ => List.nodup_nil
  | (y, k) :: r, n, h => by
    rw [List.map_cons, List.nodup_cons] at h
    unfold cellsFrom
    split
    · rw [cellsFrom_acc, List.map_append]
      refine List.nodup_append.mpr ⟨cellsFrom_keys r (n + 1) h.2, by simp, fun a ha b hb e => ?_⟩
      obtain ⟨p, hp, rfl⟩ := List.mem_map.mp ha
      have hb' : b = y := by simpa using hb
      subst hb'
      have := (cellsFrom_ge r (n + 1) p hp).2
      exact h.1 (List.mem_map.mpr ⟨_, this, e⟩)
    · exact cellsFrom_keys r n h.2
theorem lookup_of_mem {α : Type} : ∀ {l : List (Str × α)} {x : Str} {a : α}, (l.map (·.1)).Nodup → (x, a) ∈ l → l.lookup x = some a
  | (y, b) :: r, x, a, hn, h => by
    rw [List.map_cons, List.nodup_cons] at hn
    rw [List.lookup_cons]
    rcases List.mem_cons.mp h with e | h'
    · cases e; simp
    · have hne : (x == y) = false := by
        rw [beq_eq_false_iff_ne]; intro q
        exact hn.1 (List.mem_map.mpr ⟨_, h', q⟩)
      rw [hne]; exact lookup_of_mem hn.2 h'
theorem lookup_none_of {α : Type} : ∀ {l : List (Str × α)} {x : Str}, x ∉ l.map (·.1) → l.lookup x = none
  | [], _, _ => rfl
  | (y, b) :: r, x, h => by
    rw [List.map_cons, List.mem_cons, not_or] at h
    rw [List.lookup_cons, show (x == y) = false from beq_eq_false_iff_ne.mpr h.1]
    exact lookup_none_of h.2
theorem lookup_append' {α : Type} {l r : List (Str × α)} {x : Str} : (l ++ r).lookup x = (l.lookup x).or (r.lookup x) := List.lookup_append

theorem pushCells_apart : ∀ (names : List (Str × NameKind)) (n : Nat), (cellsFrom n names []).Pairwise fun x y => x.2 ≠ y.2
  | [], _ => .nil
  | (y, k) :: r, n => by
    unfold cellsFrom
    split
    · rw [cellsFrom_acc]
      refine List.pairwise_append.mpr ⟨pushCells_apart r (n + 1), by simp, fun a ha b hb => ?_⟩
      rw [List.mem_singleton.mp hb]
      have := (cellsFrom_ge r (n + 1) a ha).1
      exact fun e => by rw [e] at this; exact absurd this (by simp)
    · exact pushCells_apart r n

theorem newCompEnv {M : Model} {A : Around} {E : Value → Shared → Prop} {s : Shared} {scope : Scope} {globals : Addr} {cl : List (Str × Addr)} {qual : Str} {outer : Env} {Q : Env → Shared → Prop}
    (h : Q { scope, locals := s.heap.objs.size, globals, cells := cellsFrom (s.heap.objs.size + 1) scope.names cl, qual, func := none, code := outer.code, frame := outer.frame, builtins := outer.builtins }
      { s with heap := pushCells (s.heap.push { cls := .type "dict", data := .dict #[] }) scope.names }) :
    wpAny M A (newFunctionEnv scope globals cl [] qual none .none (some outer)) Q E s := by
  simp only [newFunctionEnv, Option.isSome_some, if_true]
  refine wpAny_bind (wpAny_alloc ?_)
  refine wpAny_bind (wpAny_layCells _ (fun name kind cells => by cases hkc : kind == NameKind.cell <;> simp [hkc]) _ _ _ _ ?_)
  rw [show ({ s with heap := s.heap.push { cls := .type "dict", data := .dict #[] } } : Shared).heap.objs.size = s.heap.objs.size + 1 from Heap.size_push ..]
  exact wpAny_bind (wpAny_pure (wpAny_pure h))

theorem closure_go {env : Env} (c : Str → Addr) : ∀ (names : List (Str × NameKind)) (acc : List (Str × Addr)), (∀ x, (x, NameKind.free) ∈ names → env.cells.lookup x = some (c x)) →
    (forIn names acc fun (p : Str × NameKind) (cs : List (Str × Addr)) => if (p.2 == NameKind.free) = true then do let a ← cellOf env p.1; pure (ForInStep.yield ((p.1, a) :: cs)) else pure (ForInStep.yield cs) : Sem (List (Str × Addr))) =
      pure (((names.filter (·.2 == NameKind.free)).map fun p => (p.1, c p.1)).reverse ++ acc)
  | [], acc, _ => by simp
  | (x, k) :: r, acc, h => by
    rw [List.forIn_cons]
    have hr : ∀ x, (x, NameKind.free) ∈ r → env.cells.lookup x = some (c x) := fun x hx => h x (.tail _ hx)
    by_cases hk : k = .free
    · subst hk
      have hx := h x (.head _)
      simp only [beq_self_eq_true, if_true]
      have e : cellOf env x = pure (c x) := by unfold cellOf; rw [hx]
      rw [e]
      show (forIn r ((x, c x) :: acc) _ : Sem (List (Str × Addr))) = _
      rw [closure_go c r _ hr]
      simp
    · have hk' : (k == NameKind.free) = false := by simpa using hk
      simp only [hk', Bool.false_eq_true, if_false]
      show (forIn r acc _ : Sem (List (Str × Addr))) = _
      rw [closure_go c r _ hr]
      simp [hk']
theorem closure_of {env : Env} {scope : Scope} (c : Str → Addr) (h : ∀ x, (x, NameKind.free) ∈ scope.names → env.cells.lookup x = some (c x)) :
    closureFor scope env = pure (((scope.names.filter (·.2 == NameKind.free)).map fun p => (p.1, c p.1)).reverse) := by
  have := closure_go (env := env) c scope.names [] h
  rw [List.append_nil] at this
  unfold closureFor
  show (forIn scope.names [] _ : Sem (List (Str × Addr))) >>= pure = _
  refine (congrArg (· >>= pure) ?_).trans (bind_pure _)
  exact this
end Mine.Tactic
end
section
open PySem PySem.W PyProof.Rows PySem.Calls
set_option Elab.async false
set_option maxRecDepth 100000
namespace Mine.Tactic

theorem lookup_relabel {env : Env} : ∀ {names : List (Str × NameKind)} {x : Str} {k : NameKind}, names.lookup x = some k →
    (names.map fun (n, k) => if (k == NameKind.free && env.scope.kind == .function && env.kindOf n == some .cell) then (n, NameKind.cell) else (n, k)).lookup x = some (if (k == NameKind.free && env.scope.kind == .function && env.kindOf x == some .cell) then NameKind.cell else k)
  | [], _, _, h => by simp at h
  | (n, k') :: r, x, k, h => by
    have ih := @lookup_relabel env r x k
    show List.lookup x ((if (k' == NameKind.free && env.scope.kind == .function && env.kindOf n == some .cell) = true then (n, NameKind.cell) else (n, k')) :: _) = _
    cases hx : x == n with
    | true =>
      simp only [List.lookup_cons, hx] at h
      cases h
      have e : x = n := by simpa using hx
      subst e
      by_cases hc : (k' == NameKind.free && env.scope.kind == .function && env.kindOf x == some .cell) = true
      · rw [if_pos hc, if_pos hc]; simp [List.lookup_cons]
      · rw [if_neg hc, if_neg hc]; simp [List.lookup_cons]
    | false =>
      simp only [List.lookup_cons, hx] at h
      by_cases hc : (k' == NameKind.free && env.scope.kind == .function && env.kindOf n == some .cell) = true
      · rw [if_pos hc]; simp only [List.lookup_cons, hx]; exact ih h
      · rw [if_neg hc]; simp only [List.lookup_cons, hx]; exact ih h

noncomputable def plainB (x : Str) : Bool := !(x == ("__debug__" : Str)) && !(x == ("__classdict__" : Str))
theorem plainB_iff {x : Str} (h : plainB x = true) : PlainName x := by
  unfold plainB at h
  simp only [Bool.and_eq_true, Bool.not_eq_true'] at h
  exact h
noncomputable def nodupB : List Str → Bool
  | [] => true
  | x :: r => !r.contains x && nodupB r
theorem nodupB_iff : ∀ {l : List Str}, nodupB l = true → l.Nodup
  | [], _ => List.nodup_nil
  | x :: r, h => by
    unfold nodupB at h
    simp only [Bool.and_eq_true, Bool.not_eq_true'] at h
    refine List.nodup_cons.mpr ⟨fun hm => ?_, nodupB_iff h.2⟩
    have := List.contains_iff_mem.mpr hm
    rw [h.1] at this; cases this
noncomputable def compOk (scope : Scope) (parent : List String) (ns : Names) (cn : List String) (rc rg : List String) : Bool :=
  scope.kind == .function && nodupB (scope.names.map (·.1)) &&
  (scope.names.all fun p => p.2 != .free || parent.any fun y => Str.ofString y == p.1) &&
  (ns.all fun p => scope.names.lookup (Str.ofString p.1) == some p.2 && p.2 != .free && plainB (Str.ofString p.1)) &&
  (cn.all fun y => scope.names.lookup (Str.ofString y) == some .free || scope.names.lookup (Str.ofString y) == some .cell) &&
  (rc.all fun y => scope.names.lookup (Str.ofString y) == some .free) && (rg.all fun y => scope.names.lookup (Str.ofString y) == some .globalImplicit) &&
  decide (rc ++ rg).Nodup
structure CompOk (scope : Scope) (parent : List String) (ns : Names) (cn : List String) (rc rg : List String) : Prop where
  kind : scope.kind = .function
  nd : (scope.names.map (·.1)).Nodup
  caps : ∀ x, (x, NameKind.free) ∈ scope.names → ∃ y ∈ parent, Str.ofString y = x
  hns : ∀ p ∈ ns, scope.names.lookup (Str.ofString p.1) = some p.2 ∧ p.2 ≠ .free ∧ PlainName (Str.ofString p.1)
  hcn : ∀ y ∈ cn, scope.names.lookup (Str.ofString y) = some .free ∨ scope.names.lookup (Str.ofString y) = some .cell
  hrc : ∀ y ∈ rc, scope.names.lookup (Str.ofString y) = some .free
  hrg : ∀ y ∈ rg, scope.names.lookup (Str.ofString y) = some .globalImplicit
  rn : (rc ++ rg).Nodup
theorem compOk_iff {scope : Scope} {parent : List String} {ns : Names} {cn : List String} {rc rg : List String} (h : compOk scope parent ns cn rc rg = true) : CompOk scope parent ns cn rc rg := by
  unfold compOk at h
  simp only [Bool.and_eq_true, List.all_eq_true, beq_iff_eq, bne_iff_ne, ne_eq, Bool.or_eq_true, List.any_eq_true, decide_eq_true_eq] at h
  obtain ⟨⟨⟨⟨⟨⟨⟨h1, h2⟩, h3⟩, h4⟩, h5⟩, h6⟩, h7⟩, h8⟩ := h
  refine ⟨h1, nodupB_iff h2, fun x hx => ?_, fun p hp => ?_, h5, h6, h7, h8⟩
  · rcases h3 _ hx with e | e
    · exact absurd rfl e
    · exact e
  · obtain ⟨⟨a, b⟩, c⟩ := h4 p hp
    exact ⟨a, b, plainB_iff c⟩

theorem filter_lookup {names : List (Str × NameKind)} (hn : (names.map (·.1)).Nodup) (c : Str → Addr) {x : Str} (hx : (x, NameKind.free) ∈ names) :
    (((names.filter (·.2 == NameKind.free)).map fun p => (p.1, c p.1)).reverse).lookup x = some (c x) := by
  refine lookup_of_mem ?_ ?_
  · rw [List.map_reverse, List.map_map]
    refine (List.reverse_perm _).nodup_iff.mpr ?_
    have : ((fun x : Str × Addr => x.1) ∘ fun p : Str × NameKind => (p.1, c p.1)) = (·.1) := rfl
    rw [this]
    exact hn.sublist ((List.filter_sublist (l := names)).map _)
  · exact List.mem_reverse.mpr (List.mem_map.mpr ⟨(x, .free), List.mem_filter.mpr ⟨hx, rfl⟩, rfl⟩)
theorem filter_lookup_none {names : List (Str × NameKind)} (c : Str → Addr) {x : Str} {a : Addr} (h : (((names.filter (·.2 == NameKind.free)).map fun p => (p.1, c p.1)).reverse).lookup x = some a) : (x, NameKind.free) ∈ names ∧ a = c x := by
  have := mem_of_lookup h
  obtain ⟨p, hp, e⟩ := List.mem_map.mp (List.mem_reverse.mp this)
  obtain ⟨h1, h2⟩ := List.mem_filter.mp hp
  have h3 : p.2 = .free := by simpa using h2
  cases e
  refine ⟨?_, rfl⟩
  rw [← h3]; exact h1

section
variable {G : Gx} {bs im : PM} {s : Shared} {ρ : Rho} {σ : Led}

theorem St.block (hS : St G bs im s ρ σ) {scope : Scope} {ns : Names} {cn : List String} {ρc ρg : Rho} (X : List Addr) (hX : ∀ x ∈ X, bs.f x = none ∧ ∀ p ∈ G.κ, p.2 ≠ x) (hk : CompOk scope G.cn ns cn (ρc.map (·.1)) (ρg.map (·.1))) (hc : ∀ p ∈ ρc, p ∈ ρ) (hg : ∀ p ∈ ρg, p ∈ G.C.gl) :
    ∃ cl, closureFor scope G.env = pure cl ∧ ∀ (qual : Str) (t : Nat), s.toks ≤ t → ∃ κ' bs', ∀ env', env' = ({ scope := relabel scope G.env, locals := s.heap.objs.size, globals := G.env.globals, cells := cellsFrom (s.heap.objs.size + 1) scope.names cl, qual, func := none, code := G.env.code, frame := G.env.frame, builtins := G.env.builtins } : Env) →
      St ⟨G.C, env', κ', ns, cn, G.n⟩ bs' im { s with heap := pushCells (s.heap.push { cls := .type "dict", data := .dict #[] }) scope.names, toks := t } (ρc ++ ρg) σ ∧
      (∀ b o, s.heap.get? b = some o → b ∉ σ.map (·.1) → b ∉ X → bs'.f b = some o) ∧ (∀ b ∈ X, bs'.f b = none) ∧ (∀ p ∈ κ', s.heap.get? p.2 = none) := by
  have hfree : ∀ x, (x, NameKind.free) ∈ scope.names → ∃ c, G.env.cells.lookup x = some c := fun x hx => by
    obtain ⟨y, hy, rfl⟩ := hk.caps x hx
    exact (hS.f.ck y hy).2
  let c : Str → Addr := fun x => (G.env.cells.lookup x).getD 0
  have hcl : ∀ x, (x, NameKind.free) ∈ scope.names → G.env.cells.lookup x = some (c x) := fun x hx => by
    obtain ⟨a, ha⟩ := hfree x hx
    show _ = some ((G.env.cells.lookup x).getD 0)
    rw [ha]; rfl
  refine ⟨_, closure_of c hcl, fun qual t ht => ?_⟩
  generalize hcle : ((scope.names.filter (·.2 == NameKind.free)).map fun p => (p.1, c p.1)).reverse = cl
  have hn := get?_size_none s.heap
  generalize hC : s.heap.objs.size = C at *
  let κ' := cellsFrom (C + 1) scope.names []
  let h₁ := s.heap.push { cls := .type "dict", data := .dict #[] }
  let h₂ := pushCells h₁ scope.names
  have hk₁ : ∀ b o, s.heap.get? b = some o → h₁.get? b = some o := fun b o e => Heap.get?_push_of_some _ e
  have hk₂ : ∀ b o, s.heap.get? b = some o → h₂.get? b = some o := fun b o e => pushCells_keeps _ _ b o (hk₁ b o e)
  have hsz : h₁.objs.size = C + 1 := by rw [← hC]; exact Heap.size_push ..
  have cok := cellsFrom_ok scope.names h₁ (C + 1) [] ⟨fun _ _ hm => (nomatch hm), List.Pairwise.nil⟩ (by rw [hsz]; exact Nat.le_refl _)
  rw [hsz] at cok
  have fresh : ∀ a, C ≤ a → s.heap.get? a = none := fun a ha => by
    cases e : s.heap.get? a with
    | none => rfl
    | some o => have := Heap.lt_size e; rw [hC] at this; exact absurd this (Nat.not_lt.mpr ha)
  have κge : ∀ p ∈ κ', C + 1 ≤ p.2 ∧ (p.1, NameKind.cell) ∈ scope.names := fun p hp => cellsFrom_ge _ _ p hp
  have κnd : (κ'.map (·.1)).Nodup := cellsFrom_keys _ _ hk.nd
  let hid : List Addr := C :: κ'.map (·.2) ++ (σ.map (·.1) ++ X)
  let bs' : PM := ⟨fun b => if b ∈ hid then none else h₂.get? b, 0⟩
  have nhid : ∀ b o, s.heap.get? b = some o → b ∉ σ.map (·.1) → b ∉ X → b ∉ hid := fun b o e hb hbX hm => by
    rcases List.mem_append.mp hm with hm | hm
    · rcases List.mem_cons.mp hm with q | hm
      · rw [q, hn] at e; cases e
      · obtain ⟨p, hp, q⟩ := List.mem_map.mp hm
        rw [← q, fresh p.2 (Nat.le_of_succ_le (κge p hp).1)] at e; cases e
    · rcases List.mem_append.mp hm with hm | hm
      · exact hb hm
      · exact hbX hm
  have hbs' : ∀ b o, s.heap.get? b = some o → b ∉ σ.map (·.1) → b ∉ X → bs'.f b = some o := fun b o e hb hbX => by
    show (if b ∈ hid then none else h₂.get? b) = _
    rw [if_neg (nhid b o e hb hbX)]; exact hk₂ b o e
  have hidn : ∀ b, b ∈ hid → bs'.f b = none := fun b hb => by show (if b ∈ hid then none else h₂.get? b) = _; rw [if_pos hb]
  have inσ : ∀ b, b ∈ σ.map (·.1) → b ∈ hid := fun b hb => List.mem_append_right _ (List.mem_append_left _ hb)
  refine ⟨κ', bs', fun env' henv => ⟨⟨⟨hS.l.os, hS.l.gens, fun a o e => ?_, fun b o e => ?_, fun b o e => hk₂ b o (hS.l.him b o e), fun p hp => ?_, hS.l.nd, hS.l.gok, Nat.le_trans hS.l.tk ht⟩,
    ⟨⟨fun _ => none, ?_, fun p hp => ?_⟩, ?_, hidn _ ?_, (by subst henv; exact hS.l.im_none hn), (by subst henv; exact hS.l.led_some hn), fun p hp => ?_, pushCells_apart _ _, fun x a hx => ?_, ?_, ?_, ?_, fun p hp => ?_, fun p hp hp2 => ?_, fun y hy => ?_⟩⟩, hbs', fun b hb => hidn _ (List.mem_append_right _ (List.mem_append_right _ hb)), fun p hp => fresh _ (Nat.le_of_succ_le (κge p hp).1)⟩⟩
  · have := hS.l.cb a o e
    exact hbs' a o (hS.l.hbs _ _ this) (fun hm => by rw [(hS.l.ledNe hm).1] at this; cases this) fun hm => by rw [(hX a hm).1] at this; cases this
  · have e' : (if b ∈ hid then none else h₂.get? b) = some o := e
    split at e'
    · cases e'
    · exact e'
  · obtain ⟨a, b, d⟩ := hS.l.led p hp
    exact ⟨a.at fun o e => hk₂ _ o e, hidn _ (inσ _ (mem_map_fst hp)), d⟩
  · subst henv
    have := (Heap.Ns.new s.heap (.type "dict")).keeps (pushCells_keeps scope.names h₁)
    rw [hC] at this; exact this
  · -- the names that the block reads
    rcases List.mem_append.mp hp with hp | hp
    · have hfr := mem_of_lookup (hk.hrc p.1 (List.mem_map_of_mem hp))
      obtain ⟨m, hm, hr⟩ := hS.f.vars
      obtain ⟨v, hv, hpn, how⟩ := hr p (hc p hp)
      refine ⟨v, hv, hpn, ?_⟩
      obtain ⟨y, hy, hye⟩ := hk.caps _ hfr
      have hck := hS.f.ck y hy
      rw [hye] at hck
      have hkind : env'.kindOf (Str.ofString p.1) = some .cell ∨ env'.kindOf (Str.ofString p.1) = some .free := by
        subst henv
        have := lookup_relabel (env := G.env) (hk.hrc p.1 (List.mem_map_of_mem hp))
        show (relabel scope G.env).names.lookup _ = _ ∨ (relabel scope G.env).names.lookup _ = _
        unfold relabel
        dsimp only
        rw [this]
        split <;> simp
      have hlook : env'.cells.lookup (Str.ofString p.1) = some (c (Str.ofString p.1)) := by
        subst henv
        show (cellsFrom (C + 1) scope.names cl).lookup _ = _
        rw [cellsFrom_acc, lookup_append', lookup_none_of (l := cellsFrom (C + 1) scope.names []) (fun hm => by
          obtain ⟨q, hq, e⟩ := List.mem_map.mp hm
          have h1 := lookup_of_mem hk.nd (κge q hq).2
          rw [e, hk.hrc p.1 (List.mem_map_of_mem hp)] at h1; cases h1), ← hcle, filter_lookup hk.nd c hfr]
        rfl
      cases how with
      | loc hkk _ => rcases hck.1 with q | q <;> rw [hkk] at q <;> cases q
      | cell hkk a ha hcell =>
        have hca : a = c (Str.ofString p.1) := by have := hcl _ hfr; rw [ha] at this; exact Option.some.inj this
        exact .cell hkind _ hlook (hca ▸ hcell.keeps hk₂)
      | glob hkk _ => rcases hck.1 with q | q <;> rw [hkk] at q <;> cases q
    · obtain ⟨hpn, v, hv, hgl⟩ := hS.l.gok p (hg p hp)
      refine ⟨v, hv im, hpn, .glob ?_ hgl⟩
      subst henv
      have := lookup_relabel (env := G.env) (hk.hrg p.1 (List.mem_map_of_mem hp))
      show (relabel scope G.env).names.lookup _ = _
      unfold relabel
      dsimp only
      rw [this]; rfl
  · rw [List.map_append]; exact hk.rn
  · subst henv; exact .head _
  · obtain ⟨h1, h2⟩ := cok.empty p.1 p.2 hp
    refine ⟨⟨_, h1⟩, hidn _ (List.mem_append_left _ (.tail _ (List.mem_map_of_mem hp))), hS.l.im_none (fresh _ (Nat.le_of_succ_le h2)), hS.l.led_some (fresh _ (Nat.le_of_succ_le h2)), ?_⟩
    subst henv
    show (cellsFrom (C + 1) scope.names cl).lookup _ = _
    rw [cellsFrom_acc, lookup_append', lookup_of_mem κnd hp]; rfl
  · subst henv
    have hx' : (cellsFrom (C + 1) scope.names cl).lookup x = some a := hx
    rw [cellsFrom_acc, lookup_append'] at hx'
    cases hq : (cellsFrom (C + 1) scope.names []).lookup x with
    | some b => rw [hq] at hx'; cases hx'; exact .inl (mem_of_lookup hq)
    | none =>
      rw [hq] at hx'
      have hx2 : cl.lookup x = some a := hx'
      rw [← hcle] at hx2
      obtain ⟨h1, h2⟩ := filter_lookup_none c hx2
      refine .inr ?_
      have hl := hcl x h1
      rw [← h2] at hl
      rcases hS.f.outer x a hl with q | ⟨o, q⟩
      · obtain ⟨⟨w, o, ho, _⟩, _, _, hnm, _⟩ := hS.f.cells _ q
        exact ⟨o, hbs' a o ho hnm fun hm => (hX a hm).2 _ q rfl⟩
      · exact ⟨o, hbs' a o (hS.l.hbs _ _ q) (fun hm => by rw [(hS.l.ledNe hm).1] at q; cases q) fun hm => by rw [(hX a hm).1] at q; cases q⟩
  · subst henv; exact hk.kind
  · subst henv; exact hS.f.gl
  · subst henv; exact hS.f.bi
  · obtain ⟨a, b, d⟩ := hk.hns p hp
    refine ⟨?_, d⟩
    subst henv
    have := lookup_relabel (env := G.env) a
    show (relabel scope G.env).names.lookup _ = _
    unfold relabel
    dsimp only
    rw [this, if_neg]
    simp [b]
  · obtain ⟨a, b, d⟩ := hk.hns p hp
    rw [hp2] at a
    exact cellsFrom_mem _ _ _ (mem_of_lookup a)
  · subst henv
    have key : ∀ k, scope.names.lookup (Str.ofString y) = some k → k = .free ∨ k = .cell → ((relabel scope G.env).names.lookup (Str.ofString y) = some .cell ∨ (relabel scope G.env).names.lookup (Str.ofString y) = some .free) := fun k hk' hkk => by
      have := lookup_relabel (env := G.env) hk'
      unfold relabel
      dsimp only
      rw [this]
      rcases hkk with rfl | rfl
      · split <;> simp
      · simp
    rcases hk.hcn y hy with h | h
    · refine ⟨key _ h (.inl rfl), ?_⟩
      show ∃ c, (cellsFrom (C + 1) scope.names cl).lookup _ = _
      rw [cellsFrom_acc, lookup_append', ← hcle, filter_lookup hk.nd c (mem_of_lookup h)]
      cases (cellsFrom (C + 1) scope.names []).lookup (Str.ofString y) with
      | none => exact ⟨_, rfl⟩
      | some b => exact ⟨_, rfl⟩
    · refine ⟨key _ h (.inr rfl), ?_⟩
      obtain ⟨a, ha⟩ := cellsFrom_mem scope.names (C + 1) _ (mem_of_lookup h)
      show ∃ c, (cellsFrom (C + 1) scope.names cl).lookup _ = _
      rw [cellsFrom_acc, lookup_append', lookup_of_mem κnd ha]
      exact ⟨_, rfl⟩
end
end Mine.Tactic
end
section
open PySem PySem.W PyProof.Rows PySem.Calls
set_option Elab.async false
set_option maxRecDepth 100000
namespace Mine.Tactic

noncomputable def isSetE : Expr → Bool
  | .Set .. => true
  | _ => false
theorem folded_of {e : Expr} (h : isSetE e = false) (env : Env) (x : Value) : foldedSetIterable e env x = pure x := by
  cases e <;> first | rfl | (exact Bool.noConfusion (show true = false from h))
noncomputable def gensOk (gens : List Comprehension) : Bool := gens.all fun g => !isSetE g.iter && g.is_async == 0
theorem gensOk_iff {gens : List Comprehension} (h : gensOk gens = true) : (∀ g ∈ gens, g.is_async = 0) ∧ ∀ g ∈ gens, ∀ env x, foldedSetIterable g.iter env x = pure x := by
  unfold gensOk at h
  rw [List.all_eq_true] at h
  refine ⟨fun g hg => ?_, fun g hg env x => folded_of ?_ env x⟩
  · have := h g hg; simp only [Bool.and_eq_true, beq_iff_eq] at this; exact this.2
  · have := h g hg; simp only [Bool.and_eq_true, Bool.not_eq_true'] at this; exact this.1

noncomputable def CompS (G : Gx) (elt : Expr) (g : Comprehension) (rest : List Comprehension) (scope : Scope) (ρ : Rho) (σ : Led) (Q : List PV → Rho → Led → Prop) : Prop :=
  ForSrc G g.target g.iter ρ σ (fun items σr ρ₁ σ₂ => ∃ ns cn ρc ρg, compOk scope G.cn ns cn (ρc.map (·.1)) (ρg.map (·.1)) = true ∧ (∀ p ∈ ρc, p ∈ ρ₁) ∧ (∀ p ∈ ρg, p ∈ G.C.gl) ∧
    ∀ env' κ', compItems ⟨G.C, env', κ', ns, cn, G.n⟩ g (compInner ⟨G.C, env', κ', ns, cn, G.n⟩ elt rest) items [] (ρc ++ ρg) σ₂ (fun acc _ σ' => Q acc ρ₁ (σr ++ σ')))
noncomputable def CompT (G : Gx) (elt : Expr) (g : Comprehension) (rest : List Comprehension) (scope : Scope) (ρ : Rho) (σ : Led) (Q : List PV → Rho → Led → Prop) : Prop :=
  Ev G g.iter ρ σ (fun p ρ₁ σ₁ => ∃ σf σr σ₂ items ns cn ρc ρg, ItSrc G g.target p σf σr items ∧ (∀ q ∈ σf ++ σ₂, q ∈ σ₁) ∧ (((σf ++ σ₂).map (·.1)).Nodup ∨ σf ++ σ₂ = σ₁) ∧ (σr.map (·.1)).Nodup ∧
    compOk scope G.cn ns cn (ρc.map (·.1)) (ρg.map (·.1)) = true ∧ (∀ p ∈ ρc, p ∈ ρ₁) ∧ (∀ p ∈ ρg, p ∈ G.C.gl) ∧
    ∀ env' κ', compItems ⟨G.C, env', κ', ns, cn, G.n⟩ g (compInner ⟨G.C, env', κ', ns, cn, G.n⟩ elt rest) items [] (ρc ++ ρg) σ₂ (fun acc _ σ' => Q acc ρ₁ (σr ++ σ')))
theorem CompT.toS {G : Gx} {elt : Expr} {g : Comprehension} {rest : List Comprehension} {scope : Scope} {ρ : Rho} {σ : Led} {Q : List PV → Rho → Led → Prop} (h : CompT G elt g rest scope ρ σ Q) : CompS G elt g rest scope ρ σ Q :=
  .of (Tr.mono h (by rintro _ _ _ ⟨σf, σr, σ₂, items, ns, cn, ρc, ρg, a, b, c, d, e, f, k, l⟩; exact ⟨σf, σr, σ₂, items, a, b, c, d, ns, cn, ρc, ρg, e, f, k, l⟩))

theorem comp_run {G : Gx} {elt : Expr} {g : Comprehension} {rest : List Comprehension} {scope : Scope} {pos : Pos} {ρ : Rho} {σ : Led} {Q : List PV → Rho → Led → Prop} (h : CompS G elt g rest scope ρ σ Q) (hgs : gensOk (g :: rest) = true)
    {use : Option (Value → Sem Unit)} {A : Around} {bs im : PM} {s : Shared} (hA : AOk G.n A) (hS : St G bs im s ρ σ) (hcl0 : ∀ x, (x, NameKind.free) ∈ scope.names → ∃ y ∈ G.cn, Str.ofString y = x) (hnd0 : (scope.names.map (·.1)).Nodup) (hkind0 : scope.kind = .function)
    {Qv : Value → Shared → Prop}
    (hQ : ∀ D C s' im' ρ₁ σ' acc, St G bs im' s' ρ₁ ((D, .list acc) :: σ') → Ext bs im im' → Q acc ρ₁ σ' → (∃ m, s'.heap.Ns C m) → (bs.f C = none ∧ im'.f C = none ∧ C ∉ ((D, LO.list acc) :: σ').map (·.1) ∧ C ≠ G.env.locals ∧ ∀ p ∈ G.κ, p.2 ≠ C) →
      compPost G.C.M A Bot use Qv (.ref D) C (.ok .next) s') :
    wpAny G.C.M A (comprehension (.ListComp elt (g :: rest) scope pos) scope G.env (firstIterPos (g :: rest) pos) (newList []) (firstAsync (g :: rest)) (firstIter (g :: rest) G.env) use) Qv Bot s := by
  obtain ⟨hga, hgf⟩ := gensOk_iff hgs
  have e1 : firstAsync (g :: rest) = false := by
    obtain ⟨t, i, f, a⟩ := g
    have : a = 0 := hga _ (.head _)
    subst this; rfl
  have e2 : firstIter (g :: rest) G.env = eval g.iter G.env := by obtain ⟨t, i, f, a⟩ := g; rfl
  rw [e1, e2]
  have hfree : ∀ x, (x, NameKind.free) ∈ scope.names → ∃ c, G.env.cells.lookup x = some c := fun x hx => by
    obtain ⟨y, hy, rfl⟩ := hcl0 x hx
    exact (hS.f.ck y hy).2
  have hcl : ∃ cl, closureFor scope G.env = pure cl := ⟨_, closure_of (fun x => (G.env.cells.lookup x).getD 0) fun x hx => by obtain ⟨c, hc⟩ := hfree x hx; rw [hc]; rfl⟩
  obtain ⟨cl, hcl⟩ := hcl
  refine wpAny_comprehension_free (use := use) (g := g) (gs := rest) rfl (hgf g (.head _) G.env) hcl hkind0 (fun x hx e => lookup_of_mem hnd0 (by rw [← e]; exact hx)) ?_
  refine wpAny_mono (h A bs im s hA hS) (fun v s₁ p => ?_) fun _ _ e => e
  obtain ⟨im₁, ρ₁, σf, σr, σ₂, items, e₁, hS₁', hnr, ⟨ns, cn, ρc, ρg, hck, hρc, hρg, hT⟩, hI⟩ := p
  have hnd := hS₁'.l.nd
  have hck := compOk_iff hck
  refine wpAny_up (hI _ fun I h' tk fp wr P S hk hfr hIt htk => ?_)
  dsimp only at htk
  obtain ⟨hI2, hfp, hm⟩ := it_facts hS₁' hk hfr hIt
  have hS₂ : St G bs im₁ { s₁ with heap := h', toks := tk } ρ₁ (σf ++ σ₂) := hS₁'.grow hk tk
  -- the list
  refine wpAny_newObj_type ?_
  generalize hD : ({ s₁ with heap := h', toks := tk } : Shared).heap.objs.size = D
  have hS₃ := hS₂.pushLed { cls := .type "list", data := .seq ([] : List Value).toArray } (.list []) tk ⟨[], 0, Heap.get?_push_size _ rfl, .nil⟩
  have hDn : h'.get? D = none := by rw [← hD]; exact get?_size_none _
  dsimp only at hS₃ hD ⊢
  rw [hD] at hS₃
  generalize hH : h'.push { cls := .type "list", data := .seq ([] : List Value).toArray } = h₃ at hS₃ ⊢
  have hk₃ : ∀ b o, h'.get? b = some o → h₃.get? b = some o := fun b o e => by rw [← hH]; exact Heap.get?_push_of_some _ e
  -- the block
  have hX : ∀ x ∈ wr, bs.f x = none ∧ ∀ p ∈ G.κ, p.2 ≠ x := fun x hx => ⟨(hI2 x hx).1, (hfp x (hIt.sub x hx)).2.2.1⟩
  obtain ⟨cl', hcl', hblk⟩ := hS₃.block wr hX hck hρc hρg
  have ecl : cl' = cl := by rw [hcl] at hcl'; injection hcl' with hcl'; exact hcl'.symm
  subst ecl
  refine newCompEnv ?_
  obtain ⟨κ', bs', hblk⟩ := hblk G.env.qual tk (Nat.le_refl _)
  obtain ⟨hS₄, hbs', hbX, hκ'⟩ := hblk _ rfl
  dsimp only at hS₄ ⊢
  generalize hC : h₃.objs.size = C at hS₄ ⊢
  generalize hH₄ : pushCells (h₃.push { cls := .type "dict", data := .dict #[] }) scope.names = h₄ at hS₄ ⊢
  generalize henv : ({ scope := relabel scope G.env, locals := C, globals := G.env.globals, cells := cellsFrom (C + 1) scope.names cl', qual := G.env.qual, func := none, code := G.env.code, frame := G.env.frame, builtins := G.env.builtins } : Env) = env' at hS₄ ⊢
  have envC : env'.locals = C := by rw [← henv]
  have hk₄ : ∀ b o, h₃.get? b = some o → h₄.get? b = some o := fun b o e => by rw [← hH₄]; exact pushCells_keeps _ _ b o (Heap.get?_push_of_some _ e)
  have hk₁₄ : ∀ b o, h'.get? b = some o → h₄.get? b = some o := fun b o e => hk₄ b o (hk₃ b o e)
  have hCn : h₃.get? C = none := by rw [← hC]; exact get?_size_none _
  let G' : Gx := ⟨G.C, env', κ', ns, cn, G.n⟩
  have hS₄' : St G' bs' im₁ { s₁ with heap := h₄, toks := tk } (ρc ++ ρg) ((D, .list []) :: σ₂) := by
    refine hS₄.sub (fun q hq => ?_) ?_
    · rcases List.mem_cons.mp hq with rfl | hq
      · exact .head _
      · exact .tail _ (List.mem_append_right _ hq)
    · have := hS₃.l.nd
      rw [List.map_cons, List.map_append, List.nodup_cons] at this
      rw [List.map_cons, List.nodup_cons]
      exact ⟨fun q => this.1 (List.mem_append_right _ q), (List.nodup_append.mp this.2).2.1⟩
  have h3some : ∀ b ∈ fp, ∃ o, h₃.get? b = some o := fun b hb => let ⟨o, ho⟩ := (hfp b hb).2.2.2; ⟨o, hk₃ b o ho⟩
  have fpl : G'.env.locals ∉ fp := fun hm' => by
    obtain ⟨o, ho⟩ := h3some _ hm'
    have : G'.env.locals = C := envC
    rw [this, hCn] at ho; cases ho
  have fpk : ∀ p ∈ G'.κ, p.2 ∉ fp := fun p hp hm' => by
    obtain ⟨o, ho⟩ := h3some _ hm'
    have := hκ' p hp
    dsimp only at this
    rw [ho] at this; cases this
  have fpσ : ∀ b ∈ fp, b ∉ ((D, LO.list []) :: σ₂).map (·.1) := fun b hb hm' => by
    rcases List.mem_cons.mp hm' with q | q
    · obtain ⟨o, ho⟩ := (hfp b hb).2.2.2
      rw [q, hDn] at ho; cases ho
    · exact (hfp b hb).1 q
  have hsrf : ∀ p ∈ σr, p.1 ∈ σf.map (·.1) := fun p hp => mem_map_fst (hIt.back p hp).1
  have hsr : ∀ b ∈ σr.map (·.1), b ∈ fp := fun b hb => by obtain ⟨p, hp, rfl⟩ := List.mem_map.mp hb; exact (hIt.back p hp).2.1
  have hIt' : IsIt G' A im₁ h₄ g.target σf σr items I fp wr P S := ⟨hIt.sub, hIt.frame, hIt.next, hIt.done, hIt.self, hIt.frame _ _ _ hIt.st fun b _ o e => hk₁₄ b o e, hIt.wrI, hIt.fps, hIt.back, hIt.has, hIt.val⟩
  have hin : InnerOk G' elt (g :: rest) scope pos D 0 rest := InnerOk.all hga (fun g hg x => hgf g hg _ x) rest 0 rfl
  have hso : ∀ b ∈ fp, ∃ o, h₄.get? b = some o := fun b hb => let ⟨o, ho⟩ := (hfp b hb).2.2.2; ⟨o, hk₁₄ b o ho⟩
  have loop : ∀ {R : Result → Shared → Prop}, (∀ im' s' ρ' σ' acc' i h'' tk', Loop G' A im₁ bs' im' h₄ s' σf σr items I fp wr S i ρ' ((D, .list acc') :: σ') → (∀ b o, b ∉ wr → s'.heap.get? b = some o → h''.get? b = some o) → s'.toks ≤ tk' → Q acc' ρ₁ (σr ++ σ') → R (.ok .next) { s' with heap := h'', toks := tk' }) →
      codeAny G.C.M A (.compLoop (.ListComp elt (g :: rest) scope pos) 0 (.ref I) (.ref D) env') R { s₁ with heap := h₄, toks := tk } := fun {R} hR =>
    Comp.loop (G := G') (K := fun acc _ σ' => Q acc ρ₁ (σr ++ σ')) hin rfl hga hA hIt' fpl fpk hsr hso
      ⟨hS₄', .refl, hIt'.st, fun _ _ _ o q => q, fun b hb => hbX b hb, fun b hb => (hI2 b hb).2, fpσ, fun b hb => by obtain ⟨p, hp, rfl⟩ := List.mem_map.mp hb; exact (hm _ (hsrf p hp)).2.1⟩ (hT env' κ') hR
  have post : ∀ im' s' ρ' σ' acc' i h'' tk', Loop G' A im₁ bs' im' h₄ s' σf σr items I fp wr S i ρ' ((D, .list acc') :: σ') → (∀ b o, b ∉ wr → s'.heap.get? b = some o → h''.get? b = some o) → s'.toks ≤ tk' → Q acc' ρ₁ (σr ++ σ') →
      compPost G.C.M A Bot use Qv (.ref D) C (.ok .next) { s' with heap := h'', toks := tk' } := fun im' s' ρ' σ' acc' i h'' tk' L hk'' htk' hq => by
    have hback : ∀ p ∈ σr, LR im₁ h₄ p.1 p.2 ∧ bs'.f p.1 = none ∧ G'.env.locals ≠ p.1 ∧ ∀ q ∈ G'.κ, q.2 ≠ p.1 := fun p hp => by
      obtain ⟨hpf, hpfp, hpI⟩ := hIt.back p hp
      have := hS₄.l.led p (.tail _ (List.mem_append_left _ hpf))
      exact ⟨this.1, this.2.1, fun q => fpl (q ▸ hpfp), fun q hq e => fpk q hq (e ▸ hpfp)⟩
    have F := L.fin hIt' fpl fpk hsr hback hnr tk' hk''
    have hCm : ∃ m, h''.Ns C m := by obtain ⟨m, a, _⟩ := F.f.vars; exact ⟨m, envC ▸ a⟩
    -- back in the frame
    have B := hS₁'.back (s' := { s' with heap := h'', toks := tk' }) (σ' := σr ++ (D, .list acc') :: σ') (fun b => b ∈ (σf ++ σ₂).map (·.1) ∨ b ∈ wr ∨ b = D) F.l L.ext (fun b o e nh => ?_) fun b hb => ?_
    · obtain ⟨B1, B2⟩ := B
      have s1n : ∀ b, h₃.get? b = none → s₁.heap.get? b = none := fun b q => by
        cases z : s₁.heap.get? b with
        | none => rfl
        | some o => rw [hk₃ b o (hk b o z)] at q; cases q
      have hC1 := s1n C hCn
      have hCs : C ∉ ((D, LO.list acc') :: (σr ++ σ')).map (·.1) := fun q => by
        have hl := F.f.lled
        have : G'.env.locals = C := envC
        rw [this, List.map_append, List.map_cons] at hl
        rw [List.map_cons, List.map_append] at q
        rcases List.mem_cons.mp q with q | q
        · exact hl (List.mem_append_right _ (q ▸ .head _))
        · rcases List.mem_append.mp q with q | q
          · exact hl (List.mem_append_left _ q)
          · exact hl (List.mem_append_right _ (.tail _ q))
      have B3 : St G bs im' { s' with heap := h'', toks := tk' } ρ₁ ((D, .list acc') :: (σr ++ σ')) := by
        refine B1.sub (fun q hq => ?_) ?_
        · rcases List.mem_cons.mp hq with rfl | hq
          · exact List.mem_append_right _ (.head _)
          · rcases List.mem_append.mp hq with hq | hq
            · exact List.mem_append_left _ hq
            · exact List.mem_append_right _ (.tail _ hq)
        · have := B1.l.nd
          rw [List.map_append, List.map_cons] at this
          rw [List.map_cons, List.map_append]
          exact (List.perm_middle.symm.nodup_iff).mpr this
      refine hQ D C _ im' ρ₁ (σr ++ σ') acc' B3 (e₁.trans B2) hq hCm ⟨hS₁'.l.bs_none hC1, ?_, hCs, ?_, fun p hp q => ?_⟩
      · have := F.f.lim
        rw [show G'.env.locals = C from envC] at this; exact this
      · intro q
        obtain ⟨o, _, _, ho, _⟩ := hS₁'.f.loc_some
        rw [← q, hC1] at ho; cases ho
      · obtain ⟨⟨w, o, ho, _⟩, _⟩ := hS₁'.f.cells p hp
        rw [q, hC1] at ho; cases ho
    · have h1 : b ∉ (σf ++ σ₂).map (·.1) := fun q => nh (.inl q)
      have h2 : b ∉ wr := fun q => nh (.inr (.inl q))
      have h3 : b ≠ D := fun q => nh (.inr (.inr q))
      exact hbs' b o (hk₃ b o (hk b o e)) (by rw [List.map_cons]; intro q; rcases List.mem_cons.mp q with q | q; exact h3 q; exact h1 q) h2
    · rcases hb with q | q | q
      · exact .inl q
      · rcases hfr b q with z | z
        · exact .inr z
        · exact .inl (by rw [List.map_append]; exact List.mem_append_left _ z)
      · subst q
        refine .inr (hS₁'.apart_new ?_)
        cases z : s₁.heap.get? b with
        | none => rfl
        | some o => rw [hk b o z] at hDn; cases hDn
  have hgz : env' = { env' with scope := relabel scope G.env } := by rw [← henv]
  show codeAny _ _ (.compStart (.ListComp elt (g :: rest) scope pos) 0 (.ref I) (.ref D) _) _ _
  refine codeAny_compStart_at (g := g) rfl (hga g (.head _)) (loop post) (hIt'.self 0 _ _ _ hIt'.st (loop post))

noncomputable abbrev KCmp (Q : PV → Rho → Led → Prop) : List PV → Rho → Led → Prop := fun acc ρ' σ' => Q (.lst acc) ρ' σ'
noncomputable abbrev KCmpM (Q : PV → Rho → Led → Prop) : List PV → Rho → Led → Prop := fun acc ρ' σ' => ∀ D, Q (.ref D) ρ' ((D, .list acc) :: σ')
theorem Ev.compS {G : Gx} {elt : Expr} {g : Comprehension} {rest : List Comprehension} {scope : Scope} {pos : Pos} {ρ : Rho} {σ : Led} {Q : PV → Rho → Led → Prop} (h : CompS G elt g rest scope ρ σ (KCmp Q))
    (hgs : gensOk (g :: rest) = true := by rfl) (hsc : compOk scope G.cn [] [] [] [] = true := by rfl) : Ev G (.ListComp elt (g :: rest) scope pos) ρ σ Q := fun A bs im s hA hS => by
  have hk := compOk_iff hsc
  show wpAny _ _ (eval (.ListComp elt (g :: rest) scope pos) G.env) _ _ _
  rw [eval_ListComp]
  refine comp_run h hgs (use := Option.none) hA hS hk.caps hk.nd hk.kind fun D C s' im' ρ₁ σ' acc B e hq hC hf => ?_
  obtain ⟨m, hm⟩ := hC
  refine ⟨m, hm, fun h' hs' => ?_⟩
  have B' : St G bs im' { s' with heap := h', toks := s'.toks } ρ₁ ((D, .list acc) :: σ') := B.off (W := fun b => b = C) s'.toks (fun b o q e => (hs'.2 b q).trans e) (fun b q => q ▸ hf.1) (fun b q => q ▸ hf.2.1) (fun b q => by rw [q]; exact hf.2.2.1) (fun q => hf.2.2.2.1 q.symm) (fun p hp q => hf.2.2.2.2 p hp q)
  obtain ⟨im'', e', hv, B''⟩ := B'.freeze
  exact ⟨im'', _, ρ₁, σ', e.trans e', hv, B'', hq⟩
theorem Ev.compSM {G : Gx} {elt : Expr} {g : Comprehension} {rest : List Comprehension} {scope : Scope} {pos : Pos} {ρ : Rho} {σ : Led} {Q : PV → Rho → Led → Prop} (h : CompS G elt g rest scope ρ σ (KCmpM Q))
    (hgs : gensOk (g :: rest) = true := by rfl) (hsc : compOk scope G.cn [] [] [] [] = true := by rfl) : Ev G (.ListComp elt (g :: rest) scope pos) ρ σ Q := fun A bs im s hA hS => by
  have hk := compOk_iff hsc
  show wpAny _ _ (eval (.ListComp elt (g :: rest) scope pos) G.env) _ _ _
  rw [eval_ListComp]
  refine comp_run h hgs (use := Option.none) hA hS hk.caps hk.nd hk.kind fun D C s' im' ρ₁ σ' acc B e hq hC hf => ?_
  obtain ⟨m, hm⟩ := hC
  refine ⟨m, hm, fun h' hs' => ?_⟩
  have B' : St G bs im' { s' with heap := h', toks := s'.toks } ρ₁ ((D, .list acc) :: σ') := B.off (W := fun b => b = C) s'.toks (fun b o q e => (hs'.2 b q).trans e) (fun b q => q ▸ hf.1) (fun b q => q ▸ hf.2.1) (fun b q => by rw [q]; exact hf.2.2.1) (fun q => hf.2.2.2.1 q.symm) (fun p hp q => hf.2.2.2.2 p hp q)
  exact ⟨im', _, ρ₁, _, e, .ref, B', hq D⟩

noncomputable def swapC (scope : Scope) (pos : Pos) (y : Str) (py : Pos) : Bool := py.line == pos.line && !(scope.names.any fun p => p.1 == y && (p.2 == .local || p.2 == .cell))
theorem swapC_iff {env : Env} {elt : Expr} {gens : List Comprehension} {scope : Scope} {pos py : Pos} {y : Str} {line : Nat} (hk : env.scope.kind = .function) (ky : env.kindOf y = some .local) (h : swapC scope pos y py = true) : swapsWith (.ListComp elt gens scope pos) (some (.Name y py)) line env = pure true := by
  have hb : env.blockKind = .function := by unfold Env.blockKind; rw [hk]; rfl
  unfold swapC at h
  simp only [Bool.and_eq_true] at h
  unfold swapsWith
  dsimp only
  rw [hb, ky]
  have e : (py.line == (Expr.ListComp elt gens scope pos).pos.line) = true := h.1
  have e2 : ∀ f : Str × NameKind → Bool, (∀ p, f p = (p.1 == y && (p.2 == .local || p.2 == .cell))) → (!(scope.names.any f)) = true := fun f hf => by rw [show f = _ from funext hf]; exact h.2
  rw [e, e2 _ (fun p => rfl)]
  rfl
theorem asg_comp {G : Gx} {elt : Expr} {g : Comprehension} {rest : List Comprehension} {scope : Scope} {pos spos : Pos} {y : String} {py : Pos} {ρ : Rho} {σ : Led} {Q : Fl → Rho → Led → Prop} {val : Addr → List PV → PV} {led : Addr → List PV → Led → Led}
    (hfz : ∀ {bs im s ρ σ D acc}, St G bs im s ρ ((D, .list acc) :: σ) → ∃ im', Ext bs im im' ∧ VR im' (val D acc) (.ref D) ∧ St G bs im' s ρ (led D acc σ))
    (h : CompS G elt g rest scope ρ σ (fun acc ρ' σ' => ∀ D, As G (.Name (Str.ofString y) py) (val D acc) ρ' (led D acc σ') (fun ρ'' σ'' => Q .next ρ'' σ'')))
    (hy : (y, NameKind.local) ∈ G.ns) (hsw : swapC scope pos (Str.ofString y) py = true)
    (hgs : gensOk (g :: rest) = true) (hsc : compOk scope G.cn [] [] [] [] = true) :
    Ex1 G (.Assign [.Name (Str.ofString y) py] (.ListComp elt (g :: rest) scope pos) spos) ρ σ Q := fun A bs im s hA hS => by
  have hk := compOk_iff hsc
  show wpAny _ _ (exec (.Assign [.Name (Str.ofString y) py] (.ListComp elt (g :: rest) scope pos) spos) G.env) _ _ _
  rw [exec_Assign_Name_used _ _ _ _ (swapC_iff hS.f.kind (hS.f.kn _ hy).1 hsw)]
  refine wpAny_bind (wpAny_standAt (wpAny_bind ?_))
  show wpAny _ A (do let _ ← comprehension (.ListComp elt (g :: rest) scope pos) scope G.env _ (newList []) (firstAsync (g :: rest)) (firstIter (g :: rest) G.env) (some (assign (.Name (Str.ofString y) py) G.env))) _ _ s
  refine wpAny_bind (wpAny_mono (comp_run (Qv := fun _ s' => Post G FlR bs im Q .next s') h hgs (use := some (assign (.Name (Str.ofString y) py) G.env)) hA hS hk.caps hk.nd hk.kind fun D C s' im' ρ₁ σ' acc B e hq hC hf => ?_) (fun _ s' p => wpAny_pure (wpAny_pure p)) fun _ _ x => x)
  show wpAny _ A (assign (.Name (Str.ofString y) py) G.env (.ref D)) _ _ _
  obtain ⟨m, hm⟩ := hC
  have hCs : ∀ b, b = C → b ∉ ((D, LO.list acc) :: σ').map (·.1) := fun b q => by rw [q]; exact hf.2.2.1
  have B₁ := B.over (fun b => b = C) hCs (fun q => hf.2.2.2.1 q.symm) (fun p hp q => hf.2.2.2.2 p hp q)
  have sub := PM.over_sub (F := fun b => b = C) B.l.hbs
  obtain ⟨im₂, e₂, hv, B₂⟩ := hfz B₁
  refine wpAny_mono (hq D A _ im₂ s' (.ref D) hA B₂ hv) (fun _ s₃ p => ?_) fun _ _ x => x
  obtain ⟨im₃, _, ρ₃, σ₃, e₃, _, B₃, hq₃⟩ := p
  obtain ⟨oC, es, ep, hoC, hr⟩ := hm
  have bsC : (bs.over (fun b => b = C) s'.heap).f C = some oC := by rw [PM.over_at, if_pos rfl]; exact hoC
  refine ⟨m, ⟨oC, es, ep, B₃.l.hbs _ _ bsC, hr⟩, fun h' hs' => ?_⟩
  have e23 := e₂.trans e₃
  have imC : im₃.f C = none := by
    cases q : im₃.f C with
    | none => rfl
    | some o => exact absurd hf.2.1 ((e23.2 C (by rw [q]; simp)).resolve_right (by rw [bsC]; simp))
  have ledC : C ∉ σ₃.map (·.1) := fun q => by rw [(B₃.l.ledNe q).1] at bsC; cases bsC
  have B₄ := B₃.under sub B.l.cb B.f.outer
  exact ⟨im₃, .next, ρ₃, σ₃, e.trans (e23.under sub), rfl, B₄.off (W := fun b => b = C) s₃.toks (fun b o q e => (hs'.2 b q).trans e) (fun b q => q ▸ hf.1) (fun b q => q ▸ imC) (fun b q => by rw [q]; exact ledC) (fun q => hf.2.2.2.1 q.symm) (fun p hp q => hf.2.2.2.2 p hp q), hq₃⟩
noncomputable abbrev KCmpA (G : Gx) (y : String) (py : Pos) (Q : Fl → Rho → Led → Prop) : List PV → Rho → Led → Prop := fun acc ρ' σ' => ∀ _ : Addr, As G (.Name (Str.ofString y) py) (.lst acc) ρ' σ' (Q .next)
noncomputable abbrev KCmpAM (G : Gx) (y : String) (py : Pos) (Q : Fl → Rho → Led → Prop) : List PV → Rho → Led → Prop := fun acc ρ' σ' => ∀ D : Addr, As G (.Name (Str.ofString y) py) (.ref D) ρ' ((D, .list acc) :: σ') (Q .next)
theorem Ex1.asgCompS {G : Gx} {elt : Expr} {g : Comprehension} {rest : List Comprehension} {scope : Scope} {pos spos : Pos} {y : String} {py : Pos} {ρ : Rho} {σ : Led} {Q : Fl → Rho → Led → Prop}
    (h : CompS G elt g rest scope ρ σ (KCmpA G y py Q))
    (hy : (y, NameKind.local) ∈ G.ns) (hsw : swapC scope pos (Str.ofString y) py = true)
    (hgs : gensOk (g :: rest) = true := by rfl) (hsc : compOk scope G.cn [] [] [] [] = true := by rfl) :
    Ex1 G (.Assign [.Name (Str.ofString y) py] (.ListComp elt (g :: rest) scope pos) spos) ρ σ Q :=
  asg_comp (val := fun _ acc => .lst acc) (led := fun _ _ σ => σ) (fun hS => hS.freeze) h hy hsw hgs hsc
theorem Ex1.asgCompSM {G : Gx} {elt : Expr} {g : Comprehension} {rest : List Comprehension} {scope : Scope} {pos spos : Pos} {y : String} {py : Pos} {ρ : Rho} {σ : Led} {Q : Fl → Rho → Led → Prop}
    (h : CompS G elt g rest scope ρ σ (KCmpAM G y py Q))
    (hy : (y, NameKind.local) ∈ G.ns) (hsw : swapC scope pos (Str.ofString y) py = true)
    (hgs : gensOk (g :: rest) = true := by rfl) (hsc : compOk scope G.cn [] [] [] [] = true := by rfl) :
    Ex1 G (.Assign [.Name (Str.ofString y) py] (.ListComp elt (g :: rest) scope pos) spos) ρ σ Q :=
  asg_comp (val := fun D _ => .ref D) (led := fun D acc σ => (D, .list acc) :: σ) (fun {_ im _ _ _ _ _} hS => ⟨im, .refl, .ref, hS⟩) h hy hsw hgs hsc
theorem Ev.comp {G : Gx} {elt : Expr} {g : Comprehension} {rest : List Comprehension} {scope : Scope} {pos : Pos} {ρ : Rho} {σ : Led} {Q : PV → Rho → Led → Prop} (h : CompT G elt g rest scope ρ σ (KCmp Q))
    (hgs : gensOk (g :: rest) = true := by rfl) (hsc : compOk scope G.cn [] [] [] [] = true := by rfl) : Ev G (.ListComp elt (g :: rest) scope pos) ρ σ Q := .compS h.toS hgs hsc
theorem Ev.compM {G : Gx} {elt : Expr} {g : Comprehension} {rest : List Comprehension} {scope : Scope} {pos : Pos} {ρ : Rho} {σ : Led} {Q : PV → Rho → Led → Prop} (h : CompT G elt g rest scope ρ σ (KCmpM Q))
    (hgs : gensOk (g :: rest) = true := by rfl) (hsc : compOk scope G.cn [] [] [] [] = true := by rfl) : Ev G (.ListComp elt (g :: rest) scope pos) ρ σ Q := .compSM h.toS hgs hsc
theorem Ex1.asgComp {G : Gx} {elt : Expr} {g : Comprehension} {rest : List Comprehension} {scope : Scope} {pos spos : Pos} {y : String} {py : Pos} {ρ : Rho} {σ : Led} {Q : Fl → Rho → Led → Prop}
    (h : CompT G elt g rest scope ρ σ (KCmpA G y py Q))
    (hy : (y, NameKind.local) ∈ G.ns) (hsw : swapC scope pos (Str.ofString y) py = true)
    (hgs : gensOk (g :: rest) = true := by rfl) (hsc : compOk scope G.cn [] [] [] [] = true := by rfl) :
    Ex1 G (.Assign [.Name (Str.ofString y) py] (.ListComp elt (g :: rest) scope pos) spos) ρ σ Q := .asgCompS h.toS hy hsw hgs hsc
theorem Ex1.asgCompM {G : Gx} {elt : Expr} {g : Comprehension} {rest : List Comprehension} {scope : Scope} {pos spos : Pos} {y : String} {py : Pos} {ρ : Rho} {σ : Led} {Q : Fl → Rho → Led → Prop}
    (h : CompT G elt g rest scope ρ σ (KCmpAM G y py Q))
    (hy : (y, NameKind.local) ∈ G.ns) (hsw : swapC scope pos (Str.ofString y) py = true)
    (hgs : gensOk (g :: rest) = true := by rfl) (hsc : compOk scope G.cn [] [] [] [] = true := by rfl) :
    Ex1 G (.Assign [.Name (Str.ofString y) py] (.ListComp elt (g :: rest) scope pos) spos) ρ σ Q := .asgCompSM h.toS hy hsw hgs hsc
end Mine.Tactic
end
section
open PySem PySem.W PyProof.Rows PySem.Calls
set_option Elab.async false
set_option maxRecDepth 100000
namespace Mine.Tactic

noncomputable def EvL (G : Gx) (pos : Pos) (es : List Expr) (ρ : Rho) (σ : Led) (Q : List PV → Rho → Led → Prop) : Prop := Tr G relL (spliced (backTo pos (starEach es G.env))) ρ σ Q
theorem EvL.nil {G : Gx} {pos : Pos} {ρ : Rho} {σ : Led} {Q : List PV → Rho → Led → Prop} (h : Q [] ρ σ) : EvL G pos [] ρ σ Q := fun _ _ _ _ _ hS => spliced_nil (.now hS .nil h)
noncomputable abbrev KCons (p : PV) (Q : List PV → Rho → Led → Prop) : List PV → Rho → Led → Prop := fun ps ρ₂ σ₂ => Q (p :: ps) ρ₂ σ₂
noncomputable abbrev KEvL (G : Gx) (pos : Pos) (es : List Expr) (Q : List PV → Rho → Led → Prop) : PV → Rho → Led → Prop := fun p ρ₁ σ₁ => EvL G pos es ρ₁ σ₁ (KCons p Q)
theorem EvL.cons {G : Gx} {pos : Pos} {e : Expr} {es : List Expr} {ρ : Rho} {σ : Led} {Q : List PV → Rho → Led → Prop} (h : Ev G e ρ σ (KEvL G pos es Q))
    (he : starEach (e :: es) G.env = (false, eval e G.env) :: starEach es G.env := by rfl) : EvL G pos (e :: es) ρ σ Q := fun A bs im s hA hS => by
  rw [he]
  show wpAny _ _ (spliced ((false, eval e G.env) :: backTo pos (starEach es G.env))) _ _ _
  refine spliced_cons (wpAny_mono (h A bs im s hA hS) (fun v s₁ p => ?_) fun _ _ x => x)
  obtain ⟨im₁, r, ρ₁, σ₁, e₁, hr, hS₁, hC⟩ := p
  refine wpAny_mono (hC A bs im₁ s₁ hA hS₁) (fun vs s₂ p => ?_) fun _ _ x => x
  obtain ⟨im₂, rs, ρ₂, σ₂, e₂, hrs, hS₂, hD⟩ := p
  exact ⟨im₂, r :: rs, ρ₂, σ₂, e₁.trans e₂, .cons (hr.mono e₂.1) hrs, hS₂, hD⟩
noncomputable def EvK (G : Gx) (pos : Pos) (ks : List Keyword) (ρ : Rho) (σ : Led) (Q : List PV → Rho → Led → Prop) : Prop := Tr G relL (evalAll ((backToKw pos (keywordEach ks G.env)).map (·.2))) ρ σ Q
theorem EvK.nil {G : Gx} {pos : Pos} {ρ : Rho} {σ : Led} {Q : List PV → Rho → Led → Prop} (h : Q [] ρ σ) : EvK G pos [] ρ σ Q := fun _ _ _ _ _ hS => wpAny_evalAll_nil (.now hS .nil h)
noncomputable abbrev KEvK (G : Gx) (pos : Pos) (ks : List Keyword) (Q : List PV → Rho → Led → Prop) : PV → Rho → Led → Prop := fun p ρ₁ σ₁ => EvK G pos ks ρ₁ σ₁ (KCons p Q)
theorem EvK.cons {G : Gx} {pos p0 : Pos} {x : Option Str} {e : Expr} {ks : List Keyword} {ρ : Rho} {σ : Led} {Q : List PV → Rho → Led → Prop} (h : Ev G e ρ σ (KEvK G pos ks Q)) :
    EvK G pos (⟨x, e, p0⟩ :: ks) ρ σ Q := fun A bs im s hA hS => by
  show wpAny _ _ (evalAll ((do let v ← eval e G.env; standAt pos; pure v) :: (backToKw pos (keywordEach ks G.env)).map (·.2))) _ _ _
  refine wpAny_evalAll_cons (wpAny_bind (wpAny_mono (h A bs im s hA hS) (fun v s₁ p => wpAny_bind (wpAny_standAt (wpAny_pure ?_))) fun _ _ x => x))
  obtain ⟨im₁, r, ρ₁, σ₁, e₁, hr, hS₁, hC⟩ := p
  refine wpAny_mono (hC A bs im₁ s₁ hA hS₁) (fun vs s₂ p => ?_) fun _ _ x => x
  obtain ⟨im₂, rs, ρ₂, σ₂, e₂, hrs, hS₂, hD⟩ := p
  exact ⟨im₂, r :: rs, ρ₂, σ₂, e₁.trans e₂, .cons (hr.mono e₂.1) hrs, hS₂, hD⟩

theorem newTuple_run {G : Gx} {A : Around} {bs im : PM} {s : Shared} {ρ : Rho} {σ : Led} {ps : List PV} {vs : List Value} {Q : PV → Rho → Led → Prop} (hS : St G bs im s ρ σ) (hv : VRs im ps vs) (hl : ps.length ≤ 1000000) (h : Q (.tup ps) ρ σ) :
    wpAny G.C.M A (newTuple vs) (Post G VR bs im Q) Bot s := by
  refine wpAny_newObj_type ?_ (by show vs.toArray.size ≤ sizeLine; rw [List.size_toArray, hv.length, sizeLine_eq]; walk_at "zo")
  obtain ⟨e, hS'⟩ := hS.pushIm { cls := .type "tuple", data := .seq vs.toArray } rfl s.toks
  exact ⟨_, _, ρ, σ, e, .tup (PM.put_self ..) (hv.mono e.1), hS', h⟩
noncomputable abbrev KTup (Q : PV → Rho → Led → Prop) : List PV → Rho → Led → Prop := fun ps ρ₁ σ₁ => ps.length ≤ 1000000 ∧ Q (.tup ps) ρ₁ σ₁
noncomputable abbrev KLstM (Q : PV → Rho → Led → Prop) : List PV → Rho → Led → Prop := fun ps ρ₁ σ₁ => ps.length ≤ 1000000 ∧ ∀ D, Q (.ref D) ρ₁ ((D, .list ps) :: σ₁)
noncomputable abbrev KLst (Q : PV → Rho → Led → Prop) : List PV → Rho → Led → Prop := fun ps ρ₁ σ₁ => ps.length ≤ 1000000 ∧ Q (.lst ps) ρ₁ σ₁
theorem Ev.tuple {G : Gx} {es : List Expr} {k : Nat} {pos : Pos} {ρ : Rho} {σ : Led} {Q : PV → Rho → Led → Prop} (h : EvL G pos es ρ σ (KTup Q)) : Ev G (.Tuple es k pos) ρ σ Q :=
  fun A bs im s hA hS => Tuple_ (wpAny_mono (h A bs im s hA hS) (fun vs s₁ p => by
    obtain ⟨im₁, r, ρ₁, σ₁, e₁, hr, hS₁, hl, hC⟩ := p
    exact wpAny_mono (newTuple_run hS₁ hr hl hC) (fun _ _ q => q.ext e₁) fun _ _ x => x) fun _ _ x => x)
theorem Ev.listM {G : Gx} {es : List Expr} {pos : Pos} {ρ : Rho} {σ : Led} {Q : PV → Rho → Led → Prop} (h : EvL G pos es ρ σ (KLstM Q)) : Ev G (.List es pos) ρ σ Q :=
  fun A bs im s hA hS => List_ (wpAny_mono (h A bs im s hA hS) (fun vs s₁ p => by
    obtain ⟨im₁, r, ρ₁, σ₁, e₁, hr, hS₁, hl, hC⟩ := p
    refine wpAny_newObj_type ?_ (by show vs.toArray.size ≤ sizeLine; rw [List.size_toArray, VRs.length hr, sizeLine_eq]; walk_at "zo")
    have hS₂ := hS₁.pushLed { cls := .type "list", data := .seq vs.toArray } (.list r) s₁.toks ⟨vs, 0, Heap.get?_push_size _ rfl, hr⟩
    exact ⟨im₁, _, ρ₁, _, e₁, .ref, hS₂, hC _⟩) fun _ _ x => x)
theorem Ev.list {G : Gx} {es : List Expr} {pos : Pos} {ρ : Rho} {σ : Led} {Q : PV → Rho → Led → Prop} (h : EvL G pos es ρ σ (KLst Q)) : Ev G (.List es pos) ρ σ Q :=
  fun A bs im s hA hS => List_ (wpAny_mono (h A bs im s hA hS) (fun vs s₁ p => by
    obtain ⟨im₁, r, ρ₁, σ₁, e₁, hr, hS₁, hl, hC⟩ := p
    refine wpAny_newObj_type ?_ (by show vs.toArray.size ≤ sizeLine; rw [List.size_toArray, VRs.length hr, sizeLine_eq]; walk_at "zo")
    obtain ⟨e, hS'⟩ := hS₁.pushIm { cls := .type "list", data := .seq vs.toArray } rfl s₁.toks
    exact ⟨_, _, ρ₁, σ₁, e₁.trans e, .lst (PM.put_self ..) (hr.mono e.1), hS', hC⟩) fun _ _ x => x)

noncomputable def KwR (im : PM) (kw : List (String × PV)) (kvs : List (Str × Value)) : Prop := kvs.map (·.1) = kw.map (fun p => Str.ofString p.1) ∧ VRs im (kw.map (·.2)) (kvs.map (·.2))
theorem kvs1 {x : Str} {kvs : List (Str × Value)} (h : kvs.map (·.1) = [x]) : ∃ v, kvs = [(x, v)] := by
  cases kvs with
  | nil => cases h
  | cons a t =>
    injection h with h1 h2
    cases t with
    | nil => obtain ⟨k, v⟩ := a; subst h1; exact ⟨v, rfl⟩
    | cons b u => cases h2
theorem len3 {vs : List Value} (h : vs.length = 3) : ∃ a b c, vs = [a, b, c] := by
  cases vs with
  | nil => cases h
  | cons a t => cases t with
    | nil => cases h
    | cons b u => cases u with
      | nil => cases h
      | cons c v => cases v with
        | nil => exact ⟨a, b, c, rfl⟩
        | cons d w => cases h
theorem KwR.nil {im : PM} : KwR im [] [] := ⟨rfl, .nil⟩
noncomputable def Keeps? (M : Model) (h : Heap) (f : Value) : Prop := ∃ k, (k = Keeper.frame ∨ k = Keeper.machine ∨ k = Keeper.boundFrame) ∧ Looks M h (keeperOf f) k
theorem keeps_builtin {M : Model} {h : Heap} {id : String} : Keeps? M h (.builtin id) := ⟨.machine, .inr (.inl rfl), fun _ _ _ _ _ q => wpAny_pure q⟩
theorem keeps_type {M : Model} {h : Heap} {id : String} : Keeps? M h (.type id) := ⟨.machine, .inr (.inl rfl), fun _ _ _ _ _ q => wpAny_pure q⟩
theorem keeps_func {M : Model} {h : Heap} {a : Addr} {o : Obj} {fd : FuncData} (ho : h.get? a = some o) (hd : o.data = .func fd) : Keeps? M h (.ref a) :=
  ⟨.frame, .inl rfl, fun A Q E s k q => by
    unfold keeperOf
    refine wpAny_bind (wpAny_load (k _ _ ho) ?_)
    rw [hd]; exact wpAny_pure q⟩
theorem keeps_rec {M : Model} {h : Heap} {a : Addr} {o : Obj} {vs : Array Value} (ho : h.get? a = some o) (hc : o.cls = .type "builtin_function_or_method") (hd : o.data = .fields vs) : Keeps? M h (.ref a) :=
  ⟨.machine, .inr (.inl rfl), fun A Q E s k q => by
    unfold keeperOf
    refine wpAny_bind (wpAny_load (k _ _ ho) ?_)
    rw [hd, hc]
    exact wpAny_pure q⟩

noncomputable def CallP (G : Gx) (f : PV) (ps : List PV) (kw : List (String × PV)) (ρ : Rho) (σ : Led) (Q : PV → Rho → Led → Prop) : Prop :=
  ∀ A bs im s fv vs kvs, AOk G.n A → St G bs im s ρ σ → VR im f fv → VRs im ps vs → KwR im kw kvs → Keeps? G.C.M s.heap fv ∧ wpAny G.C.M A (call fv vs kvs) (Post G VR bs im Q) Bot s

theorem evalArgs_any {M : Model} {A : Around} {E : Value → Shared → Prop} {s : Shared} {f : Value} {l : List (Bool × Sem Value)} {Q : Args → Shared → Prop} (hst : l.any (·.1) = false)
    (h : wpAny M A (spliced l) (fun vs s' => Q ⟨vs, []⟩ s') E s) : wpAny M A (evalArgs f true l []) Q E s := by
  cases l with
  | nil =>
    unfold evalArgs
    show wpAny M A (spliced [] >>= _) Q E s
    refine wpAny_bind (wpAny_mono h (fun vs s' h' => ?_) fun _ _ x => x)
    exact wpAny_bind (wpAny_pure (wpAny_holding (wpAny_bind (wpAny_pure (wpAny_bind (wpAny_pure (wpAny_pure h')))))))
  | cons a r =>
    obtain ⟨b, t⟩ := a
    rw [List.any_cons, Bool.or_eq_false_iff] at hst
    have hb : b = false := hst.1
    subst hb
    exact evalArgs_plain h
theorem evalArgs_kws {M : Model} {A : Around} {E : Value → Shared → Prop} {s : Shared} {f : Value} {l : List (Bool × Sem Value)} {keywords : List (Option Str × Sem Value)} {Q : Args → Shared → Prop} (hst : l.any (·.1) = false) (hall : keywords.all (·.1.isSome) = true)
    (h : wpAny M A (spliced l) (fun vs s₁ => wpAny M A (evalAll (keywords.map (·.2))) (fun ks s₂ => Q ⟨vs, (keywords.filterMap (·.1)).zip ks⟩ s₂) E s₁) E s) : wpAny M A (evalArgs f true l keywords) Q E s := by
  cases l with
  | nil =>
    unfold evalArgs
    show wpAny M A (spliced [] >>= _) Q E s
    refine wpAny_bind (wpAny_mono h (fun vs s' h' => ?_) fun _ _ x => x)
    refine wpAny_bind (wpAny_pure (wpAny_holding ?_))
    simp only [hall, if_true]
    exact wpAny_bind (wpAny_mono h' (fun ks s₂ h₂ => wpAny_bind (wpAny_pure (wpAny_pure h₂))) fun _ _ x => x)
  | cons a r =>
    obtain ⟨b, t⟩ := a
    rw [List.any_cons, Bool.or_eq_false_iff] at hst
    have hb : b = false := hst.1
    subst hb
    exact evalArgs_kw hall h

noncomputable abbrev KCall (G : Gx) (f : PV) (ps₀ : List PV) (Q : PV → Rho → Led → Prop) : List PV → Rho → Led → Prop := fun ps ρ₁ σ₁ => CallP G f (ps₀ ++ ps) [] ρ₁ σ₁ Q
noncomputable abbrev KCall0 (G : Gx) (f : PV) (Q : PV → Rho → Led → Prop) : List PV → Rho → Led → Prop := fun ps ρ₁ σ₁ => CallP G f ps [] ρ₁ σ₁ Q
noncomputable abbrev KCallK' (G : Gx) (f : PV) (xs : List String) (ps : List PV) (Q : PV → Rho → Led → Prop) : List PV → Rho → Led → Prop := fun kps ρ₂ σ₂ => kps.length = xs.length ∧ CallP G f ps (xs.zip kps) ρ₂ σ₂ Q
noncomputable abbrev KCallK (G : Gx) (pos : Pos) (ks : List Keyword) (f : PV) (xs : List String) (ps₀ : List PV) (Q : PV → Rho → Led → Prop) : List PV → Rho → Led → Prop := fun ps ρ₁ σ₁ => EvK G pos ks ρ₁ σ₁ (KCallK' G f xs (ps₀ ++ ps) Q)
theorem callWith_run {G : Gx} {f : PV} {ps₀ : List PV} {pos pos' : Pos} {args : List Expr} {ρ : Rho} {σ : Led} {Q : PV → Rho → Led → Prop} (h : EvL G pos args ρ σ (fun ps ρ₁ σ₁ => CallP G f (ps₀ ++ ps) [] ρ₁ σ₁ Q))
    (hst : (backTo pos (starEach args G.env)).any (·.1) = false) {A : Around} {bs im : PM} {s : Shared} {fv : Value} {first : List Value} (hA : AOk G.n A) (hS : St G bs im s ρ σ) (hf : VR im f fv) (h0 : VRs im ps₀ first) :
    wpAny G.C.M A (callWith pos' fv first (backTo pos (starEach args G.env)) []) (Post G VR bs im Q) Bot s := by
  refine callWith_of (P := fun h => Keeps? G.C.M h fv) (by rw [hst]; rfl) (fun h k => k) (evalArgs_any hst (wpAny_mono (h A bs im s hA hS) (fun vs s₁ p => ?_) fun _ _ x => x))
  obtain ⟨im₁, r, ρ₁, σ₁, e₁, hr, hS₁, hC⟩ := p
  obtain ⟨k, w⟩ := hC A bs im₁ s₁ fv (first ++ vs) [] hA hS₁ (hf.mono e₁.1) ((h0.mono e₁.1).append hr) .nil
  exact ⟨k, wpAny_mono w (fun _ _ q => q.ext e₁) fun _ _ x => x⟩
theorem callWith_runK {G : Gx} {f : PV} {ps₀ : List PV} {pos pos' : Pos} {args : List Expr} {ks : List Keyword} {ρ : Rho} {σ : Led} {Q : PV → Rho → Led → Prop} (xs : List String)
    (h : EvL G pos args ρ σ (fun ps ρ₁ σ₁ => EvK G pos ks ρ₁ σ₁ (fun kps ρ₂ σ₂ => kps.length = xs.length ∧ CallP G f (ps₀ ++ ps) (xs.zip kps) ρ₂ σ₂ Q)))
    (hst : (backTo pos (starEach args G.env)).any (·.1) = false) (hx : (backToKw pos (keywordEach ks G.env)).map (·.1) = xs.map fun x => some (Str.ofString x)) {A : Around} {bs im : PM} {s : Shared} {fv : Value} {first : List Value} (hA : AOk G.n A) (hS : St G bs im s ρ σ) (hf : VR im f fv) (h0 : VRs im ps₀ first) :
    wpAny G.C.M A (callWith pos' fv first (backTo pos (starEach args G.env)) (backToKw pos (keywordEach ks G.env))) (Post G VR bs im Q) Bot s := by
  have e1 : (backToKw pos (keywordEach ks G.env)).all (·.1.isSome) = true := by
    rw [List.all_eq_true]; intro p hp
    have : p.1 ∈ (backToKw pos (keywordEach ks G.env)).map (·.1) := List.mem_map_of_mem hp
    rw [hx] at this
    obtain ⟨x, _, e⟩ := List.mem_map.mp this
    rw [← e]; rfl
  have e2 : (backToKw pos (keywordEach ks G.env)).any (·.1.isNone) = false := by
    rw [List.any_eq_false]; intro p hp
    have := List.all_eq_true.mp e1 p hp
    cases z : p.1 with
    | none => rw [z] at this; cases this
    | some x => simp
  have e3 : (backToKw pos (keywordEach ks G.env)).filterMap (·.1) = xs.map Str.ofString := by
    have : (backToKw pos (keywordEach ks G.env)).filterMap (·.1) = ((backToKw pos (keywordEach ks G.env)).map (·.1)).filterMap id := by rw [List.filterMap_map]; rfl
    rw [this, hx, List.filterMap_map]
    induction xs with
    | nil => rfl
    | cons x r ih => simp
  refine callWith_of (P := fun h => Keeps? G.C.M h fv) (by rw [hst, e2]; rfl) (fun h k => k) (evalArgs_kws hst e1 (wpAny_mono (h A bs im s hA hS) (fun vs s₁ p => ?_) fun _ _ x => x))
  obtain ⟨im₁, r, ρ₁, σ₁, e₁, hr, hS₁, hC⟩ := p
  refine wpAny_mono (hC A bs im₁ s₁ hA hS₁) (fun ks' s₂ p => ?_) fun _ _ x => x
  obtain ⟨im₂, kps, ρ₂, σ₂, e₂, hkps, hS₂, hlen, hD⟩ := p
  have e12 := e₁.trans e₂
  have hl1 := VRs.length hkps
  have hl2 : (xs.map Str.ofString).length = ks'.length := by rw [List.length_map]; walk_at "zo"
  have hl3 : xs.length = kps.length := by walk_at "zo"
  have hkw : KwR im₂ (xs.zip kps) ((xs.map Str.ofString).zip ks') := by
    refine ⟨?_, ?_⟩
    · rw [List.map_fst_zip (Nat.le_of_eq hl2)]
      rw [show (fun p : String × PV => Str.ofString p.1) = Str.ofString ∘ (·.1) from rfl, ← List.map_map, List.map_fst_zip (Nat.le_of_eq hl3)]
    · rw [List.map_snd_zip (Nat.le_of_eq hl2.symm), List.map_snd_zip (Nat.le_of_eq hl3.symm)]
      exact hkps
  rw [e3]
  obtain ⟨k, w⟩ := hD A bs im₂ s₂ fv (first ++ vs) _ hA hS₂ (hf.mono e12.1) ((h0.mono e12.1).append (VRs.mono e₂.1 _ _ hr)) hkw
  exact ⟨k, wpAny_mono w (fun _ _ q => q.ext e12) fun _ _ x => x⟩

theorem Ev.call {G : Gx} {x : String} {p0 pos : Pos} {args : List Expr} {ρ : Rho} {σ : Led} {Q : PV → Rho → Led → Prop} {f : PV} (hf : (x, f) ∈ ρ)
    (h : EvL G pos args ρ σ (KCall0 G f Q)) (hst : (backTo pos (starEach args G.env)).any (·.1) = false := by rfl) : Ev G (.Call (.Name (Str.ofString x) p0) args [] pos) ρ σ Q := fun A bs im s hA hS => by
  rw [arm_eval_Call_Name']
  obtain ⟨hp, hl⟩ := load_has (A := A) (E := Bot) hS hf (Qv := fun v s₁ => wpAny G.C.M A (callWith pos v [] (backTo pos (starEach args G.env)) []) (Post G VR bs im Q) Bot s₁) (fun v hv => callWith_run (ps₀ := []) h hst hA hS hv .nil)
  exact wpAny_bind (wpAny_Name hl hp.1)

noncomputable def MethP (G : Gx) (p : PV) (name : Str) (f : PV) (first : List PV) (ρ : Rho) (σ : Led) : Prop :=
  ∀ A bs im s v pl (Q : Value × List Value → Shared → Prop), AOk G.n A → St G bs im s ρ σ → VR im p v → (∀ fv fs tk, VR im f fv → VRs im first fs → Q (fv, fs) { s with toks := tk }) → wpAny G.C.M A (getMethod v name pl) Q Bot s
noncomputable abbrev KMeth (G : Gx) (name : Str) (pos : Pos) (args : List Expr) (Q : PV → Rho → Led → Prop) : PV → Rho → Led → Prop := fun p ρ₁ σ₁ => ∃ f first, MethP G p name f first ρ₁ σ₁ ∧ EvL G pos args ρ₁ σ₁ (KCall G f first Q)
noncomputable abbrev KMethK (G : Gx) (name : Str) (pos : Pos) (args : List Expr) (ks : List Keyword) (xs : List String) (Q : PV → Rho → Led → Prop) : PV → Rho → Led → Prop := fun p ρ₁ σ₁ => ∃ f first, MethP G p name f first ρ₁ σ₁ ∧ EvL G pos args ρ₁ σ₁ (KCallK G pos ks f xs first Q)
theorem meth_run {G : Gx} {o : Expr} {name : Str} {apos pos : Pos} {args : List Expr} {ks : List Keyword} {ρ : Rho} {σ : Led} {Q : PV → Rho → Led → Prop} {call : PV → List PV → Rho → Led → Prop}
    (h : Ev G o ρ σ (fun p ρ₁ σ₁ => ∃ f first, MethP G p name f first ρ₁ σ₁ ∧ call f first ρ₁ σ₁))
    (hcall : ∀ f first ρ σ, call f first ρ σ → ∀ {A : Around} {bs im : PM} {s : Shared} {fv : Value} {fs : List Value}, AOk G.n A → St G bs im s ρ σ → VR im f fv → VRs im first fs →
      wpAny G.C.M A (callWith pos fv fs (backTo pos (starEach args G.env)) (backToKw pos (keywordEach ks G.env))) (Post G VR bs im Q) Bot s)
    (hb : attributeBase o name G.env (eval o G.env) = eval o G.env) (hform : methodCallForm (args.length + ks.length) (backTo pos (starEach args G.env)) (backToKw pos (keywordEach ks G.env)) = true)
    (hl : (apos.endLine == pos.line) = true) : Ev G (.Call (.Attribute o name apos) args ks pos) ρ σ Q := fun A bs im s hA hS => by
  show wpAny _ _ (do
    let ov ← attributeBase o name G.env (eval o G.env)
    standAt apos.atName
    methodCall o name apos pos G.env ov (args.length + ks.length) (backTo pos (starEach args G.env)) (backToKw pos (keywordEach ks G.env))) _ _ _
  rw [hb]
  refine wpAny_bind (wpAny_mono (h A bs im s hA hS) (fun ov s₁ p => wpAny_bind (wpAny_standAt ?_)) fun _ _ x => x)
  obtain ⟨im₁, r, ρ₁, σ₁, e₁, hr, hS₁, f, first, hm, hc⟩ := p
  unfold methodCall
  rw [hform]
  refine wpAny_bind (wpAny_holding ?_)
  unfold calleeOf
  rw [if_pos rfl]
  refine wpAny_up (hm A bs im₁ s₁ ov _ _ hA hS₁ hr fun fv fs tk hf hfs htk => ?_)
  dsimp only at htk
  unfold methodCallPos
  rw [hl]
  simp only [Bool.not_true, Bool.false_or, if_true]
  exact wpAny_bind (wpAny_pure (wpAny_mono (hcall f first ρ₁ σ₁ hc hA (hS₁.toks tk) hf hfs) (fun _ _ q => q.ext e₁) fun _ _ x => x))
theorem Ev.meth {G : Gx} {o : Expr} {name : Str} {apos pos : Pos} {args : List Expr} {ρ : Rho} {σ : Led} {Q : PV → Rho → Led → Prop}
    (h : Ev G o ρ σ (KMeth G name pos args Q))
    (hst : (backTo pos (starEach args G.env)).any (·.1) = false := by rfl) (hb : attributeBase o name G.env (eval o G.env) = eval o G.env := by rfl) (hform : methodCallForm (args.length + 0) (backTo pos (starEach args G.env)) [] = true := by rfl)
    (hl : (apos.endLine == pos.line) = true := by rfl) : Ev G (.Call (.Attribute o name apos) args [] pos) ρ σ Q :=
  meth_run (call := fun f first ρ₁ σ₁ => EvL G pos args ρ₁ σ₁ (fun ps ρ₂ σ₂ => CallP G f (first ++ ps) [] ρ₂ σ₂ Q)) h (fun f first ρ σ hc A bs im s fv fs hA hS hf hfs => callWith_run hc hst hA hS hf hfs) hb hform hl
theorem Ev.methK {G : Gx} {o : Expr} {name : Str} {apos pos : Pos} {args : List Expr} {ks : List Keyword} {ρ : Rho} {σ : Led} {Q : PV → Rho → Led → Prop} (xs : List String)
    (h : Ev G o ρ σ (KMethK G name pos args ks xs Q))
    (hst : (backTo pos (starEach args G.env)).any (·.1) = false := by rfl) (hx : (backToKw pos (keywordEach ks G.env)).map (·.1) = xs.map (fun x => some (Str.ofString x)) := by rfl) (hb : attributeBase o name G.env (eval o G.env) = eval o G.env := by rfl)
    (hform : methodCallForm (args.length + ks.length) (backTo pos (starEach args G.env)) (backToKw pos (keywordEach ks G.env)) = true := by rfl)
    (hl : (apos.endLine == pos.line) = true := by rfl) : Ev G (.Call (.Attribute o name apos) args ks pos) ρ σ Q :=
  meth_run (call := fun f first ρ₁ σ₁ => EvL G pos args ρ₁ σ₁ (fun ps ρ₂ σ₂ => EvK G pos ks ρ₂ σ₂ (fun kps ρ₃ σ₃ => kps.length = xs.length ∧ CallP G f (first ++ ps) (xs.zip kps) ρ₃ σ₃ Q))) h (fun f first ρ σ hc A bs im s fv fs hA hS hf hfs => callWith_runK xs hc hst hx hA hS hf hfs) hb hform hl
end Mine.Tactic
end
section
open PySem PySem.W PyProof.Rows PySem.Calls
set_option Elab.async false
set_option maxRecDepth 100000
namespace Mine.Tactic

theorem StL.enter {C : Cx} {bs im : PM} {s : Shared} {σ : Led} (hS : StL C bs im s σ) {scope : Scope} {ns : Names} {cn : List String} {ρg : Rho} (n : Nat) (hk : CompOk scope [] ns cn [] (ρg.map (·.1))) (hg : ∀ p ∈ ρg, p ∈ C.gl) (t : Nat) (ht : s.toks ≤ t := by first | exact Nat.le_refl _ | exact Nat.le_succ _ | assumption | walk_at "zo") :
    ∃ κ' bs', (∀ env' : Env, env'.scope = scope → env'.locals = s.heap.objs.size → env'.globals = mainGlobals → env'.builtins = builtinsNs → env'.cells = cellsFrom (s.heap.objs.size + 1) scope.names [] →
      St ⟨C, env', κ', ns, cn, n⟩ bs' im { s with heap := pushCells (s.heap.push { cls := .type "frame", data := .dict #[] }) scope.names, toks := t } ρg σ) ∧
      (∀ b o, s.heap.get? b = some o → b ∉ σ.map (·.1) → bs'.f b = some o) := by
  have hn := get?_size_none s.heap
  generalize hC : s.heap.objs.size = L at *
  let κ' := cellsFrom (L + 1) scope.names []
  let h₁ := s.heap.push { cls := .type "frame", data := .dict #[] }
  let h₂ := pushCells h₁ scope.names
  have hk₁ : ∀ b o, s.heap.get? b = some o → h₁.get? b = some o := fun b o e => Heap.get?_push_of_some _ e
  have hk₂ : ∀ b o, s.heap.get? b = some o → h₂.get? b = some o := fun b o e => pushCells_keeps _ _ b o (hk₁ b o e)
  have hsz : h₁.objs.size = L + 1 := by rw [← hC]; exact Heap.size_push ..
  have cok := cellsFrom_ok scope.names h₁ (L + 1) [] ⟨fun _ _ hm => (nomatch hm), List.Pairwise.nil⟩ (by rw [hsz]; exact Nat.le_refl _)
  rw [hsz] at cok
  have fresh : ∀ a, L ≤ a → s.heap.get? a = none := fun a ha => by
    cases e : s.heap.get? a with
    | none => rfl
    | some o => have := Heap.lt_size e; rw [hC] at this; exact absurd this (Nat.not_lt.mpr ha)
  have κge : ∀ p ∈ κ', L + 1 ≤ p.2 ∧ (p.1, NameKind.cell) ∈ scope.names := fun p hp => cellsFrom_ge _ _ p hp
  have κnd : (κ'.map (·.1)).Nodup := cellsFrom_keys _ _ hk.nd
  let hid : List Addr := L :: κ'.map (·.2) ++ σ.map (·.1)
  let bs' : PM := ⟨fun b => if b ∈ hid then none else h₂.get? b, 0⟩
  have nhid : ∀ b o, s.heap.get? b = some o → b ∉ σ.map (·.1) → b ∉ hid := fun b o e hb hm => by
    rcases List.mem_append.mp hm with hm | hm
    · rcases List.mem_cons.mp hm with q | hm
      · rw [q, hn] at e; cases e
      · obtain ⟨p, hp, q⟩ := List.mem_map.mp hm
        rw [← q, fresh p.2 (Nat.le_of_succ_le (κge p hp).1)] at e; cases e
    · exact hb hm
  have hbs' : ∀ b o, s.heap.get? b = some o → b ∉ σ.map (·.1) → bs'.f b = some o := fun b o e hb => by
    show (if b ∈ hid then none else h₂.get? b) = _
    rw [if_neg (nhid b o e hb)]; exact hk₂ b o e
  have hidn : ∀ b, b ∈ hid → bs'.f b = none := fun b hb => by show (if b ∈ hid then none else h₂.get? b) = _; rw [if_pos hb]
  have inσ : ∀ b, b ∈ σ.map (·.1) → b ∈ hid := fun b hb => List.mem_append_right _ hb
  refine ⟨κ', bs', fun env' hs hl hgl hbi hce => ⟨⟨hS.os, hS.gens, fun a o e => ?_, fun b o e => ?_, fun b o e => hk₂ b o (hS.him b o e), fun p hp => ?_, hS.nd, hS.gok, Nat.le_trans hS.tk ht⟩,
    ⟨⟨fun _ => none, ?_, fun p hp => ?_⟩, hk.rn, hidn _ ?_, (by show im.f env'.locals = none; rw [hl]; exact hS.im_none hn), (by show env'.locals ∉ _; rw [hl]; exact hS.led_some hn), fun p hp => ?_, pushCells_apart _ _, fun x a hx => ?_, ?_, hgl, hbi, fun p hp => ?_, fun p hp hp2 => ?_, fun y hy => ?_⟩⟩, hbs'⟩
  · have := hS.cb a o e
    exact hbs' a o (hS.hbs _ _ this) fun hm => by rw [(hS.ledNe hm).1] at this; cases this
  · have e' : (if b ∈ hid then none else h₂.get? b) = some o := e
    split at e'
    · cases e'
    · exact e'
  · obtain ⟨a, b, d⟩ := hS.led p hp
    exact ⟨a.at fun o e => hk₂ _ o e, hidn _ (inσ _ (mem_map_fst hp)), d⟩
  · have := (Heap.Ns.new s.heap (.type "frame")).keeps (pushCells_keeps scope.names h₁)
    rw [hC, ← hl] at this; exact this
  · obtain ⟨hpn, v, hv, hgl⟩ := hS.gok p (hg p hp)
    refine ⟨v, hv im, hpn, .glob ?_ hgl⟩
    show env'.scope.names.lookup _ = _
    rw [hs]; exact hk.hrg p.1 (List.mem_map_of_mem hp)
  · show env'.locals ∈ hid
    rw [hl]; exact .head _
  · obtain ⟨h1, h2⟩ := cok.empty p.1 p.2 hp
    refine ⟨⟨_, h1⟩, hidn _ (List.mem_append_left _ (.tail _ (List.mem_map_of_mem hp))), hS.im_none (fresh _ (Nat.le_of_succ_le h2)), hS.led_some (fresh _ (Nat.le_of_succ_le h2)), ?_⟩
    show env'.cells.lookup _ = _
    rw [hce]; exact lookup_of_mem κnd hp
  · have hx' : env'.cells.lookup x = some a := hx
    rw [hce] at hx'
    exact .inl (mem_of_lookup hx')
  · show env'.scope.kind = _
    rw [hs]; exact hk.kind
  · obtain ⟨a, b, d⟩ := hk.hns p hp
    refine ⟨?_, d⟩
    show env'.scope.names.lookup _ = _
    rw [hs]; exact a
  · obtain ⟨a, b, d⟩ := hk.hns p hp
    rw [hp2] at a
    exact cellsFrom_mem _ _ _ (mem_of_lookup a)
  · rcases hk.hcn y hy with h | h
    · obtain ⟨z, hz, _⟩ := hk.caps _ (mem_of_lookup h)
      cases hz
    · refine ⟨.inl (by show env'.scope.names.lookup _ = _; rw [hs]; exact h), ?_⟩
      obtain ⟨a, ha⟩ := cellsFrom_mem scope.names (L + 1) _ (mem_of_lookup h)
      show ∃ c, env'.cells.lookup _ = _
      rw [hce, lookup_of_mem κnd ha]
      exact ⟨_, rfl⟩

noncomputable def FnSpec (C : Cx) (n : Nat) (f : PV) (ps : List PV) (kw : List (String × PV)) (σ : Led) (Q : PV → Led → Prop) : Prop :=
  ∀ A bs im s fv vs kvs, AOk n A → StL C bs im s σ → VR im f fv → VRs im ps vs → KwR im kw kvs →
    Keeps? C.M s.heap fv ∧ codeAny C.M A (.call fv ⟨vs, kvs⟩) (fun r s' => ∃ v, r = .ok (.ret v) ∧ ∃ im' p σ', Ext bs im im' ∧ VR im' p v ∧ StL C bs im' s' σ' ∧ Q p σ') s
theorem FnSpec.call {C : Cx} {n : Nat} {f : PV} {ps : List PV} {kw : List (String × PV)} {σ : Led} {Q : PV → Led → Prop} (h : FnSpec C n f ps kw σ Q) {A : Around} {bs im : PM} {s : Shared} {fv : Value} {vs : List Value} {kvs : List (Str × Value)}
    (hA : AOk n A) (hS : StL C bs im s σ) (hf : VR im f fv) (hv : VRs im ps vs) (hk : KwR im kw kvs) : Keeps? C.M s.heap fv ∧ wpAny C.M A (call fv vs kvs) (fun v s' => ∃ im' p σ', Ext bs im im' ∧ VR im' p v ∧ StL C bs im' s' σ' ∧ Q p σ') Bot s := by
  obtain ⟨a, b⟩ := h A bs im s fv vs kvs hA hS hf hv hk
  refine ⟨a, wpAny_call (codeAny_mono b fun r s' z => ?_)⟩
  obtain ⟨v, rfl, z⟩ := z
  exact z

theorem FnSpec.mono {C : Cx} {n : Nat} {f : PV} {ps : List PV} {kw : List (String × PV)} {σ : Led} {Q Q' : PV → Led → Prop} (h : FnSpec C n f ps kw σ Q) (k : ∀ p σ, Q p σ → Q' p σ) : FnSpec C n f ps kw σ Q' :=
  fun A bs im s fv vs kvs hA hS hf hv hk => let ⟨a, b⟩ := h A bs im s fv vs kvs hA hS hf hv hk; ⟨a, codeAny_mono b fun _ _ ⟨v, e, im', p, σ', x, y, z, q⟩ => ⟨v, e, im', p, σ', x, y, z, k _ _ q⟩⟩
theorem FnSpec.more {C : Cx} {n m : Nat} {f : PV} {ps : List PV} {kw : List (String × PV)} {σ : Led} {Q : PV → Led → Prop} (h : FnSpec C n f ps kw σ Q) (hm : n ≤ m) : FnSpec C m f ps kw σ Q :=
  fun A bs im s fv vs kvs hA => h A bs im s fv vs kvs (hA.mono hm)

theorem CallP.of {G : Gx} {f : PV} {ps : List PV} {kw : List (String × PV)} {ρ : Rho} {σ σ₁ φ : Led} {Q : PV → Rho → Led → Prop} {Q' : PV → Led → Prop} (h : FnSpec G.C G.n f ps kw σ₁ Q') (hsub : ∀ p ∈ φ ++ σ₁, p ∈ σ) (hnd : ((φ ++ σ₁).map (·.1)).Nodup ∨ φ ++ σ₁ = σ)
    (k : ∀ p σ', Q' p σ' → Q p ρ (φ ++ σ')) : CallP G f ps kw ρ σ Q := fun A bs im s fv vs kvs hA hS₀ hf hv hk => by
  have hnd' : ((φ ++ σ₁).map (·.1)).Nodup := hnd.elim id fun e => e ▸ hS₀.l.nd
  have hS : St G bs im s ρ (φ ++ σ₁) := hS₀.sub hsub hnd'
  have sub₁ : ∀ p ∈ σ₁, p ∈ φ ++ σ₁ := fun p hp => List.mem_append_right _ hp
  have nd₁ : (σ₁.map (·.1)).Nodup := by rw [List.map_append] at hnd'; exact (List.nodup_append.mp hnd').2.1
  have core : ∀ bs, St G bs im s ρ σ₁ → Keeps? G.C.M s.heap fv ∧ wpAny G.C.M A (call fv vs kvs) (Post G VR bs im (fun p ρ' σ' => ρ' = ρ ∧ Q' p σ')) Bot s := fun bs hS => by
    let bs' : PM := ⟨fun b => if b ∈ σ₁.map (·.1) then none else s.heap.get? b, 0⟩
    have hb : ∀ b o, s.heap.get? b = some o → ¬ b ∈ σ₁.map (·.1) → bs'.f b = some o := fun b o e q => by show (if b ∈ σ₁.map (·.1) then none else s.heap.get? b) = _; rw [if_neg q]; exact e
    have nb : ∀ b o, bs.f b = some o → ¬ b ∈ σ₁.map (·.1) := fun b o e q => by rw [(hS.l.ledNe q).1] at e; cases e
    have L : StL G.C bs' im s σ₁ := by
      refine ⟨hS.l.os, hS.l.gens, fun a o e => ?_, fun b o e => ?_, hS.l.him, fun p hp => ?_, hS.l.nd, hS.l.gok, hS.l.tk⟩
      · exact hb a o (hS.l.hbs _ _ (hS.l.cb a o e)) (nb _ _ (hS.l.cb a o e))
      · have e' : (if b ∈ σ₁.map (·.1) then none else s.heap.get? b) = some o := e
        split at e'
        · cases e'
        · exact e'
      · obtain ⟨a, _, c⟩ := hS.l.led p hp
        refine ⟨a, ?_, c⟩
        show (if p.1 ∈ σ₁.map (·.1) then none else s.heap.get? p.1) = _
        rw [if_pos (mem_map_fst hp)]
    obtain ⟨w1, w2⟩ := h.call hA L hf hv hk
    refine ⟨w1, wpAny_mono w2 (fun v s' hqx => ?_) fun _ _ e => e⟩
    obtain ⟨im', p, σ', e, hp, hL, hq⟩ := hqx
    obtain ⟨B1, B2⟩ := hS.back (fun b => b ∈ σ₁.map (·.1)) hL e hb fun b q => .inl q
    exact ⟨im', p, ρ, σ', B2, hp, B1, rfl, hq⟩
  refine ⟨(core bs (hS.sub sub₁ nd₁)).1, ?_⟩
  refine wpAny_mono (hS.frame fun bs' hS' => (core bs' hS').2) (fun v s' hqx => ?_) fun _ _ e => e
  obtain ⟨im', p, ρ', σ', e, hp, hS', hρ, hq⟩ := hqx
  subst hρ
  exact ⟨im', p, _, _, e, hp, hS', k _ _ hq⟩

structure FnAt (C : Cx) (a : Addr) (fd : FuncData) : Prop where
  obj : ∃ o, C.base.f a = some o ∧ o.data = .func fd
  code : ∀ h : Heap, (∀ b o, C.base.f b = some o → h.get? b = some o) → h.NoLimit ∧ h.CodeRec fd.code fd.qualname

theorem setR_end {x : String} {p : PV} : ∀ {ρ : Rho}, x ∉ ρ.map (·.1) → SetR x p ρ (ρ ++ [(x, p)])
  | [], _ => .nil
  | q :: r, h => by
    rw [List.map_cons, List.mem_cons, not_or] at h
    exact .tail (Ne.symm h.1) (setR_end h.2)

theorem layParams {G : Gx} {A : Around} {bs : PM} {σ : Led} : ∀ (params : List (String × PV)) (vals : List Value) {im : PM} {s : Shared} {ρ : Rho} {Q : PUnit → Shared → Prop}, AOk G.n A → St G bs im s ρ σ → VRs im (params.map (·.2)) vals →
    (∀ p ∈ params, (p.1, NameKind.local) ∈ G.ns ∨ (p.1, NameKind.cell) ∈ G.ns) → ((ρ ++ params).map (·.1)).Nodup →
    (∀ im' s', Ext bs im im' → St G bs im' s' (ρ ++ params) σ → Q () s') → wpAny G.C.M A (forIn ((params.map fun p => Str.ofString p.1).zip vals) PUnit.unit fun (p : Str × Value) (_ : PUnit) => do storeName G.env p.1 p.2; pure (ForInStep.yield PUnit.unit)) Q Bot s
  | [], vals, im, s, ρ, Q, hA, hS, hv, hns, hnd, h => by
    rw [show (([] : List (String × PV)).map fun p => Str.ofString p.1).zip vals = [] from rfl, List.forIn_nil]
    rw [List.append_nil] at h
    exact wpAny_pure (h im s .refl hS)
  | (x, p) :: r, vals, im, s, ρ, Q, hA, hS, hv, hns, hnd, h => by
    obtain ⟨v, vs', rfl, hp, hr⟩ := VRs.cons_inv hv
    rw [List.map_cons, List.zip_cons_cons, List.forIn_cons]
    have hx : x ∉ ρ.map (·.1) := fun q => by
      rw [List.map_append, List.map_cons] at hnd
      exact (List.nodup_append.mp hnd).2.2 x q x (.head _) rfl
    have st : Con G VR p (fun v => storeName G.env (Str.ofString x) v) relU ρ σ (fun _ ρ' σ' => ρ' = ρ ++ [(x, p)] ∧ σ' = σ) := by
      rcases hns (x, p) (.head _) with q | q
      · exact store_con q (setR_end hx) ⟨rfl, rfl⟩
      · exact storeC_con q (setR_end hx) ⟨rfl, rfl⟩
    refine wpAny_bind (wpAny_bind (wpAny_mono (st A bs im s v hA hS hp) (fun _ s₁ ⟨im₁, _, ρ₁, σ₁, e₁, _, hS₁, hρ, hσ⟩ => wpAny_pure ?_) fun _ _ e => e))
    subst hρ; subst hσ
    have e2 : ρ ++ [(x, p)] ++ r = ρ ++ (x, p) :: r := by simp
    exact layParams r vs' hA hS₁ (hr.mono e₁.1) (fun q hq => hns q (.tail _ hq)) (by rw [e2]; exact hnd) fun im' s' e' hS' => h im' s' (e₁.trans e') (by rw [← e2]; exact hS')

noncomputable def fnOk (sc : Scope) (params : List String) (ns : Names) (cn : List String) (rg : List String) : Bool :=
  compOk sc [] ns cn [] rg && (params.all fun x => ns.any fun p => p.1 == x && (p.2 == .local || p.2 == .cell)) && decide (rg ++ params).Nodup && !sc.isCoroutine && !sc.isGenerator

theorem FnSpec.ofG {C : Cx} {n : Nat} {a : Addr} {fd : FuncData} {body : List Stmt} {ps : List PV} {kw : List (String × PV)} {σ₀ : Led} {Q : PV → Led → Prop} (R : List PV → Led → Prop) (xs : List String) (ns : Names) (cn : List String) (ρg : Rho)
    {sc : Scope} (hf : FnAt C a fd) (hbody : fd.body = .stmts body) (hsc : fd.scope = sc) (hgl : fd.globals = mainGlobals) (hbi : fd.builtins = builtinsNs) (hcl : fd.closure = []) (hok : fnOk sc xs ns cn (ρg.map (·.1)) = true) (hg : ∀ p ∈ ρg, p ∈ C.gl)
    (hbind : ∀ (bs im : PM) (s : Shared) (vs : List Value) (kvs : List (Str × Value)), StL C bs im s σ₀ → VRs im ps vs → KwR im kw kvs → ∀ (M : Model) (A : Around) (E : Value → Shared → Prop) (Q' : List (Str × Value) → Shared → Prop),
      (∀ im₁ s₁ vals pv σ₁, R pv σ₁ → xs.length = pv.length → Ext bs im im₁ → StL C bs im₁ s₁ σ₁ → VRs im₁ pv vals → Q' ((xs.map Str.ofString).zip vals) s₁) → wpAny M A (bindArgs fd ⟨vs, kvs⟩) Q' E s)
    (h : ∀ env κ pv σ, env.code = fd.code → R pv σ → Ex ⟨C, env, κ, ns, cn, n⟩ body (ρg ++ xs.zip pv) σ (fun fl _ σ' => match fl with | .ret p => Q p σ' | .next => Q .none σ' | _ => False)) : FnSpec C (n + 1) (.ref a) ps kw σ₀ Q := fun A bs im₀ s₀ fv vs kvs hA hS₀ hfv hv hk => by
  have efv := VR.ref_i hfv
  subst efv
  obtain ⟨o, ho, hd⟩ := hf.obj
  have hbase : ∀ b o, C.base.f b = some o → s₀.heap.get? b = some o := fun b o e => hS₀.hbs _ _ (hS₀.cb _ _ e)
  have ho' := hbase _ _ ho
  obtain ⟨hlim, hcd⟩ := hf.code s₀.heap hbase
  unfold fnOk at hok
  subst hsc
  simp only [Bool.and_eq_true, Bool.not_eq_true', beq_iff_eq, List.all_eq_true, List.any_eq_true, Bool.or_eq_true, decide_eq_true_eq] at hok
  obtain ⟨⟨⟨⟨hck, hpar⟩, hnd⟩, hco⟩, hge⟩ := hok
  have hck := compOk_iff hck
  refine ⟨keeps_func ho' hd, ?_⟩
  refine codeAny_call_function (by have := hA.2.1; show A.depth < 1000; walk_at "zo") ho' hd hco hge hbody hcd (hbind bs im₀ s₀ vs kvs hS₀ hv hk _ _ _ _ fun im s vals pv σ hR hlen e₀ hS hvals => ?_)
  have hz : (xs.zip pv).map (·.1) = xs := List.map_fst_zip (Nat.le_of_eq hlen)
  have hz2 : (xs.zip pv).map (·.2) = pv := List.map_snd_zip (Nat.le_of_eq hlen.symm)
  simp only [newFunctionEnv, Option.isSome_none, Bool.false_eq_true, if_false]
  refine wpAny_bind (wpAny_alloc ?_)
  refine wpAny_bind (wpAny_layCells _ (fun name kind cells => by cases hkc : kind == NameKind.cell <;> simp [hkc]) _ _ _ _ ?_)
  rw [show ({ s with heap := s.heap.push { cls := .type "frame", data := .dict #[] } } : Shared).heap.objs.size = s.heap.objs.size + 1 from Heap.size_push .., hcl]
  generalize henv : ({ scope := fd.scope, locals := s.heap.objs.size, globals := fd.globals, cells := cellsFrom (s.heap.objs.size + 1) fd.scope.names [], qual := fd.qualname ++ ".<locals>.", func := some a, code := fd.code, frame := some s.heap.objs.size, builtins := fd.builtins } : Env) = env
  obtain ⟨κ', bs', hent, hbs'⟩ := hS.enter n hck hg s.toks
  have hS₁ := hent env (by rw [← henv]) (by rw [← henv]) (by rw [← henv]; exact hgl) (by rw [← henv]; exact hbi) (by rw [← henv])
  have sub : ∀ b o, bs.f b = some o → bs'.f b = some o := fun b o e => hbs' b o (hS.hbs _ _ e) fun q => by rw [(hS.ledNe q).1] at e; cases e
  have hA1 : AOk n A.in1 := hA.in1
  have ezip : (xs.map Str.ofString).zip vals = ((xs.zip pv).map fun p => Str.ofString p.1).zip vals := by
    rw [show ((xs.zip pv).map fun p => Str.ofString p.1) = ((xs.zip pv).map (·.1)).map Str.ofString by rw [List.map_map]; rfl, hz]
  rw [ezip]
  have hbot : ∀ {α : Type} {t : Sem α} {Q' : α → Shared → Prop} {E : Value → Shared → Prop} {s : Shared}, wpAny C.M A.in1 t Q' Bot s → wpAny C.M A.in1 t Q' E s := fun h => wpAny_mono h (fun _ _ x => x) fun _ _ e => e.elim
  refine wpAny_bind (hbot (layParams (G := ⟨C, env, κ', ns, cn, n⟩) (xs.zip pv) vals hA1 hS₁ (by rw [hz2]; exact hvals) (fun p hp => ?_) ?_ fun im' s' e' hS' => wpAny_pure ⟨?_, codeAny_func ?_⟩))
  · have : p.1 ∈ xs := by rw [← hz]; exact List.mem_map_of_mem hp
    obtain ⟨q, hq, e1, e2⟩ := hpar _ this
    obtain ⟨q1, q2⟩ := q
    cases e1
    rcases e2 with e2 | e2
    · cases e2; exact .inl hq
    · cases e2; exact .inr hq
  · rw [List.map_append, hz]; exact hnd
  · exact (hf.code _ fun b o e => hS'.l.hbs _ _ (hS'.l.cb _ _ e)).1
  · refine wpAny_mono (h env κ' pv σ (by rw [← henv]) hR (A.deeper env) bs' im' s' (hA.deeper env) hS') (fun fl s'' hqx => ?_) fun _ _ e => e.elim
    obtain ⟨im'', r, ρ'', σ'', e'', hr, hS'', hq⟩ := hqx
    have E := e₀.trans ((e'.trans e'').under sub)
    have L : StL C bs im'' s'' σ'' := ⟨hS''.l.os, hS''.l.gens, hS.cb, fun b o e => hS''.l.hbs _ _ (sub b o e), hS''.l.him, fun p hp => let ⟨x, y, z⟩ := hS''.l.led p hp; ⟨x, (by cases q : bs.f p.1 with | none => rfl | some o => (rw [sub _ _ q] at y; cases y)), z⟩, hS''.l.nd, hS''.l.gok, hS''.l.tk⟩
    cases r with
    | next => cases hr; exact ⟨_, rfl, im'', .none, σ'', E, .none, L, hq⟩
    | ret p => obtain ⟨v, rfl, hv⟩ := hr; exact ⟨_, rfl, im'', p, σ'', E, hv, L, hq⟩
    | brk => exact hq.elim
    | cont => exact hq.elim
theorem FnSpec.ofC {C : Cx} {n : Nat} {a : Addr} {fd : FuncData} {body : List Stmt} {ps : List PV} {kw : List (String × PV)} {σ : Led} {Q : PV → Led → Prop} (xs : List String) (pv : List PV) (ns : Names) (cn : List String) (ρg : Rho)
    {sc : Scope} (hf : FnAt C a fd) (hbody : fd.body = .stmts body) (hsc : fd.scope = sc) (hgl : fd.globals = mainGlobals) (hbi : fd.builtins = builtinsNs) (hcl : fd.closure = []) (hok : fnOk sc xs ns cn (ρg.map (·.1)) = true) (hg : ∀ p ∈ ρg, p ∈ C.gl) (hlen : xs.length = pv.length)
    (hbind : ∀ (im : PM) (s : Shared) (vs : List Value) (kvs : List (Str × Value)), (∀ b o, C.base.f b = some o → s.heap.get? b = some o) → VRs im ps vs → KwR im kw kvs → ∃ vals, VRs im pv vals ∧ BindsTo s fd ⟨vs, kvs⟩ ((xs.map Str.ofString).zip vals))
    (h : ∀ env κ, env.code = fd.code → Ex ⟨C, env, κ, ns, cn, n⟩ body (ρg ++ xs.zip pv) σ (fun fl _ σ' => match fl with | .ret p => Q p σ' | .next => Q .none σ' | _ => False)) : FnSpec C (n + 1) (.ref a) ps kw σ Q :=
  FnSpec.ofG (fun p s => p = pv ∧ s = σ) xs ns cn ρg hf hbody hsc hgl hbi hcl hok hg
    (fun bs im s vs kvs hS hv hk M A E Q' hQ => let ⟨vals, h1, h2⟩ := hbind im s vs kvs (fun b o e => hS.hbs _ _ (hS.cb _ _ e)) hv hk; h2 _ _ _ _ (hQ im s vals pv σ ⟨rfl, rfl⟩ hlen .refl hS h1))
    (fun env κ pv' σ' hc ⟨e1, e2⟩ => by subst e1 e2; exact h env κ hc)
theorem FnSpec.of {C : Cx} {n : Nat} {a : Addr} {fd : FuncData} {body : List Stmt} {ps : List PV} {kw : List (String × PV)} {σ : Led} {Q : PV → Led → Prop} (xs : List String) (pv : List PV) (ns : Names) (cn : List String) (ρg : Rho)
    {sc : Scope} (hf : FnAt C a fd) (hbody : fd.body = .stmts body) (hsc : fd.scope = sc) (hgl : fd.globals = mainGlobals) (hbi : fd.builtins = builtinsNs) (hcl : fd.closure = []) (hok : fnOk sc xs ns cn (ρg.map (·.1)) = true) (hg : ∀ p ∈ ρg, p ∈ C.gl) (hlen : xs.length = pv.length)
    (hbind : ∀ (im : PM) (s : Shared) (vs : List Value) (kvs : List (Str × Value)), (∀ b o, C.base.f b = some o → s.heap.get? b = some o) → VRs im ps vs → KwR im kw kvs → ∃ vals, VRs im pv vals ∧ BindsTo s fd ⟨vs, kvs⟩ ((xs.map Str.ofString).zip vals))
    (h : ∀ env κ, Ex ⟨C, env, κ, ns, cn, n⟩ body (ρg ++ xs.zip pv) σ (fun fl _ σ' => match fl with | .ret p => Q p σ' | .next => Q .none σ' | _ => False)) : FnSpec C (n + 1) (.ref a) ps kw σ Q :=
  FnSpec.ofC xs pv ns cn ρg hf hbody hsc hgl hbi hcl hok hg hlen hbind fun env κ _ => h env κ
end Mine.Tactic
end
section
open PySem PySem.W PyProof.Rows PySem.Calls
set_option Elab.async false
set_option maxRecDepth 100000
namespace Mine.Tactic

noncomputable abbrev S (l : List Nat) : Str := ⟨l.toArray⟩
theorem S_len (l : List Nat) : (S l).length = l.length := by show l.toArray.size = _; simp
theorem S_app (l m : List Nat) : S l ++ S m = S (l ++ m) := by show (⟨l.toArray ++ m.toArray⟩ : Str) = ⟨(l ++ m).toArray⟩; simp

section
variable {G : Gx} {ρ : Rho} {σ : Led} {Q : PV → Rho → Led → Prop}

theorem Op2.lib {f : Value → Value → Sem Value} {a b r : PV} (h : Q r ρ σ)
    (hp : ∀ (A : Around) (im : PM) (s : Shared) (v w : Value) (Qv : Value → Shared → Prop), AOk G.n A → (∀ x o, im.f x = some o → s.heap.get? x = some o) → VR im a v → VR im b w → (∀ v' tk, VR im r v' → Qv v' { s with toks := tk }) → wpAny G.C.M A (f v w) Qv Bot s) : Op2 G f a b ρ σ Q :=
  fun A bs im s v w hA hS hv hw => wpAny_up (hp A im s v w _ hA hS.l.him hv hw fun v' tk hr htk => .now (hS.toks tk) hr h)

theorem op_int {op : Operator} {a b c : Int} (h : Q (.int c) ρ σ) (hp : ∀ (prog : Program) (w : World) (A : Around) (E : Value → Shared → Prop) (s : Shared) (t u : Tok) (Qv : Value → Shared → Prop), (∀ t' tk, Qv (.int c t') { s with toks := tk }) → wpAny (model prog w) A (binaryOp op (.int a t) (.int b u)) Qv E s) :
    Op2 G (binaryOp op) (.int a) (.int b) ρ σ Q := .lib h fun A im s v w Qv hA hI hv hw k => by
  obtain ⟨t, rfl⟩ := hv.int_i
  obtain ⟨u, rfl⟩ := hw.int_i
  exact hp _ _ _ _ _ _ _ _ fun t' tk => k _ _ .int
theorem Op2.add {a b : Int} (h : Q (.int (a + b)) ρ σ) : Op2 G (binaryOp .Add) (.int a) (.int b) ρ σ Q := op_int h fun _ _ _ _ _ _ _ _ k => add_int (k _ _)
theorem Op2.sub {a b : Int} (h : Q (.int (a - b)) ρ σ) : Op2 G (binaryOp .Sub) (.int a) (.int b) ρ σ Q := op_int h fun _ _ _ _ _ _ _ _ k => sub_int (k _ _)
theorem Op2.mul {a b : Int} (h : Q (.int (a * b)) ρ σ) (hm : IntMulOk a b := by mul_fits) : Op2 G (binaryOp .Mult) (.int a) (.int b) ρ σ Q := op_int h fun _ _ _ _ _ _ _ _ k => mul_int (k _ _) hm
theorem Op2.fdiv {a b : Int} (hb : 0 < b) (hb2 : b < 1073741824) (h : Q (.int (a / b)) ρ σ) : Op2 G (binaryOp .FloorDiv) (.int a) (.int b) ρ σ Q := op_int h fun _ _ _ _ _ _ _ _ k =>
  floordiv_int (by walk_at "zo") (by rw [Int.fdiv_eq_ediv_of_nonneg _ (by walk_at "zo")]; exact k _ _) (.inl (PyProof.noPylong_small (by walk_at "zo")))
theorem Op2.fmod {a b : Int} (hb : 0 < b) (h : Q (.int (a % b)) ρ σ) : Op2 G (binaryOp .Mod) (.int a) (.int b) ρ σ Q := op_int h fun _ _ _ _ _ _ _ _ k =>
  mod_int (by walk_at "zo") (by rw [Int.fmod_eq_emod_of_nonneg _ (by walk_at "zo")]; exact k _ _)
theorem Op2.pow {a n : Int} (hn : 0 ≤ n) (hsz : (Builtin.Int.intBits a : Int) * n ≤ 2 ^ 27) (h : Q (.int (a ^ n.toNat)) ρ σ) : Op2 G (binaryOp .Pow) (.int a) (.int n) ρ σ Q := op_int h fun _ _ _ _ _ _ _ _ k => pow_int hn hsz (k _ _)
theorem Op2.shr {a n : Int} (hn : 0 ≤ n) (h : Q (.int (a / (2 ^ n.toNat))) ρ σ) : Op2 G (binaryOp .RShift) (.int a) (.int n) ρ σ Q := op_int h fun _ _ _ _ _ _ _ _ k =>
  rshift_int hn (by rw [Int.fdiv_eq_ediv_of_nonneg _ (Int.le_of_lt (Int.pow_pos (by walk_at "zo")))]; exact k _ _)

theorem cmp_int {op : CmpOp} {a b : Int} {c : Bool} (h : Q (.bool c) ρ σ) (hp : ∀ (prog : Program) (w : World) (A : Around) (E : Value → Shared → Prop) (s : Shared) (t u : Tok) (Qv : Value → Shared → Prop), Qv (.bool c) s → wpAny (model prog w) A (compareOp op (.int a t) (.int b u)) Qv E s) :
    Op2 G (compareOp op) (.int a) (.int b) ρ σ Q := .lib h fun A im s v w Qv hA hI hv hw k => by
  obtain ⟨t, rfl⟩ := hv.int_i
  obtain ⟨u, rfl⟩ := hw.int_i
  exact hp _ _ _ _ _ _ _ _ (k _ s.toks .bool)
theorem Op2.lt {a b : Int} (h : Q (.bool (decide (a < b))) ρ σ) : Op2 G (compareOp .Lt) (.int a) (.int b) ρ σ Q := cmp_int h fun _ _ _ _ _ _ _ _ k => lt_int k
theorem Op2.gt {a b : Int} (h : Q (.bool (decide (b < a))) ρ σ) : Op2 G (compareOp .Gt) (.int a) (.int b) ρ σ Q := cmp_int h fun _ _ _ _ _ _ _ _ k => gt_int k
theorem Op2.ge {a b : Int} (h : Q (.bool (decide (b ≤ a))) ρ σ) : Op2 G (compareOp .GtE) (.int a) (.int b) ρ σ Q := cmp_int h fun _ _ _ _ _ _ _ _ k => ge_int k
theorem Op2.eq {a b : Int} (h : Q (.bool (a == b)) ρ σ) : Op2 G (compareOp .Eq) (.int a) (.int b) ρ σ Q := cmp_int h fun _ _ _ _ _ _ _ _ k => eq_int k
theorem Op2.ne {a b : Int} (h : Q (.bool (a != b)) ρ σ) : Op2 G (compareOp .NotEq) (.int a) (.int b) ρ σ Q := cmp_int h fun _ _ _ _ _ _ _ _ k => ne_int k
theorem Op1.neg {a : Int} (h : Q (.int (-a)) ρ σ) : Op1 G (unaryOp .USub) (.int a) ρ σ Q := fun A bs im s v hA hS hv => by
  obtain ⟨t, rfl⟩ := hv.int_i
  exact neg_int (.now (hS.toks _) .int h)

theorem S_beq (l m : List Nat) : (S l == S m) = (l == m) := by
  rw [Bool.eq_iff_iff, beq_iff_eq, beq_iff_eq]
  exact ⟨fun e => by injection e with e; simpa using congrArg Array.toList e, fun e => by rw [e]⟩
theorem Op2.eqS {l m : List Nat} (h : Q (.bool (l == m)) ρ σ) : Op2 G (compareOp .Eq) (.str l) (.str m) ρ σ Q := .lib h fun A im s v w Qv hA hI hv hw k => by
  obtain ⟨t, rfl⟩ := hv.str_i
  obtain ⟨u, rfl⟩ := hw.str_i
  exact eq_str (by rw [S_beq]; exact k _ s.toks .bool)
theorem Op2.neS {l m : List Nat} (h : Q (.bool (l != m)) ρ σ) : Op2 G (compareOp .NotEq) (.str l) (.str m) ρ σ Q := .lib h fun A im s v w Qv hA hI hv hw k => by
  obtain ⟨t, rfl⟩ := hv.str_i
  obtain ⟨u, rfl⟩ := hw.str_i
  exact ne_str (by show Qv (.bool (!(S l == S m))) s; rw [S_beq]; exact k _ s.toks .bool)
theorem Op2.addS {l m : List Nat} (hz : l.length + m.length ≤ 16000000) (h : Q (.str (l ++ m)) ρ σ) : Op2 G (binaryOp .Add) (.str l) (.str m) ρ σ Q := .lib h fun A im s v w Qv hA hI hv hw k => by
  obtain ⟨t, rfl⟩ := hv.str_i
  obtain ⟨u, rfl⟩ := hw.str_i
  refine add_str (fun t' tk => ?_) (by rw [S_len, S_len, sizeLine_eq]; walk_at "zo")
  rw [S_app]; exact k _ _ .str
theorem Op2.inS {l m : List Nat} (h : Q (.bool (Txt.contains (S m) (S l))) ρ σ) : Op2 G (compareOp .In) (.str l) (.str m) ρ σ Q := .lib h fun A im s v w Qv hA hI hv hw k => by
  obtain ⟨t, rfl⟩ := hv.str_i
  obtain ⟨u, rfl⟩ := hw.str_i
  exact in_str (k _ s.toks .bool)

theorem Op2.isNotNone {a : PV} {c : Bool} (hc : ∀ im v, VR im a v → (v == .none) = c) (h : Q (.bool (!c)) ρ σ) : Op2 G (compareOp .IsNot) a .none ρ σ Q := .lib h fun A im s v w Qv hA hI hv hw k => by
  rw [hw.none_i]
  exact isnot_none_gen (by rw [hc im v hv]; exact k _ s.toks .bool)
theorem nn_str {l : List Nat} : ∀ im v, VR im (.str l) v → (v == .none) = false := fun im v h => by obtain ⟨t, rfl⟩ := h.str_i; rfl
theorem nn_none : ∀ im v, VR im .none v → (v == .none) = true := fun im v h => by rw [h.none_i]; rfl
theorem nn_ref {a : Addr} : ∀ im v, VR im (.ref a) v → (v == .none) = false := fun im v h => by rw [h.ref_i]; rfl

theorem TrueOf.lib {a : PV} {r : Bool} {Q : Bool → Rho → Led → Prop} (h : Q r ρ σ)
    (hp : ∀ (A : Around) (im : PM) (s : Shared) (v : Value) (Qv : Bool → Shared → Prop), AOk G.n A → (∀ x o, im.f x = some o → s.heap.get? x = some o) → VR im a v → (∀ tk, Qv r { s with toks := tk }) → wpAny G.C.M A (truthy v) Qv Bot s) : TrueOf G a ρ σ Q :=
  fun A bs im s v hA hS hv => wpAny_up (hp A im s v _ hA hS.l.him hv fun tk htk => .now (hS.toks tk) rfl h)
theorem TrueOf.str {l : List Nat} {Q : Bool → Rho → Led → Prop} (hz : l.length ≤ 16777216) (h : Q ((l.length : Int) != 0) ρ σ) : TrueOf G (.str l) ρ σ Q := .lib h fun A im s v Qv hA hI hv k => by
  obtain ⟨t, rfl⟩ := hv.str_i
  refine P.truthy_str (by rw [show (⟨l.toArray⟩ : Str).length = _ from S_len l]; walk_at "zo") ?_
  rw [show (⟨l.toArray⟩ : Str).length = _ from S_len l]; exact k _

theorem CallP.lib {id : String} {ps : List PV} {r : PV} (h : Q r ρ σ)
    (hp : ∀ (A : Around) (bs im : PM) (s : Shared) (vs : List Value) (Qv : Value → Shared → Prop), AOk G.n A → St G bs im s ρ σ → VRs im ps vs → (∀ v' h' tk, (∀ b o, s.heap.get? b = some o → h'.get? b = some o) → VR im r v' → Qv v' { s with heap := h', toks := tk }) → wpAny G.C.M A (call (.builtin id) vs []) Qv Bot s) :
    CallP G (.con (.builtin id)) ps [] ρ σ Q := fun A bs im s fv vs kvs hA hS hf hv hk => by
  rw [hf.con_i]
  have : kvs = [] := by have := hk.1; simpa using this
  subst this
  exact ⟨keeps_builtin, wpAny_up (hp A bs im s vs _ hA hS hv fun v' h' tk hkk hr htk => .now (hS.grow hkk tk) hr h)⟩
theorem one_v {im : PM} {p : PV} {vs : List Value} (h : VRs im [p] vs) : ∃ v, vs = [v] ∧ VR im p v := by
  obtain ⟨v, vs', rfl, hv, h'⟩ := h.cons_inv
  rw [h'.nil_inv]; exact ⟨v, rfl, hv⟩
theorem two_v {im : PM} {p q : PV} {vs : List Value} (h : VRs im [p, q] vs) : ∃ v w, vs = [v, w] ∧ VR im p v ∧ VR im q w := by
  obtain ⟨v, vs', rfl, hv, h'⟩ := h.cons_inv
  obtain ⟨w, rfl, hw⟩ := one_v h'
  exact ⟨v, w, rfl, hv, hw⟩
theorem three_v {im : PM} {p q r : PV} {vs : List Value} (h : VRs im [p, q, r] vs) : ∃ v w x, vs = [v, w, x] ∧ VR im p v ∧ VR im q w ∧ VR im r x := by
  obtain ⟨v, vs', rfl, hv, h'⟩ := h.cons_inv
  obtain ⟨w, x, rfl, hw, hx⟩ := two_v h'
  exact ⟨v, w, x, rfl, hv, hw, hx⟩
theorem CallP.lenS {l : List Nat} (hz : l.length ≤ 16777216) (h : Q (.int l.length) ρ σ) : CallP G (.con (.builtin "len")) [.str l] [] ρ σ Q := .lib h fun A bs im s vs Qv hA hS hv k => by
  obtain ⟨v, rfl, hv1⟩ := one_v hv
  obtain ⟨t, rfl⟩ := hv1.str_i
  refine len_str (by rw [show (⟨l.toArray⟩ : Str).length = _ from S_len l]; walk_at "zo") ?_
  rw [show (⟨l.toArray⟩ : Str).length = _ from S_len l]; exact k _ s.heap _ (fun _ _ e => e) .int
theorem St.atList (hS : St G bs im s ρ σ) {a : Addr} {l : List PV} (hm : (a, LO.list l) ∈ σ) : ∃ vs n, s.heap.get? a = some (lstO vs n) ∧ VRs im l vs := (hS.l.led _ hm).1
theorem isList_of {h : Heap} {a : Addr} {vs : List Value} {n : Nat} (e : h.get? a = some (lstO vs n)) : h.IsList a vs.toArray := ⟨_, e, rfl, n, rfl⟩
theorem CallP.lenM {a : Addr} {l : List PV} (hm : (a, LO.list l) ∈ σ) (hz : l.length ≤ 16777216) (h : Q (.int l.length) ρ σ) : CallP G (.con (.builtin "len")) [.ref a] [] ρ σ Q := .lib h fun A bs im s vs Qv hA hS hv k => by
  obtain ⟨v, rfl, hv1⟩ := one_v hv
  rw [hv1.ref_i]
  obtain ⟨vs, n, ho, hvs⟩ := hS.atList hm
  have e : vs.toArray.size = l.length := by rw [List.size_toArray, hvs.length]
  refine len_list (isList_of ho) (by rw [e]; walk_at "zo") ?_
  rw [e]; exact k _ s.heap _ (fun _ _ e => e) .int
theorem CallP.lenL {l : List PV} (hz : l.length ≤ 16777216) (h : Q (.int l.length) ρ σ) : CallP G (.con (.builtin "len")) [.lst l] [] ρ σ Q := .lib h fun A bs im s vs Qv hA hS hv k => by
  obtain ⟨v, rfl, hv1⟩ := one_v hv
  obtain ⟨a, vs, n, rfl, ho, hvs⟩ := hv1.lst_i
  have e : vs.toArray.size = l.length := by rw [List.size_toArray, hvs.length]
  refine len_list (isList_of (hS.l.him _ _ ho)) (by rw [e]; walk_at "zo") ?_
  rw [e]; exact k _ s.heap _ (fun _ _ e => e) .int
end
end Mine.Tactic
end
section
open PySem PySem.W PyProof.Rows PySem.Calls
set_option Elab.async false
set_option maxRecDepth 100000
namespace Mine.Tactic

noncomputable def clampI (n d : Nat) : Option Int → Nat
  | none => d
  | some i => if i < 0 then (i + n).toNat else min i.toNat n
noncomputable def pySl {α : Type} (l : List α) (lo hi : Option Int) : List α := (l.drop (clampI l.length 0 lo)).take (clampI l.length l.length hi - clampI l.length 0 lo)

theorem clamp_le (n d : Nat) (hd : d ≤ n) (x : Option Int) : clampI n d x ≤ n := by
  unfold clampI
  cases x with
  | none => exact hd
  | some i =>
    dsimp only; split
    · rename_i h; exact Int.toNat_le.mpr (Int.add_le_of_le_sub_right ((Int.sub_self (n : Int)).symm ▸ Int.le_of_lt h))
    · exact Nat.min_le_right _ _
theorem clamp_eq (n d : Nat) (hd : d ≤ n) (x : Option Int) : ((match x with | none => (d : Int) | some i => let i := if i < 0 then i + n else i; max 0 (min i n)) : Int) = (clampI n d x : Nat) := by
  unfold clampI
  cases x with
  | none => rfl
  | some i =>
    dsimp only; split
    · rename_i h
      rw [Int.min_eq_left (Int.add_le_of_le_sub_right ((Int.sub_self (n : Int)).symm ▸ Int.le_of_lt h)), Int.toNat_eq_max, Int.max_comm]
    · rename_i h
      obtain ⟨k, rfl⟩ := Int.eq_ofNat_of_zero_le (Int.not_lt.mp h)
      rw [Int.max_eq_right (Int.le_min.mpr ⟨Int.natCast_nonneg _, Int.natCast_nonneg _⟩)]
      show min (k : Int) n = (min k n : Nat)
      rcases Nat.le_total k n with h | h
      · rw [Nat.min_eq_left h]; exact Int.min_eq_left (Int.ofNat_le.mpr h)
      · rw [Nat.min_eq_right h]; exact Int.min_eq_right (Int.ofNat_le.mpr h)
theorem range_pick0 {α : Type} (l : List α) (a : Nat) : ∀ n, a + n ≤ l.length → ((List.range n).map (a + ·)).filterMap (l[·]?) = (l.drop a).take n
  | 0, _ => by simp
  | n + 1, h => by
    rw [List.range_succ, List.map_append, List.filterMap_append, range_pick0 l a n (by walk_at "zo"), List.take_add_one, List.getElem?_drop]
    rw [show ([n].map (a + ·)).filterMap (l[·]?) = l[a + n]?.toList from ?_]
    show [a + n].filterMap (l[·]?) = _
    rw [List.getElem?_eq_getElem (show a + n < l.length by walk_at "zo")]
    simp only [List.filterMap_cons, List.filterMap_nil, List.getElem?_eq_getElem (show a + n < l.length by walk_at "zo")]
    rfl
theorem range_pick {α : Type} (l : List α) (a b : Nat) (hb : b ≤ l.length) : ((List.range (b - a)).map (a + ·)).filterMap (l[·]?) = (l.drop a).take (b - a) := by
  by_cases h : a ≤ b
  · exact range_pick0 l a _ (by walk_at "zo")
  · rw [show b - a = 0 by walk_at "zo"]; simp
theorem sliceRange_nat (a b : Nat) : sliceRange (a : Int) (b : Int) 1 = (List.range (b - a)).map (a + ·) := by
  unfold sliceRange
  rw [if_pos (by decide)]
  have e : ((if (a : Int) < b then ((b : Int) - a + 1 - 1) / 1 else 0) : Int).toNat = b - a := by
    split
    · rw [Int.ediv_one]; walk_at "zo"
    · walk_at "zo"
  show (List.range ((if (a : Int) < b then ((b : Int) - a + 1 - 1) / 1 else 0) : Int).toNat).map _ = _
  rw [e]
  refine List.map_congr_left fun k _ => ?_
  walk_at "zo"
theorem slicePick_eq (vs : List Value) (lo hi : Option Int) : slicePick vs.toArray lo hi none = (pySl vs lo hi).toArray := by
  unfold slicePick pySl
  have e1 : (sliceBounds lo hi none vs.toArray.size).1 = (clampI vs.length 0 lo : Nat) := by
    unfold sliceBounds
    simp only [Option.getD_none, List.size_toArray, show (1 : Int) > 0 by decide, if_true]
    have := clamp_eq vs.length 0 (Nat.zero_le _) lo
    cases lo <;> exact this
  have e2 : (sliceBounds lo hi none vs.toArray.size).2.1 = (clampI vs.length vs.length hi : Nat) := by
    unfold sliceBounds
    simp only [Option.getD_none, List.size_toArray, show (1 : Int) > 0 by decide, if_true]
    have := clamp_eq vs.length vs.length (Nat.le_refl _) hi
    cases hi <;> exact this
  have e3 : (sliceBounds lo hi none vs.toArray.size).2.2 = 1 := rfl
  rw [e1, e2, e3, sliceRange_nat]
  have := range_pick vs (clampI vs.length 0 lo) (clampI vs.length vs.length hi) (clamp_le _ _ (Nat.le_refl _) _)
  rw [← this]
  simp
theorem sliceText_eq (l : List Nat) (lo hi : Option Int) : Txt.slice (S l) lo hi = S (pySl l lo hi) := by
  have e0 : (Builtin.Str.strSliceIndices lo hi 1 l.length) = (List.range (clampI l.length l.length hi - clampI l.length 0 lo)).map (clampI l.length 0 lo + ·) := by
    rw [← sliceRange_nat]
    unfold Builtin.Str.strSliceIndices
    simp only [show (1 : Int) > 0 by decide, if_true]
    have h1 := clamp_eq l.length 0 (Nat.zero_le _) lo
    have h2 := clamp_eq l.length l.length (Nat.le_refl _) hi
    rw [← h1, ← h2]
    cases lo <;> cases hi <;> rfl
  have hp := range_pick l (clampI l.length 0 lo) (clampI l.length l.length hi) (clamp_le _ _ (Nat.le_refl _) _)
  unfold Txt.slice
  rw [S_len, e0]
  split
  · rename_i h
    simp only [beq_self_eq_true, Bool.true_and, beq_iff_eq, List.length_map, List.length_range] at h
    have := clamp_le l.length l.length (Nat.le_refl _) hi
    have h0 : clampI l.length 0 lo = 0 ∨ l.length = 0 := by walk_at "zo"
    unfold pySl
    rcases h0 with h0 | h0
    · rw [h, h0]; simp
    · have : l = [] := List.length_eq_zero_iff.mp h0
      subst this; simp
  · unfold pySl
    rw [← hp]
    show (⟨(((List.range _).map _).filterMap fun x => l.toArray[x]?).toArray⟩ : Str) = _
    simp

section
variable {G : Gx} {ρ : Rho} {σ : Led} {Q : PV → Rho → Led → Prop}

theorem tail_own {prog : Program} {w : World} {A : Around} {E : Value → Shared → Prop} {s : Shared} {value slice : Expr} {o i : Value} {T id : String} {ops : List Value} {Q : Value → Shared → Prop} (hT : s.TypeIs o T)
    (hl : typeLookup (.type T) "__getitem__" = pure (some (.builtin id))) (h : wpAny (model prog w) A (getItem o i) Q E s)
    (hs : subscripted slice false o i = operate ops (getItem o i)) : wpAny (model prog w) A (subscriptTail value slice o i) Q E s := by
  unfold subscriptTail
  refine wpAny_bind ?_
  rw [getitemInPython_of_ne hT.not_modules]
  refine wpAny_bind (wpAny_specialOf hT hl ?_)
  have fin : wpAny (model prog w) A (subscripted slice false o i) (fun r s₃ => wpAny (model prog w) A (letTemporaryGo value o r >>= fun _ => pure r) Q E s₃) E s := by
    rw [hs]
    exact wpAny_operating (wpAny_mono h (fun r s₃ h₃ => wpAny_bind (wpAny_letTemporaryGo (wpAny_pure h₃))) fun _ _ x => x)
  first
    | exact wpAny_pure (wpAny_bind fin)
    | exact wpAny_bind (wpAny_pure (wpAny_bind fin))
    | exact wpAny_bind fin

theorem Ev.sub {value slice : Expr} {pos : Pos} (h : Ev G value ρ σ (KBin G slice (subscriptTail value slice) Q)) : Ev G (.Subscript value slice pos) ρ σ Q :=
  fun _ _ _ _ hA hS => Subscript_ (Ev.then2 h hA hS)
noncomputable abbrev SubOk (slice : Expr) : Prop := ∀ o i, subscripted slice false o i = operate [o, i] (getItem o i)
noncomputable def pyIx (i : Int) (n : Nat) : Nat := if i < 0 then (i + n).toNat else i.toNat
theorem seqIx {i : Int} {n : Nat} (h1 : -(n : Int) ≤ i) (h2 : i < n) : seqIndex? i n = some (pyIx i n) := by
  unfold seqIndex? pyIx
  split
  · rw [if_pos (by simp only [Bool.and_eq_true, decide_eq_true_eq]; walk_at "zo")]
  · rw [if_pos (by simp only [Bool.and_eq_true, decide_eq_true_eq]; walk_at "zo")]
theorem Op2.itemS {value slice : Expr} {l : List Nat} {i : Int} {c : Nat} (h1 : -(l.length : Int) ≤ i) (h2 : i < l.length) (hz : l.length ≤ 16777216) (hc : l[pyIx i l.length]? = some c) (h : Q (.str [c]) ρ σ)
    (hs : SubOk slice := by intro _ _; rfl) : Op2 G (subscriptTail value slice) (.str l) (.int i) ρ σ Q := .lib h fun A im s v w Qv hA hI hv hw k => by
  obtain ⟨t, rfl⟩ := hv.str_i
  obtain ⟨u, rfl⟩ := hw.int_i
  refine tail_own (typeIs_str _ _ _) F.slot_str_getitem.lookup (getItem_str (c := c) ?_ ?_ (k _ _ .str)) (hs _ _)
  · simp only [Bool.or_eq_false_iff, decide_eq_false_iff_not]; walk_at "zo"
  · rw [show (⟨l.toArray⟩ : Str).length = _ from S_len l, seqIx h1 h2]
    show l.toArray[pyIx i l.length]? = _
    simpa using hc
theorem getItem_own {prog : Program} {w : World} {A : Around} {E : Value → Shared → Prop} {s : Shared} {a : Addr} {vs : List Value} {n : Nat} {i : Int} {t : Tok} {x : Value} {Q : Value → Shared → Prop} (ho : s.heap.get? a = some (lstO vs n))
    (h1 : -(vs.length : Int) ≤ i) (h2 : i < vs.length) (hz : vs.length ≤ 16777216) (hx : vs[pyIx i vs.length]? = some x) (h : Q x s) : wpAny (model prog w) A (getItem (.ref a) (.int i t)) Q E s := by
  unfold pyIx at hx
  split at hx
  · exact wpAny_getItem_list_neg (isList_of ho) (by walk_at "zo") (by simpa using h1) (by walk_at "zo") (by simpa using hx) h
  · exact wpAny_getItem_list (isList_of ho) (by walk_at "zo") (by walk_at "zo") (by simpa using hx) h
theorem item_run {value slice : Expr} {A : Around} {bs im : PM} {s : Shared} {a : Addr} {vs : List Value} {n : Nat} {l : List PV} {i : Int} {u : Tok} {p : PV} (hS : St G bs im s ρ σ) (ho : s.heap.get? a = some (lstO vs n)) (hvs : VRs im l vs) (h1 : -(l.length : Int) ≤ i) (h2 : i < l.length) (hz : l.length ≤ 16777216)
    (hp : l[pyIx i l.length]? = some p) (h : Q p ρ σ) (hs : SubOk slice) : wpAny G.C.M A (subscriptTail value slice (.ref a) (.int i u)) (Post G VR bs im Q) Bot s := by
  obtain ⟨x, hx, hr⟩ := hvs.get hp
  have e := hvs.length
  exact tail_own (isList_of ho).typeIs list_getitem_lookup (getItem_own ho (by rw [e]; exact h1) (by rw [e]; exact h2) (by rw [e]; exact hz) (by rw [e]; exact hx) (.now hS hr h)) (hs _ _)
theorem Op2.itemM {value slice : Expr} {a : Addr} {l : List PV} {i : Int} {p : PV} (hm : (a, LO.list l) ∈ σ) (h1 : -(l.length : Int) ≤ i) (h2 : i < l.length) (hz : l.length ≤ 16777216) (hp : l[pyIx i l.length]? = some p) (h : Q p ρ σ)
    (hs : SubOk slice := by intro _ _; rfl) : Op2 G (subscriptTail value slice) (.ref a) (.int i) ρ σ Q := fun A bs im s v w hA hS hv hw => by
  rw [hv.ref_i]
  obtain ⟨u, rfl⟩ := hw.int_i
  obtain ⟨vs, n, ho, hvs⟩ := hS.atList hm
  exact item_run hS ho hvs h1 h2 hz hp h hs
theorem Op2.itemL {value slice : Expr} {l : List PV} {i : Int} {p : PV} (h1 : -(l.length : Int) ≤ i) (h2 : i < l.length) (hz : l.length ≤ 16777216) (hp : l[pyIx i l.length]? = some p) (h : Q p ρ σ)
    (hs : SubOk slice := by intro _ _; rfl) : Op2 G (subscriptTail value slice) (.lst l) (.int i) ρ σ Q := fun A bs im s v w hA hS hv hw => by
  obtain ⟨a, vs, n, rfl, ho, hvs⟩ := hv.lst_i
  obtain ⟨u, rfl⟩ := hw.int_i
  exact item_run hS (hS.l.him _ _ ho) hvs h1 h2 hz hp h hs
theorem Op2.itemT {value slice : Expr} {l : List PV} {i : Int} {p : PV} (h1 : -(l.length : Int) ≤ i) (h2 : i < l.length) (hz : l.length ≤ 16777216) (hp : l[pyIx i l.length]? = some p) (h : Q p ρ σ)
    (hs : SubOk slice := by intro _ _; rfl) : Op2 G (subscriptTail value slice) (.tup l) (.int i) ρ σ Q := fun A bs im s v w hA hS hv hw => by
  obtain ⟨a, vs, n, rfl, ho, hvs⟩ := hv.tup_i
  obtain ⟨u, rfl⟩ := hw.int_i
  obtain ⟨x, hx, hr⟩ := hvs.get hp
  have e := hvs.length
  have ht : IsTup s.heap a vs.toArray := ⟨_, hS.l.him _ _ ho, rfl, n, rfl⟩
  exact tail_own ht.typeIs slot_tuple_getitem.lookup (getItem_tuple ht (by walk_at "zo") (by walk_at "zo") (by rw [List.size_toArray, e]; exact seqIx h1 h2) (by simpa using hx) (.now hS hr h)) (hs _ _)

theorem typeIs_push {s : Shared} {v : Value} {T : String} {o : Obj} (h : s.TypeIs v T) : Shared.TypeIs { s with heap := s.heap.push o } v T := by
  cases v with
  | ref a => obtain ⟨p, h1, h2⟩ := h; exact ⟨p, Heap.get?_push_of_some _ h1, h2⟩
  | _ => exact h
noncomputable def OptEv (G : Gx) : Option Expr → Rho → Led → (Option Int → Rho → Led → Prop) → Prop
  | none, ρ, σ, Q => Q none ρ σ
  | some e, ρ, σ, Q => Ev G e ρ σ fun p ρ₁ σ₁ => ∃ i, p = .int i ∧ Q (some i) ρ₁ σ₁
noncomputable def relPart (_ : PM) (x : Option Int) (v : Value) : Prop := IsPart v x
theorem optEv_run {G : Gx} {e : Option Expr} {ρ : Rho} {σ : Led} {Q : Option Int → Rho → Led → Prop} (h : OptEv G e ρ σ Q) : Tr G relPart (valueOrNone (evalOpt e G.env)) ρ σ Q := fun A bs im s hA hS => by
  cases e with
  | none => exact wpAny_pure (.now hS IsPart.none h)
  | some e =>
    show wpAny _ _ (eval e G.env) _ _ _
    refine wpAny_mono (h A bs im s hA hS) (fun v s₁ hqx => ?_) fun _ _ x => x
    obtain ⟨im₁, p, ρ₁, σ₁, e₁, hr, hS₁, i, hi, hq⟩ := hqx
    subst hi
    obtain ⟨t, rfl⟩ := hr.int_i
    exact ⟨im₁, some i, ρ₁, σ₁, e₁, .int i t, hS₁, hq⟩
noncomputable abbrev sliO (vl vu : Value) : Obj := { cls := .type "slice", data := .fields #[vl, vu, .none] }
noncomputable def SliceP (G : Gx) (a : PV) (x y : Option Int) (ρ : Rho) (σ : Led) (Q : PV → Rho → Led → Prop) : Prop :=
  ∀ A bs im s v vl vu, AOk G.n A → St G bs im s ρ σ → VR im a v → IsPart vl x → IsPart vu y → ∃ T id, s.TypeIs v T ∧ (typeLookup (.type T) "__getitem__" = pure (some (.builtin id))) ∧
    wpAny G.C.M A (getItem v (.ref s.heap.objs.size)) (Post G VR bs im Q) Bot { s with heap := s.heap.push (sliO vl vu) }
noncomputable abbrev KSl3 (G : Gx) (a : PV) (x : Option Int) (Q : PV → Rho → Led → Prop) : Option Int → Rho → Led → Prop := fun y ρ₃ σ₃ => SliceP G a x y ρ₃ σ₃ Q
noncomputable abbrev KSl2 (G : Gx) (hi : Option Expr) (a : PV) (Q : PV → Rho → Led → Prop) : Option Int → Rho → Led → Prop := fun x ρ₂ σ₂ => OptEv G hi ρ₂ σ₂ (KSl3 G a x Q)
noncomputable abbrev KSl1 (G : Gx) (lo hi : Option Expr) (Q : PV → Rho → Led → Prop) : PV → Rho → Led → Prop := fun a ρ₁ σ₁ => OptEv G lo ρ₁ σ₁ (KSl2 G hi a Q)
theorem Ev.slice {value : Expr} {lo hi : Option Expr} {p0 pos : Pos} (h : Ev G value ρ σ (KSl1 G lo hi Q)) :
    Ev G (.Subscript value (.Slice lo hi Option.none p0) pos) ρ σ Q := fun A bs im s hA hS => by
  refine Subscript_ (wpAny_mono (h A bs im s hA hS) (fun v s₁ hqx => ?_) fun _ _ x => x)
  obtain ⟨im₁, a, ρ₁, σ₁, e₁, hr, hS₁, h1⟩ := hqx
  show wpAny _ _ (do
    let l ← valueOrNone (evalOpt lo G.env)
    let u ← holding [l] (valueOrNone (evalOpt hi G.env))
    let s ← holding [l, u] (valueOrNone (evalOpt Option.none G.env))
    newFields "slice" [l, u, s]) _ _ _
  refine wpAny_bind (wpAny_mono (optEv_run h1 A bs im₁ s₁ hA hS₁) (fun vl s₂ hqx => ?_) fun _ _ x => x)
  obtain ⟨im₂, x, ρ₂, σ₂, e₂, hx, hS₂, h2⟩ := hqx
  refine wpAny_bind (wpAny_holding (wpAny_mono (optEv_run h2 A bs im₂ s₂ hA hS₂) (fun vu s₃ hqx => ?_) fun _ _ x => x))
  obtain ⟨im₃, y, ρ₃, σ₃, e₃, hy, hS₃, h3⟩ := hqx
  refine wpAny_bind (wpAny_holding (wpAny_pure ?_))
  show wpAny _ _ (newObj (.type "slice") (.fields #[vl, vu, .none])) _ _ _
  refine wpAny_newObj_type ?_
  obtain ⟨T, id, hT, hl, hg⟩ := h3 A bs im₃ s₃ v vl vu hA hS₃ ((hr.mono e₂.1).mono e₃.1) hx hy
  refine tail_own (T := T) (id := id) ?_ hl (wpAny_mono hg (fun _ _ q => q.ext (e₁.trans (e₂.trans e₃))) fun _ _ x => x) rfl
  exact typeIs_push hT
theorem SliceP.str {l : List Nat} {x y : Option Int} (hz : l.length ≤ 16777216) (h : Q (.str (pySl l x y)) ρ σ) : SliceP G (.str l) x y ρ σ Q := fun A bs im s v vl vu hA hS hv hx hy => by
  obtain ⟨t, rfl⟩ := hv.str_i
  refine ⟨"str", _, typeIs_str _ _ _, F.slot_str_getitem.lookup, ?_⟩
  have hk : KeptH fun h' => ∀ b o, s.heap.get? b = some o → h'.get? b = some o := fun h' ob k b o e => Heap.get?_push_of_some _ (k b o e)
  have fin : ∀ h' t' k, (∀ b o, s.heap.get? b = some o → h'.get? b = some o) → (fun (a : Value) (s' : Shared) => s.toks ≤ s'.toks → Post G VR bs im Q a s') (.str (Txt.slice (S l) x y) t') { s with heap := h', toks := k } := fun h' t' k kk htk => by
    rw [sliceText_eq]; exact .now (hS.grow kk k) .str h
  have hz' : (S l).length ≤ sizeLine := by rw [S_len, sizeLine_eq]; exact hz
  cases hx with
  | none => cases hy with
    | none => obtain ⟨_, _, _, _, hg⟩ := SBH.sliceItem_nn (prog := G.C.prog) (w := G.C.w) (A := A) (E := Bot) (s := s) (t := t) (Q := fun a s' => s.toks ≤ s'.toks → Post G VR bs im Q a s') hk (fun _ _ e => e) fin hz'; exact wpAny_up hg
    | int j u => obtain ⟨_, _, _, _, hg⟩ := SBH.sliceItem_ns (prog := G.C.prog) (w := G.C.w) (A := A) (E := Bot) (s := s) (t := t) (Q := fun a s' => s.toks ≤ s'.toks → Post G VR bs im Q a s') (uj := u) hk (fun _ _ e => e) fin hz'; exact wpAny_up hg
  | int i u => cases hy with
    | none => obtain ⟨_, _, _, _, hg⟩ := SBH.sliceItem_sn (prog := G.C.prog) (w := G.C.w) (A := A) (E := Bot) (s := s) (t := t) (Q := fun a s' => s.toks ≤ s'.toks → Post G VR bs im Q a s') (ui := u) hk (fun _ _ e => e) fin hz'; exact wpAny_up hg
    | int j u' => obtain ⟨_, _, _, _, hg⟩ := SBH.sliceItem_ss (prog := G.C.prog) (w := G.C.w) (A := A) (E := Bot) (s := s) (t := t) (Q := fun a s' => s.toks ≤ s'.toks → Post G VR bs im Q a s') (ui := u) (uj := u') hk (fun _ _ e => e) fin hz'; exact wpAny_up hg
theorem VRs.pySl {im : PM} {ps : List PV} {vs : List Value} (h : VRs im ps vs) (x y : Option Int) : VRs im (pySl ps x y) (pySl vs x y) := by
  unfold Mine.Tactic.pySl
  rw [h.length]
  exact (h.drop _).take _
theorem slice_run {A : Around} {bs im : PM} {s : Shared} {a : Addr} {vs : List Value} {n : Nat} {l : List PV} {x y : Option Int} {vl vu : Value} (hS : St G bs im s ρ σ) (ho : s.heap.get? a = some (lstO vs n)) (hvs : VRs im l vs) (hz : l.length ≤ 16000000) (hx : IsPart vl x) (hy : IsPart vu y)
    (h : Q (.lst (pySl l x y)) ρ σ) : wpAny G.C.M A (getItem (.ref a) (.ref s.heap.objs.size)) (Post G VR bs im Q) Bot { s with heap := s.heap.push (sliO vl vu) } := by
  refine wpAny_getItem_list_slice (isList_of (Heap.get?_push_of_some _ ho)) (Heap.IsSliceOf.new ..) hx hy .none (by simp) ?_ (by rw [List.size_toArray, hvs.length, sizeLine_eq]; walk_at "zo")
  have hS₁ : St G bs im { s with heap := s.heap.push (sliO vl vu) } ρ σ := hS.grow (fun b o e => Heap.get?_push_of_some _ e) s.toks
  obtain ⟨e, hS₂⟩ := hS₁.pushIm (lstO (pySl vs x y) 0) rfl s.toks
  rw [slicePick_eq]
  exact ⟨_, _, ρ, σ, e, .lst (PM.put_self ..) ((hvs.pySl x y).mono e.1), hS₂, h⟩
theorem SliceP.lst {l : List PV} {x y : Option Int} (hz : l.length ≤ 16000000) (h : Q (.lst (pySl l x y)) ρ σ) : SliceP G (.lst l) x y ρ σ Q := fun A bs im s v vl vu hA hS hv hx hy => by
  obtain ⟨a, vs, n, rfl, ho, hvs⟩ := hv.lst_i
  exact ⟨"list", _, (isList_of (hS.l.him _ _ ho)).typeIs, list_getitem_lookup, slice_run hS (hS.l.him _ _ ho) hvs hz hx hy h⟩
theorem SliceP.led {a : Addr} {l : List PV} {x y : Option Int} (hm : (a, LO.list l) ∈ σ) (hz : l.length ≤ 16000000) (h : Q (.lst (Mine.Tactic.pySl l x y)) ρ σ) : SliceP G (.ref a) x y ρ σ Q := fun A bs im s v vl vu hA hS hv hx hy => by
  rw [hv.ref_i]
  obtain ⟨vs, n, ho, hvs⟩ := hS.atList hm
  exact ⟨"list", _, (isList_of ho).typeIs, list_getitem_lookup, slice_run hS ho hvs hz hx hy h⟩
end
end Mine.Tactic
end
section
open PySem PySem.W PyProof.Rows PySem.Calls
set_option Elab.async false
set_option maxRecDepth 100000
namespace Mine.Tactic

section
variable {G : Gx} {ρ : Rho} {σ : Led} {Q : PV → Rho → Led → Prop}

theorem upd_list {A : Around} {bs im : PM} {s : Shared} {σ' : Led} {a : Addr} {vs : List Value} {n : Nat} {l : List PV} {f : Array Value → Array Value} {vs' : List Value} {l' : List PV} (hS : St G bs im s ρ σ) (u : Upd a (.list l) (.list l') σ σ') (ho : s.heap.get? a = some (lstO vs n))
    (hf : f vs.toArray = vs'.toArray) (hr : VRs im l' vs') (t : Nat) (ht : s.toks ≤ t := by first | exact Nat.le_refl _ | exact Nat.le_succ _ | assumption | walk_at "zo") : St G bs im { s with heap := s.heap.update a (Obj.mapSeq f), toks := t } ρ σ' := by
  refine hS.upd u t (Heap.SameBut.update ..) ?_ ht
  have := IsL.update (items := vs.toArray) (n := n) ho f
  rw [hf] at this
  exact ⟨vs', _, this, hr⟩
noncomputable def SetP (G : Gx) (a b p : PV) (ρ : Rho) (σ : Led) (Q : Rho → Led → Prop) : Prop :=
  ∀ A bs im s v w x, AOk G.n A → St G bs im s ρ σ → VR im a v → VR im b w → VR im p x → wpAny G.C.M A (setItem v w x) (Post G relU bs im (fun _ ρ' σ' => Q ρ' σ')) Bot s
noncomputable abbrev KSet3 (G : Gx) (a p : PV) (Q : Fl → Rho → Led → Prop) : PV → Rho → Led → Prop := fun b ρ₃ σ₃ => SetP G a b p ρ₃ σ₃ (Q .next)
noncomputable abbrev KSet2 (G : Gx) (i : Expr) (p : PV) (Q : Fl → Rho → Led → Prop) : PV → Rho → Led → Prop := fun a ρ₂ σ₂ => Ev G i ρ₂ σ₂ (KSet3 G a p Q)
noncomputable abbrev KSet1 (G : Gx) (o i : Expr) (Q : Fl → Rho → Led → Prop) : PV → Rho → Led → Prop := fun p ρ₁ σ₁ => Ev G o ρ₁ σ₁ (KSet2 G i p Q)
theorem Ex1.setItem {o i value : Expr} {p' pos : Pos} {Q : Fl → Rho → Led → Prop} (h : Ev G value ρ σ (KSet1 G o i Q))
    (hs : swapsWith value (some (.Subscript o i p')) pos.line G.env = pure false := by rfl) : Ex1 G (.Assign [.Subscript o i p'] value pos) ρ σ Q := fun A bs im s hA hS => by
  refine wpAny_Assign_Subscript (wpAny_mono (h A bs im s hA hS) (fun x s₁ hqx => ?_) fun _ _ x => x) hs
  obtain ⟨im₁, p, ρ₁, σ₁, e₁, hr, hS₁, h1⟩ := hqx
  refine wpAny_mono (h1 A bs im₁ s₁ hA hS₁) (fun v s₂ hqx => ?_) fun _ _ x => x
  obtain ⟨im₂, a, ρ₂, σ₂, e₂, ha, hS₂, h2⟩ := hqx
  refine wpAny_mono (h2 A bs im₂ s₂ hA hS₂) (fun w s₃ hqx => ?_) fun _ _ x => x
  obtain ⟨im₃, b, ρ₃, σ₃, e₃, hb, hS₃, h3⟩ := hqx
  refine wpAny_mono (h3 A bs im₃ s₃ v w x hA hS₃ (ha.mono e₃.1) hb ((hr.mono e₂.1).mono e₃.1)) (fun _ s₄ hqx => ?_) fun _ _ x => x
  obtain ⟨im₄, _, ρ₄, σ₄, e₄, _, hS₄, hq⟩ := hqx
  exact ⟨im₄, Fl.next, ρ₄, σ₄, e₁.trans (e₂.trans (e₃.trans e₄)), rfl, hS₄, hq⟩
theorem setItem_run {prog : Program} {w : World} {A : Around} {E : Value → Shared → Prop} {s : Shared} {l : Addr} {vs : List Value} {n : Nat} {k : Nat} {i : Int} {t : Tok} {v : Value} {Q : Unit → Shared → Prop} (ho : s.heap.get? l = some (lstO vs n))
    (hi : i = (k : Int)) (hk : k < vs.length) (hz : vs.length ≤ 16777216) (h : Q () { s with heap := s.heap.update l (Obj.mapSeq (·.setIfInBounds k v)) }) : wpAny (model prog w) A (setItem (.ref l) (.int i t) v) Q E s := by
  have hl := isList_of ho
  have hfit : Builtin.List.listFitsIndex i = true := fitsIndex_of (by walk_at "zo") (by walk_at "zo")
  clear hz
  unfold setItem
  try with_reducible refine wpAny_holding ?_
  first | refine wpAny_bind (wpAny_pure ?_) | skip
  refine wpAny_bind (wpAny_sequenceKey hl.typeIs (by decide) ?_)
  refine wpAny_bind (wpAny_callSpecial?_slot (name := Str.ofString "__setitem__") hl.typeIs slot_list_setitem
    (wpAny_call_entry slot_list_setitem hl.typeIs entry_list_setitem ?_ (args_list_setitem _ _ _)))
  show wpAny _ _ (Builtin.List.listSubscript? (.int i t) >>= _) _ _ s
  refine wpAny_bind (wpAny_listSubscript_int hfit ?_)
  clear hfit
  subst hi
  have hx' : vs.toArray[k]? = some vs[k] := by simp [hk]
  show wpAny _ _ ((seqItemAt l k >>= fun r => pure (r.map (k, ·))) >>= _) _ _ s
  refine wpAny_bind (wpAny_bind (wpAny_seqItemAt ho rfl (wpAny_pure ?_)))
  rw [hx']
  show wpAny _ _ (setSeqItemAt l k v >>= _) _ _ s
  refine wpAny_bind (wpAny_setSeqItemAt ho rfl ?_)
  first
    | exact wpAny_bind (wpAny_pure (wpAny_pure ⟨.none, rfl, wpAny_pure h⟩))
    | exact wpAny_pure ⟨.none, rfl, wpAny_pure h⟩
theorem SetP.led {a : Addr} {l : List PV} {k : Nat} {p : PV} {σ' : Led} {Q : Rho → Led → Prop} (u : Upd a (.list l) (.list (l.set k p)) σ σ') (hk : k < l.length) (hz : l.length ≤ 16777216) (h : Q ρ σ') : SetP G (.ref a) (.int k) p ρ σ Q := fun A bs im s v w x hA hS ha hb hp => by
  rw [ha.ref_i]
  obtain ⟨t, rfl⟩ := hb.int_i
  obtain ⟨vs, n, ho, hvs⟩ := hS.atList u.mem
  have e := hvs.length
  exact setItem_run ho rfl (by rw [e]; exact hk) (by rw [e]; exact hz) (.now (r := ()) (upd_list (A := A) hS u ho (by simp) (hvs.set hp) s.toks) trivial h)
theorem CallP.self {id : String} {ps : List PV} (hp : ∀ (A : Around) (bs im : PM) (s : Shared) (vs : List Value), AOk G.n A → St G bs im s ρ σ → VRs im ps vs → wpAny G.C.M A (call (.builtin id) vs []) (Post G VR bs im Q) Bot s) :
    CallP G (.con (.builtin id)) ps [] ρ σ Q := fun A bs im s fv vs kvs hA hS hf hv hk => by
  rw [hf.con_i]
  have : kvs = [] := by have := hk.1; simpa using this
  subst this
  exact ⟨keeps_builtin, hp A bs im s vs hA hS hv⟩
theorem append_run {A : Around} {bs im : PM} {s : Shared} {σ' : Led} {a : Addr} {l : List PV} {p : PV} {x : Value} (hS : St G bs im s ρ σ) (u : Upd a (.list l) (.list (l ++ [p])) σ σ') (hx : VR im p x) (hz : l.length ≤ 16000000) (h : Q .none ρ σ') :
    wpAny G.C.M A (call (.builtin "list.append") [.ref a, x] []) (Post G VR bs im Q) Bot s := by
  obtain ⟨vs, n, ho, hvs⟩ := hS.atList u.mem
  refine call_meets F.slot_list_append ⟨_, ho, rfl⟩ F.entry_list_append (F.args_list_append_2 _ _) (list_append a vs.toArray n x (by rw [List.size_toArray, hvs.length, sizeLine_eq]; walk_at "zo")) ⟨ho, ?_⟩
  exact .now (upd_list (A := A) hS u ho (vs' := vs ++ [x]) (by simp) (hvs.append (.cons hx .nil)) s.toks) .none h
theorem CallP.append {a : Addr} {l : List PV} {p : PV} {σ' : Led} (u : Upd a (.list l) (.list (l ++ [p])) σ σ') (hz : l.length ≤ 16000000) (h : Q .none ρ σ') : CallP G (.con (.builtin "list.append")) [.ref a, p] [] ρ σ Q := .self fun A bs im s vs hA hS hv => by
  obtain ⟨v, x, rfl, ha, hx⟩ := two_v hv
  rw [ha.ref_i]
  exact append_run hS u hx hz h
theorem checkBound_append {M : Model} {A : Around} {E : Value → Shared → Prop} {s : Shared} {a : Addr} {vs : List Value} {n : Nat} {x : Value} {Q : Unit → Shared → Prop} (ho : s.heap.get? a = some (lstO vs n)) (h : Q () s) : wpAny M A (checkBoundCall "list.append" ⟨[.ref a, x], []⟩) Q E s := by
  have f1 : isSubtype (.type "list") (.type "module") = pure false := by rw [isSubtype_type]; kernel_rfl
  have hT : s.TypeIs (.ref a) "list" := ⟨_, ho, rfl⟩
  unfold checkBoundCall
  repeat (any_goals (first | assumption | with_reducible refine wpAny_loadPart' ho ?_ | wp_step))
theorem CallP.appendB {a : Addr} {l : List PV} {p : PV} {σ' : Led} (u : Upd a (.list l) (.list (l ++ [p])) σ σ') (hz : l.length ≤ 16000000) (h : Q .none ρ σ') : CallP G (.bm "list.append" a) [p] [] ρ σ Q := fun A bs im s fv vs kvs hA hS hf hv hk => by
  obtain ⟨b, rfl, hb⟩ := hf.bm_i
  have : kvs = [] := by have := hk.1; simpa using this
  subst this
  obtain ⟨x, rfl, hx⟩ := one_v hv
  have hb' := hS.l.him _ _ hb
  refine ⟨keeps_rec hb' rfl rfl, wpAny_call (codeAny_of_tree ?_)⟩
  obtain ⟨vs, n, ho, hvs⟩ := hS.atList u.mem
  show wpAny _ _ (callAny (.ref b) _) _ _ _
  unfold callAny
  refine wpAny_bind (wpAny_load hb' ?_)
  have fin : wpAny G.C.M (A.under (.call (.ref b) ⟨[x], []⟩)) (checkBoundCall "list.append" ⟨[.ref a, x], []⟩ >>= fun _ => again (.builtin "list.append" ⟨[.ref a, x], []⟩)) (fun fin s' => match fin with | .done f => (match (Except.ok f : Result) with | .ok (.ret v) => Post G VR bs im Q v s' | .ok _ => False | .error e => Bot e s') | .again c' => c'.quiet = true ∧ codeAny G.C.M A c' (fun r s' => match r with | .ok (.ret v) => Post G VR bs im Q v s' | .ok _ => False | .error e => Bot e s') s') (fun e s' => Bot e s') s := by
    refine wpAny_bind (checkBound_append ho (wpAny_pure ⟨plainId_quiet F.slot_list_append.plain _, ?_⟩))
    refine codeAny_builtin F.entry_list_append ?_
    rw [Around.under_plainId F.slot_list_append.plain _]
    exact list_append a vs.toArray n x (by rw [List.size_toArray, hvs.length, sizeLine_eq]; walk_at "zo") G.C.prog G.C.w A (wants (Post G VR bs im Q) Bot) s ⟨ho, Post.now (rel := VR) (Q := Q) (upd_list (A := A) hS u ho (vs' := vs ++ [x]) (by simp) (hvs.append (.cons hx .nil)) s.toks) VR.none h⟩
  exact fin
theorem popLast {α : Type} (vs : List α) : vs.toArray.eraseIdxIfInBounds (vs.length - 1) = vs.dropLast.toArray := by
  unfold Array.eraseIdxIfInBounds
  split
  · rename_i h
    have h' : vs.length - 1 < vs.length := by simpa using h
    simp only [List.eraseIdx_toArray]
    rw [List.eraseIdx_length_sub_one]
  · rename_i h
    have : vs.length = 0 := by simp at h; walk_at "zo"
    have : vs = [] := List.length_eq_zero_iff.mp this
    subst this; rfl
theorem VRs.dropLast {im : PM} {ps : List PV} {vs : List Value} (h : VRs im ps vs) : VRs im ps.dropLast vs.dropLast := by
  rw [List.dropLast_eq_take, List.dropLast_eq_take, h.length]; exact h.take _
theorem CallP.pop {a : Addr} {l : List PV} {p : PV} {σ' : Led} (hp : l[l.length - 1]? = some p) (u : Upd a (.list l) (.list l.dropLast) σ σ') (hz : l.length ≤ 16000000) (h : Q p ρ σ') : CallP G (.con (.builtin "list.pop")) [.ref a] [] ρ σ Q := .self fun A bs im s vs hA hS hv => by
  obtain ⟨v, rfl, ha⟩ := one_v hv
  rw [ha.ref_i]
  obtain ⟨vs, n, ho, hvs⟩ := hS.atList u.mem
  obtain ⟨x, hx, hr⟩ := hvs.get hp
  refine call_meets F.slot_list_pop ⟨_, ho, rfl⟩ F.entry_list_pop (F.args_list_pop_1 _) (MeetsSeq.list_pop_last a vs.toArray n x (by rw [List.size_toArray, hvs.length]; simpa using hx) (by rw [List.size_toArray, hvs.length, sizeLine_eq]; walk_at "zo")) ⟨ho, ?_⟩
  exact .now (upd_list (A := A) hS u ho (vs' := vs.dropLast) (by rw [List.size_toArray]; exact popLast vs) hvs.dropLast s.toks) hr h

theorem MethP.str {l : List Nat} {name : Str} {id : String} (slot : Slot "str" name id) (ty : typeOf (.builtin id) = pure (.type "method_descriptor")) : MethP G (.str l) name (.con (.builtin id)) [.str l] ρ σ := fun A bs im s v pl Qv hA hS hv k => by
  obtain ⟨t, rfl⟩ := hv.str_i
  exact GM.of _ (typeIs_str _ _ _) slot ty GM.noRef (k _ _ s.toks .con (.cons .str .nil))
theorem MethP.led {a : Addr} {l : List PV} {name : Str} {id : String} (hm : (a, LO.list l) ∈ σ) (slot : Slot "list" name id) (ty : typeOf (.builtin id) = pure (.type "method_descriptor")) : MethP G (.ref a) name (.con (.builtin id)) [.ref a] ρ σ := fun A bs im s v pl Qv hA hS hv k => by
  rw [hv.ref_i]
  obtain ⟨vs, n, ho, hvs⟩ := hS.atList hm
  exact getMethod_builtin (isList_of ho).typeIs F.plainAttrs_list slot ty (fun b e => by cases e; exact ⟨_, ho, rfl⟩) (k _ _ s.toks .con (.cons .ref .nil))

theorem CallP.range1 {n : Int} (h : Q (.rng 0 n 1) ρ σ) : CallP G (.con (.type "range")) [.int n] [] ρ σ Q := fun A bs im s fv vs kvs hA hS hf hv hk => by
  rw [hf.con_i]
  have : kvs = [] := by have := hk.1; simpa using this
  subst this
  obtain ⟨v, rfl, hv1⟩ := one_v hv
  obtain ⟨t, rfl⟩ := hv1.int_i
  refine ⟨keeps_type, call_range_1 ?_⟩
  obtain ⟨e, hS'⟩ := hS.pushIm { cls := .type "range", data := .fields #[.int 0 s.toks, .int n t, .int 1 (s.toks + 1)] } rfl (s.toks + 1 + 1)
  exact ⟨_, _, ρ, σ, e, .rng (PM.put_self ..), hS', h⟩
end
end Mine.Tactic
end
section
open PySem PySem.W PyProof.Rows PySem.Calls
set_option Elab.async false
set_option maxRecDepth 100000
namespace Mine.Tactic
theorem md_get : typeLookup (.type "method_descriptor") "__get__" = pure (some (.builtin "method_descriptor.__get__")) := by rw [typeLookup_type, builtinLookup_eq_fast]; kernel_rfl
theorem md_set : typeLookup (.type "method_descriptor") "__set__" = pure none := by rw [typeLookup_type, builtinLookup_eq_fast]; kernel_rfl
theorem md_del : typeLookup (.type "method_descriptor") "__delete__" = pure none := by rw [typeLookup_type, builtinLookup_eq_fast]; kernel_rfl
theorem slot_md_get : Slot "method_descriptor" "__get__" "method_descriptor.__get__" :=
  .of (owner := "method_descriptor") (n := "__get__") (by rw [typeLookup_type, builtinLookup_eq_fast]; kernel_rfl) (by decide +kernel) (by decide +kernel) (by decide +kernel)
    (by first | exact .inl (by decide +kernel) | exact .inr (by decide +kernel)) (by rw [isSubtype_type]; kernel_rfl)
theorem entry_md_get : entryFor table "method_descriptor.__get__" = some Builtin.«method_descriptor.__get__» := entryFor_of_tree (by kernel_rfl)
theorem args_md_get (a b c : Value) : argsOk "method_descriptor.__get__" ⟨[a, b, c], []⟩ := by unfold argsOk; kernel_rfl
set_option maxHeartbeats 2000000 in
theorem ga_append (a : Addr) (vs : List Value) (n : Nat) (u : Tok) :
    Meets (Builtin.«object.__getattribute__» ⟨[.ref a, .str (Str.ofString "append") u], []⟩) (fun A R s => s.heap.get? a = some (lstO vs n) ∧ ∀ tk, R (.ok (.ret (.ref s.heap.objs.size))) { s with heap := s.heap.push (bmO "list.append" a), toks := tk }) :=
  Meets.of_wp fun prog w A R s hs => by
    obtain ⟨hp, g, d, tk, os⟩ := s
    obtain ⟨hx, hs⟩ := hs
    have hT : (⟨hp, g, d, tk, os⟩ : Shared).TypeIs (.ref a) "list" := ⟨_, hx, rfl⟩
    have f1 := F.slot_list_append.lookup
    have f2 := F.type_list_append
    have f3 := md_get
    have f4 := md_set
    have f5 := md_del
    unfold Builtin.«object.__getattribute__»
    repeat (any_goals (first | assumption | with_reducible refine wpAny_loadPart' hx ?_ | wp_step))
    refine codeAny_call_builtin slot_md_get.plain entry_md_get (slot_md_get.check _ _ _ _ _ _ _ _ F.type_list_append (args_md_get _ _ _) ?_)
    have g0 : ".".intercalate ("list.append".cutAt '.').dropLast = "list" := by decide +kernel
    have g1 : isSubtype (Value.type "list") (Value.type (".".intercalate ("list.append".cutAt '.').dropLast)) = pure true := by rw [g0]; exact F.sub_list_list
    unfold Builtin.«method_descriptor.__get__»
    repeat (any_goals (first | assumption | with_reducible refine wpAny_loadPart' hx ?_ | wp_step))
    exact ⟨_, rfl, hs _⟩
theorem getattr_append {prog : Program} {w : World} {A : Around} {E : Value → Shared → Prop} {s : Shared} {a : Addr} {vs : List Value} {n : Nat} {ex : Bool} {Q : Value → Shared → Prop} (ho : s.heap.get? a = some (lstO vs n))
   (h : ∀ tk, Q (.ref s.heap.objs.size) { s with heap := s.heap.push (bmO "list.append" a), toks := tk }) : wpAny (model prog w) A (getAttr (.ref a) (Str.ofString "append") ex) Q E s := by
  obtain ⟨hp, g, d, tk, os⟩ := s
  have hT : ∀ tk', (⟨hp, g, d, tk', os⟩ : Shared).TypeIs (.ref a) "list" := fun _ => ⟨_, ho, rfl⟩
  have f3 := F.slot_list_getattribute.lookup
  have f4 := F.slot_list_getattribute.bind (.ref a)
  have f5 := am_list_getattr_none
  unfold getAttr getAttrBy
  repeat (any_goals (first | assumption | exact hT _ | with_reducible refine wpAny_loadPart' ho ?_ | ((with_reducible show wpAny _ _ (call (Value.builtin "list.__getattribute__") _ _) _ _ _); refine call_meets F.slot_list_getattribute (hT _) am_entry_list_getattribute (F.args_list_getattribute_2 _ _) (ga_append a vs n _) ⟨ho, fun tk => ?_⟩) | wp_step))
  have e0 : ¬ (ex && onTheHeap (Value.builtin "list.__getattribute__")) = true := by cases ex <;> decide
  rw [if_neg e0]
  unfold boundAndCalled
  repeat (any_goals (first | assumption | exact hT _ | with_reducible refine wpAny_loadPart' ho ?_ | ((with_reducible show wpAny _ _ (call (Value.builtin "list.__getattribute__") _ _) _ _ _); refine call_meets F.slot_list_getattribute (hT _) am_entry_list_getattribute (F.args_list_getattribute_2 _ _) (ga_append a vs n _) ⟨ho, fun tk => ?_⟩) | wp_step))
  show wpAny _ _ (handedOut (.ref _)) _ _ _
  exact handed_on rfl (h _)
end Mine.Tactic
end
section
open PySem PySem.W PyProof.Rows PySem.Calls
set_option Elab.async false
set_option maxRecDepth 100000
namespace Mine.Tactic

section
variable {G : Gx} {ρ : Rho} {σ : Led} {Q : PV → Rho → Led → Prop} {bs im : PM} {s : Shared}

theorem Ev.attr {value : Expr} {name : Str} {pos : Pos} (h : Ev G value ρ σ (KOp1 G (fun v => getAttr v name true) Q))
    (he : eval (.Attribute value name pos) G.env = (do
      let o ← eval value G.env
      standAt pos.atName
      let r ← holding [o] (getAttr o name true)
      letTemporaryGo value o r
      pure r) := by rfl) : Ev G (.Attribute value name pos) ρ σ Q :=
  fun _ _ _ _ hA hS => Attribute_any_ (Tr.then h hA hS) he
theorem Op1.boundAppend {a : Addr} {l : List PV} (hm : (a, LO.list l) ∈ σ) (h : Q (.bm "list.append" a) ρ σ) : Op1 G (fun v => getAttr v (Str.ofString "append") true) (.ref a) ρ σ Q := fun A bs im s v hA hS hv => by
  rw [hv.ref_i]
  obtain ⟨vs, n, ho, hvs⟩ := hS.atList hm
  refine wpAny_up (getattr_append ho fun tk htk => ?_)
  dsimp only at htk
  obtain ⟨e, hS'⟩ := hS.pushIm (bmO "list.append" a) rfl tk
  exact ⟨_, _, ρ, σ, e, .bm (PM.put_self ..), hS', h⟩

theorem TrueOf.led {a : Addr} {l : List PV} {Q : Bool → Rho → Led → Prop} (hm : (a, LO.list l) ∈ σ) (hz : l.length ≤ 16777216) (h : Q (!l.isEmpty) ρ σ) : TrueOf G (.ref a) ρ σ Q := fun A bs im s v hA hS hv => by
  rw [hv.ref_i]
  obtain ⟨vs, n, ho, hvs⟩ := hS.atList hm
  have e := hvs.length
  refine wpAny_truthy_list (isList_of ho) (by rw [List.size_toArray, e]; walk_at "zo") ?_
  refine .now (r := !l.isEmpty) (hS.toks _) ?_ h
  show _ = _
  cases l with
  | nil => rw [hvs.nil_inv]; rfl
  | cons p l => obtain ⟨v, vs', rfl, _⟩ := hvs.cons_inv; rfl
theorem ne_empty_run {A : Around} {bs im : PM} {s : Shared} {a b : Addr} {vs : List Value} {n m : Nat} {l : List PV} (hA : AOk G.n A) (hS : St G bs im s ρ σ) (ho : s.heap.get? a = some (lstO vs n)) (hb : s.heap.get? b = some (lstO [] m)) (hvs : VRs im l vs) (h : Q (.bool (!l.isEmpty)) ρ σ) :
    wpAny G.C.M A (compareOp .NotEq (.ref a) (.ref b)) (Post G VR bs im Q) Bot s := by
  have hu : A.units < cLine := by have := hA.2.2; show A.units < 9900; walk_at "zo"
  cases l with
  | nil =>
    have e := hvs.nil_inv
    subst e
    exact SeqAt.RcNeAt.lists (e := fun _ => true) (isList_of ho) (isList_of hb) rfl hu (fun j h1 h2 => absurd h1 (by simp)) G.C.prog G.C.w _ _ (.now hS .bool h)
  | cons p l =>
    obtain ⟨v, vs', e, _⟩ := hvs.cons_inv
    subst e
    exact SeqAt.RcNeAt.lists_lengths (isList_of ho) (isList_of hb) (by simp) hu G.C.prog G.C.w _ _ (.now hS .bool h)
theorem Op2.neEmpty {a : Addr} {l : List PV} (hm : (a, LO.list l) ∈ σ) (h : Q (.bool (!l.isEmpty)) ρ σ) : Op2 G (compareOp .NotEq) (.ref a) (.lst []) ρ σ Q := fun A bs im s v w hA hS hv hw => by
  rw [hv.ref_i]
  obtain ⟨b, ws, m, rfl, hb, hws⟩ := hw.lst_i
  have e := hws.nil_inv
  subst e
  obtain ⟨vs, n, ho, hvs⟩ := hS.atList hm
  exact ne_empty_run hA hS ho (hS.l.him _ _ hb) hvs h
theorem Op2.isNotStrRef {l : List Nat} {a : Addr} (h : Q (.bool true) ρ σ) : Op2 G (compareOp .IsNot) (.str l) (.ref a) ρ σ Q := fun A bs im s v w hA hS hv hw => by
  obtain ⟨t, rfl⟩ := hv.str_i
  rw [hw.ref_i]
  show wpAny _ _ (isSame (.str ⟨l.toArray⟩ t) (.ref a) >>= fun b => pure (Value.bool (!b))) _ _ _
  exact wpAny_bind (wpAny_pure (wpAny_pure (.now hS .bool h)))
theorem Op2.isType {x y : String} (h : Q (.bool (Value.type x == Value.type y)) ρ σ) : Op2 G (compareOp .Is) (.con (.type x)) (.con (.type y)) ρ σ Q := fun A bs im s v w hA hS hv hw => by
  rw [hv.con_i, hw.con_i]
  show wpAny _ _ (isSame (.type x) (.type y) >>= fun b => pure (Value.bool b)) _ _ _
  exact wpAny_bind (wpAny_pure (wpAny_pure (.now hS .bool h)))
theorem Op2.isNotType {x y : String} (h : Q (.bool (!(Value.type x == Value.type y))) ρ σ) : Op2 G (compareOp .IsNot) (.con (.type x)) (.con (.type y)) ρ σ Q := fun A bs im s v w hA hS hv hw => by
  rw [hv.con_i, hw.con_i]
  exact isnot_type (.now hS .bool h)

theorem typeIs_led (hS : St G bs im s ρ σ) {a : Addr} {l : List PV} (hm : (a, LO.list l) ∈ σ) : s.TypeIs (.ref a) "list" := by
  obtain ⟨vs, n, ho, _⟩ := hS.atList hm
  exact ⟨_, ho, rfl⟩
theorem CallP.typeOf {p : PV} {T : String} (hT : ∀ bs im s v, St G bs im s ρ σ → VR im p v → s.TypeIs v T) (hn : (Value.type T == Value.type "builtin_function_or_method") = false) (h : Q (.con (.type T)) ρ σ) : CallP G (.con (.type "type")) [p] [] ρ σ Q := fun A bs im s fv vs kvs hA hS hf hv hk => by
  rw [hf.con_i]
  have : kvs = [] := by have := hk.1; simpa using this
  subst this
  obtain ⟨v, rfl, hv1⟩ := one_v hv
  exact ⟨keeps_type, call_type_of (hT _ _ _ _ hS hv1) hn (.now hS .con h)⟩
theorem CallP.typeStr {l : List Nat} (h : Q (.con (.type "str")) ρ σ) : CallP G (.con (.type "type")) [.str l] [] ρ σ Q :=
  .typeOf (fun _ _ _ _ _ hv => by obtain ⟨t, rfl⟩ := hv.str_i; exact typeIs_str _ _ _) (by decide) h
theorem CallP.typeLed {a : Addr} {l : List PV} (hm : (a, LO.list l) ∈ σ) (h : Q (.con (.type "list")) ρ σ) : CallP G (.con (.type "type")) [.ref a] [] ρ σ Q :=
  .typeOf (fun _ _ _ _ hS hv => by rw [hv.ref_i]; exact typeIs_led hS hm) (by decide) h
end
end Mine.Tactic
end
section
open PySem PySem.W PyProof.Rows PySem.Calls
set_option Elab.async false
set_option maxRecDepth 100000
namespace Mine.Tactic

section
variable {G : Gx} {ρ : Rho} {σ : Led} {Q : PV → Rho → Led → Prop}

theorem CallP.upper {l m : List Nat} (e : Txt.upper (S l) = S m) (hz : l.length ≤ 5000000) (h : Q (.str m) ρ σ) : CallP G (.con (.builtin "str.upper")) [.str l] [] ρ σ Q := .self fun A bs im s vs hA hS hv => by
  obtain ⟨v, rfl, hv1⟩ := one_v hv
  obtain ⟨t, rfl⟩ := hv1.str_i
  exact wpAny_up (KXw.upper e (fit_upper (by rw [S_len]; walk_at "zo")) fun t' k htk => .now (hS.toks k) .str h)
theorem CallP.lower {l m : List Nat} (e : Txt.lower (S l) = S m) (hz : l.length ≤ 5000000) (h : Q (.str m) ρ σ) : CallP G (.con (.builtin "str.lower")) [.str l] [] ρ σ Q := .self fun A bs im s vs hA hS hv => by
  obtain ⟨v, rfl, hv1⟩ := one_v hv
  obtain ⟨t, rfl⟩ := hv1.str_i
  exact wpAny_up (KXw.lower e (fit_lower (by rw [S_len]; walk_at "zo")) fun t' k htk => .now (hS.toks k) .str h)

noncomputable def pyJoin (sep : List Nat) : List (List Nat) → List Nat
  | [] => []
  | x :: r => r.foldl (fun acc p => acc ++ sep ++ p) x
theorem glue_eq (sep : List Nat) : ∀ (r : List (List Nat)) (x : List Nat), (r.map S).foldl (fun (acc : Array Nat) (p : Str) => acc ++ (S sep).cps ++ p.cps) x.toArray = (r.foldl (fun acc p => acc ++ sep ++ p) x).toArray
  | [], x => rfl
  | p :: r, x => by
    rw [List.map_cons, List.foldl_cons, List.foldl_cons, ← glue_eq sep r]
    congr 1
    show x.toArray ++ sep.toArray ++ p.toArray = _
    simp
theorem txt_join (sep : List Nat) (ls : List (List Nat)) : Txt.join (S sep) (ls.map S) = S (pyJoin sep ls) := by
  unfold Txt.join Builtin.Str.glued
  cases ls with
  | nil => rfl
  | cons x r =>
    show (⟨((x :: r).map S |>.drop 1).foldl _ _⟩ : Str) = _
    rw [List.map_cons]
    show (⟨(r.map S).foldl _ x.toArray⟩ : Str) = _
    rw [glue_eq]; rfl
theorem strsAre_of {im : PM} : ∀ (ls : List (List Nat)) (vs : List Value), VRs im (ls.map PV.str) vs → StrsAre vs (ls.map S)
  | [], vs, h => by rw [h.nil_inv]; exact .nil
  | m :: ms, vs, h => by
    obtain ⟨v, vs', rfl, h1, h2⟩ := VRs.cons_inv h
    obtain ⟨t, rfl⟩ := h1.str_i
    exact .cons _ _ (strsAre_of ms vs' h2)
theorem join_ok {sep : List Nat} {ls : List (List Nat)} (hz : (ls.map List.length).sum + ls.length * sep.length ≤ 16777216) : ((ls.map S).map (·.length)).sum + (ls.map S).length * (S sep).length ≤ 16777216 := by
  rw [List.map_map, List.length_map, S_len]
  have : (ls.map ((fun x : Str => x.length) ∘ S)) = ls.map List.length := List.map_congr_left fun x _ => S_len x
  rw [this]; exact hz
theorem CallP.joinL {sep : List Nat} {ls : List (List Nat)} {ps : List PV} (hp : ps = ls.map .str) (hz : (ls.map List.length).sum + ls.length * sep.length ≤ 16777216) (h : Q (.str (pyJoin sep ls)) ρ σ) : CallP G (.con (.builtin "str.join")) [.str sep, .lst ps] [] ρ σ Q := .self fun A bs im s vs hA hS hv => by
  subst hp
  obtain ⟨v, w, rfl, hv1, hw1⟩ := two_v hv
  obtain ⟨t, rfl⟩ := hv1.str_i
  obtain ⟨a, ws, n, rfl, ho, hws⟩ := hw1.lst_i
  refine wpAny_up (join_list (isList_of (hS.l.him _ _ ho)) (strsAre_of ls _ hws) (join_ok hz) fun t' k htk => ?_)
  dsimp only at htk
  rw [show (⟨sep.toArray⟩ : Str) = S sep from rfl, txt_join]
  exact .now (hS.toks k) .str h
theorem CallP.joinM {sep : List Nat} {ls : List (List Nat)} {ps : List PV} {a : Addr} (hm : (a, LO.list ps) ∈ σ) (hp : ps = ls.map .str) (hz : (ls.map List.length).sum + ls.length * sep.length ≤ 16777216) (h : Q (.str (pyJoin sep ls)) ρ σ) : CallP G (.con (.builtin "str.join")) [.str sep, .ref a] [] ρ σ Q := .self fun A bs im s vs hA hS hv => by
  subst hp
  obtain ⟨v, w, rfl, hv1, hw1⟩ := two_v hv
  obtain ⟨t, rfl⟩ := hv1.str_i
  rw [hw1.ref_i]
  obtain ⟨ws, n, ho, hws⟩ := hS.atList hm
  refine wpAny_up (join_list (isList_of ho) (strsAre_of ls _ hws) (join_ok hz) fun t' k htk => ?_)
  dsimp only at htk
  rw [show (⟨sep.toArray⟩ : Str) = S sep from rfl, txt_join]
  exact .now (hS.toks k) .str h
theorem CallP.addL {a b : List PV} (hz : a.length + b.length ≤ 16000000) (h : Q (.lst (a ++ b)) ρ σ) : Op2 G (binaryOp .Add) (.lst a) (.lst b) ρ σ Q := fun A bs im s v w hA hS hv hw => by
  obtain ⟨x, vs, n, rfl, ho, hvs⟩ := hv.lst_i
  obtain ⟨y, ws, m, rfl, hb, hws⟩ := hw.lst_i
  refine P.add_list (hS.l.him _ _ ho) (hS.l.him _ _ hb) ?_ (by rw [List.size_toArray, List.size_toArray, hvs.length, hws.length, sizeLine_eq]; walk_at "zo")
  obtain ⟨e, hS'⟩ := hS.pushIm (lstO (vs ++ ws) 0) rfl s.toks
  rw [show vs.toArray ++ ws.toArray = (vs ++ ws).toArray by simp]
  exact ⟨_, _, ρ, σ, e, .lst (PM.put_self ..) ((hvs.append hws).mono e.1), hS', h⟩

noncomputable def JP (G : Gx) (out : List Nat) (es : List Expr) (ρ : Rho) (σ : Led) (Q : List Nat → Rho → Led → Prop) : Prop :=
  Tr G (fun _ (l : List Nat) (v : Value) => ∃ t, v = .str ⟨l.toArray⟩ t) (joinParts (S out) (evalEach es G.env)) ρ σ Q
theorem JP.nil {out : List Nat} {Q : List Nat → Rho → Led → Prop} (hz : out.length ≤ 16777216) (h : Q out ρ σ) : JP G out [] ρ σ Q := fun A bs im s hA hS =>
  joinParts_nil (.now (r := out) (hS.toks _) ⟨_, rfl⟩ h) (by rw [S_len, sizeLine_eq]; exact hz)
noncomputable abbrev KJp (G : Gx) (out : List Nat) (es : List Expr) (Q : List Nat → Rho → Led → Prop) : PV → Rho → Led → Prop := fun p ρ₁ σ₁ => ∃ l, p = .str l ∧ out.length + l.length ≤ 16777216 ∧ JP G (out ++ l) es ρ₁ σ₁ Q
noncomputable abbrev KStr (Q : PV → Rho → Led → Prop) : List Nat → Rho → Led → Prop := fun l ρ₁ σ₁ => Q (.str l) ρ₁ σ₁
noncomputable abbrev KFv (Q : PV → Rho → Led → Prop) : PV → Rho → Led → Prop := fun p ρ₁ σ₁ => ∃ l, p = .str l ∧ l.length ≤ 16777216 ∧ Q (.str l) ρ₁ σ₁
theorem JP.cons {out : List Nat} {e : Expr} {es : List Expr} {Q : List Nat → Rho → Led → Prop} (h : Ev G e ρ σ (KJp G out es Q)) : JP G out (e :: es) ρ σ Q := fun A bs im s hA hS => by
  refine joinParts_cons (wpAny_mono (h A bs im s hA hS) (fun v s₁ hqx => ?_) fun _ _ x => x)
  obtain ⟨im₁, p, ρ₁, σ₁, e₁, hr, hS₁, l, hp, hz, hJ⟩ := hqx
  subst hp
  obtain ⟨t, rfl⟩ := hr.str_i
  dsimp only
  rw [show (S out ++ (⟨l.toArray⟩ : Str)) = S (out ++ l) from S_app out l]
  exact ⟨by rw [S_len, List.length_append, sizeLine_eq]; exact hz, wpAny_mono (hJ A bs im₁ s₁ hA hS₁) (fun _ _ q => q.ext e₁) fun _ _ x => x⟩
theorem Ev.fstr {v₁ v₂ : Expr} {rest : List Expr} {pos : Pos} (h : JP G [] (v₁ :: v₂ :: rest) ρ σ (KStr Q)) : Ev G (.JoinedStr (v₁ :: v₂ :: rest) pos) ρ σ Q := fun A bs im s hA hS => by
  refine JoinedStr_many (wpAny_mono (h A bs im s hA hS) (fun v s₁ hqx => ?_) fun _ _ x => x)
  obtain ⟨im₁, l, ρ₁, σ₁, e₁, ⟨t, ht⟩, hS₁, hq⟩ := hqx
  subst ht
  exact ⟨im₁, _, ρ₁, σ₁, e₁, .str, hS₁, hq⟩
theorem Ev.fval {value : Expr} {pos : Pos} (h : Ev G value ρ σ (KFv Q)) : Ev G (.FormattedValue value (-1) Option.none pos) ρ σ Q := fun A bs im s hA hS => by
  refine FormattedValue_plain (wpAny_mono (h A bs im s hA hS) (fun v s₁ hqx => ?_) fun _ _ x => x)
  obtain ⟨im₁, p, ρ₁, σ₁, e₁, hr, hS₁, l, hp, hz, hq⟩ := hqx
  subst hp
  obtain ⟨t, rfl⟩ := hr.str_i
  exact wpAny_up <| formatField_str (fun t' tk htk => ⟨im₁, _, ρ₁, σ₁, e₁, .str, hS₁.toks tk, hq⟩) (by rw [show (⟨l.toArray⟩ : Str).length = _ from S_len l, sizeLine_eq]; exact hz)
end
end Mine.Tactic
end
section
open PySem PySem.W PyProof.Rows PySem.Calls
set_option Elab.async false
set_option maxRecDepth 100000
namespace Mine.Tactic

noncomputable def isStarE : Expr → Bool
  | .Starred .. => true
  | _ => false
noncomputable def swapOk2 (x y : Str) (px py : Pos) (vs : List Expr) : Bool :=
  py.line == px.line && [x, y].eraseDups.length == 2 && vs.length == 2 && !(vs.any isStarE) && !(vs.all (foldedForSure 8)) && !(vs.all (constantsAlone 8))
theorem swapped2 {env : Env} {x y : Str} {px py tpos p' : Pos} {k k' : Nat} {vs : List Expr} (hk : env.scope.kind = .function) (kx : env.kindOf x = some .local) (ky : env.kindOf y = some .local) (ok : swapOk2 x y px py vs = true) :
    swappedStores [.Tuple [.Name x px, .Name y py] k tpos] (.Tuple vs k' p') env = pure (some [x, y]) := by
  unfold swapOk2 at ok
  simp only [Bool.and_eq_true, beq_iff_eq, Bool.not_eq_true'] at ok
  obtain ⟨⟨⟨⟨⟨h1, h2⟩, h3⟩, h4⟩, h5⟩, h6⟩ := ok
  have hb : env.blockKind = .function := by unfold Env.blockKind; rw [hk]; rfl
  have hst : ∀ f : Expr → Bool, (∀ e, f e = isStarE e) → vs.any f = false := fun f hf => by rw [show f = isStarE from funext hf]; exact h4
  have hn : ∀ f : Expr → Option Str, f (.Name x px) = some x → f (.Name y py) = some y → [Expr.Name x px, Expr.Name y py].filterMap f = [x, y] := fun f h1 h2 => by
    rw [List.filterMap_cons, h1]; dsimp only; rw [List.filterMap_cons, h2]; rfl
  unfold swappedStores
  dsimp only
  rw [h3, hb]
  simp only [List.length_cons, List.length_nil]
  rw [if_neg (by decide)]
  rw [hst _ (fun e => by cases e <;> rfl), if_neg (by decide)]
  have e0 : ([Expr.Name x px, Expr.Name y py].head?.map (·.pos.line)).getD 0 = px.line := rfl
  rw [hn _ (by dsimp only; rw [e0, kx]; simp) (by dsimp only; rw [e0, ky, h1]; simp), h2, h5, h6]
  rfl

section
variable {G : Gx} {ρ : Rho} {σ : Led}
noncomputable def AsL (G : Gx) : List Expr → List PV → Rho → Led → (Rho → Led → Prop) → Prop
  | [], [], ρ, σ, Q => Q ρ σ
  | t :: ts, p :: ps, ρ, σ, Q => As G t p ρ σ fun ρ' σ' => AsL G ts ps ρ' σ' Q
  | _, _, _, _, _ => False
theorem asL_run {G : Gx} : ∀ (ts : List Expr) (ps : List PV) {ρ : Rho} {σ : Led} {Q : Rho → Led → Prop} {A : Around} {bs im : PM} {s : Shared} {vs : List Value}, AsL G ts ps ρ σ Q → AOk G.n A → St G bs im s ρ σ → VRs im ps vs → ts.all (fun t => !isStarE t) = true →
    wpAny G.C.M A (assignInOrder ((assignEach ts G.env).map (·.2)) vs) (Post G relU bs im (fun _ ρ' σ' => Q ρ' σ')) Bot s
  | [], [], ρ, σ, Q, A, bs, im, s, vs, h, hA, hS, hv, _ => by rw [hv.nil_inv]; exact assignInOrder_nil (.now (r := ()) hS trivial h)
  | [], _ :: _, _, _, _, _, _, _, _, _, h, _, _, _, _ => h.elim
  | _ :: _, [], _, _, _, _, _, _, _, _, h, _, _, _, _ => h.elim
  | t :: ts, p :: ps, ρ, σ, Q, A, bs, im, s, vs, h, hA, hS, hv, hst => by
    obtain ⟨v, vs', rfl, h1, h2⟩ := hv.cons_inv
    rw [List.all_cons, Bool.and_eq_true] at hst
    have e : (assignEach (t :: ts) G.env).map (·.2) = (fun v => assign t G.env v) :: (assignEach ts G.env).map (·.2) := by
      cases t <;> first | rfl | exact Bool.noConfusion (show false = true from hst.1)
    rw [e]
    refine assignInOrder_cons (wpAny_mono (h A bs im s v hA hS h1) (fun _ s₁ hqx => ?_) fun _ _ x => x)
    obtain ⟨im₁, _, ρ₁, σ₁, e₁, _, hS₁, hq⟩ := hqx
    exact wpAny_mono (asL_run ts ps hq hA hS₁ (h2.mono e₁.1) hst.2) (fun _ _ q => q.ext e₁) fun _ _ x => x
theorem assignEach_len : ∀ (ts : List Expr) (env : Env), (assignEach ts env).length = ts.length
  | [], _ => rfl
  | t :: ts, env => by
    have : (assignEach (t :: ts) env).length = (assignEach ts env).length + 1 := by cases t <;> rfl
    rw [this, assignEach_len ts env]; rfl
theorem assignEach_star : ∀ (ts : List Expr) (env : Env), ts.all (fun t => !isStarE t) = true → (assignEach ts env).findIdx? (·.1) = none
  | [], _, _ => rfl
  | t :: ts, env, h => by
    rw [List.all_cons, Bool.and_eq_true] at h
    have e : ∃ f, assignEach (t :: ts) env = (false, f) :: assignEach ts env := by
      cases t <;> first | exact ⟨_, rfl⟩ | exact Bool.noConfusion (show false = true from h.1)
    obtain ⟨f, e⟩ := e
    rw [e, List.findIdx?_cons]
    simp [assignEach_star ts env h.2]
theorem unpack_any {prog : Program} {w : World} {A : Around} {E : Value → Shared → Prop} {s : Shared} {a : Addr} {vs : List Value} {n : Nat} {ts : List Expr} {env : Env} {k : Nat} {pos : Pos} {Q : Unit → Shared → Prop} (hh : A.handled = none) (ho : s.heap.get? a = some (lstO vs n) ∨ s.heap.get? a = some (tupO vs n))
    (hl : ts.length = vs.length) (hst : ts.all (fun t => !isStarE t) = true)
    (h : ∀ h', (∀ b o, s.heap.get? b = some o → h'.get? b = some o) → wpAny (model prog w) A (assignInOrder ((assignEach ts env).map (·.2)) vs) Q E { s with heap := h' }) : wpAny (model prog w) A (assign (.Tuple ts k pos) env (.ref a)) Q E s := by
  have hlen : (assignEach ts env).length = vs.toArray.size := by rw [assignEach_len, hl]; simp
  have kk : ∀ h', Heap.ExtBut s.heap.objs.size s.heap h' → ∀ b o, s.heap.get? b = some o → h'.get? b = some o := fun h' he b o e => he b o (Nat.ne_of_lt (Heap.lt_size e)) e
  show wpAny _ _ (do standAt pos; unpack (.ref a) (assignEach ts env)) _ _ _
  refine wpAny_bind (wpAny_standAt ?_)
  unfold unpack
  rw [hlen, assignEach_star ts env hst]
  rcases ho with ho | ho
  · refine wpAny_bind (wpAny_holding (kun_itemsOf hh (isList_of ho) fun h' he => ?_))
    have := h h' (kk h' he); simpa using this
  · refine wpAny_bind (wpAny_holding (unpackItems_tuple hh ⟨_, ho, rfl, n, rfl⟩ fun h' he => ?_))
    have := h h' (kk h' he); simpa using this
theorem As.tup {ts : List Expr} {ps : List PV} {k : Nat} {pos : Pos} {Q : Rho → Led → Prop} (h : AsL G ts ps ρ σ Q) (hl : ts.length = ps.length) (hst : ts.all (fun t => !isStarE t) = true) : As G (.Tuple ts k pos) (.tup ps) ρ σ Q := fun A bs im s v hA hS hv => by
  obtain ⟨a, vs, n, rfl, ho, hvs⟩ := hv.tup_i
  refine unpack_any hA.1 (.inr (hS.l.him _ _ ho)) (by rw [hl, hvs.length]) hst fun h' hk => ?_
  exact asL_run ts ps h hA (hS.grow hk s.toks) hvs hst
theorem Ex1.asgTup {ts : List Expr} {k : Nat} {tpos pos : Pos} {value : Expr} {Q : Fl → Rho → Led → Prop} (h : Ev G value ρ σ (KAs G (.Tuple ts k tpos) Q))
    (hw : ∀ bs im s, St G bs im s ρ σ → swappedStores [.Tuple ts k tpos] value G.env = pure none) (hs : swapsWithSole [.Tuple ts k tpos] value pos.line G.env = pure false := by rfl) : Ex1 G (.Assign [.Tuple ts k tpos] value pos) ρ σ Q := fun A bs im s hA hS => by
  refine Assign_Tuple (wpAny_mono (Tr.then (f := fun v => assign (.Tuple ts k tpos) G.env v) (rel' := relU) (Q := fun _ ρ' σ' => Q .next ρ' σ') h hA hS) (fun v s₁ h₁ => wpAny_mono h₁ (fun _ s₂ ⟨im₂, _, ρ₂, σ₂, e₂, _, hS₂, hq⟩ => ⟨im₂, Fl.next, ρ₂, σ₂, e₂, rfl, hS₂, hq⟩) fun _ _ x => x) fun _ _ x => x) hs (hw _ _ _ hS)
theorem Ex1.asgSwap {x y : String} {px py tpos pos p' : Pos} {k k' : Nat} {vs : List Expr} {Q : Fl → Rho → Led → Prop} (hx : (x, NameKind.local) ∈ G.ns) (hy : (y, NameKind.local) ∈ G.ns)
    (h : Ev G (.Tuple vs k' p') ρ σ (fun r ρ₁ σ₁ => ∃ p q ρ₂ ρ₃, r = .tup [p, q] ∧ SetR y q ρ₁ ρ₂ ∧ SetR x p ρ₂ ρ₃ ∧ Q .next ρ₃ σ₁)) (ok : swapOk2 (Str.ofString x) (Str.ofString y) px py vs = true)
    (hs : swapsWithSole [.Tuple [.Name (Str.ofString x) px, .Name (Str.ofString y) py] k tpos] (.Tuple vs k' p') pos.line G.env = pure false := by rfl) :
    Ex1 G (.Assign [.Tuple [.Name (Str.ofString x) px, .Name (Str.ofString y) py] k tpos] (.Tuple vs k' p') pos) ρ σ Q := fun A bs im s hA hS => by
  refine Assign_Tuple_swapped (names := [Str.ofString x, Str.ofString y]) ?_ hs (swapped2 hS.f.kind (hS.f.kn _ hx).1 (hS.f.kn _ hy).1 ok)
  refine wpAny_mono (h A bs im s hA hS) (fun v s₁ hqx => ?_) fun _ _ x => x
  obtain ⟨im₁, r, ρ₁, σ₁, e₁, hr, hS₁, p, q, ρ₂, ρ₃, hpq, u2, u3, hQ⟩ := hqx
  subst hpq
  obtain ⟨a, ws, n, rfl, ho, hws⟩ := hr.tup_i
  obtain ⟨vp, vq, rfl, hp, hq⟩ := two_v hws
  have hlen : [Str.ofString x, Str.ofString y].length = ([vp, vq] : List Value).toArray.size := rfl
  rw [hlen]
  refine unpackItems_tuple hA.1 ⟨_, hS₁.l.him _ _ ho, rfl, n, rfl⟩ fun h' he => ?_
  have hS₂ : St G bs im₁ { s₁ with heap := h' } ρ₁ σ₁ := hS₁.grow (fun b o e => he b o (Nat.ne_of_lt (Heap.lt_size e)) e) s₁.toks
  show wpAny _ _ (assignInOrder [fun v => bindName G.env (Str.ofString y) v, fun v => bindName G.env (Str.ofString x) v] [vq, vp]) _ _ _
  refine assignInOrder_cons (wpAny_bindName (wpAny_mono (store_con (Q := fun ρ' σ' => ρ' = ρ₂ ∧ σ' = σ₁) hy u2 ⟨rfl, rfl⟩ A bs im₁ _ vq hA hS₂ hq) (fun _ s₃ hqx => ?_) fun _ _ x => x))
  obtain ⟨im₃, _, ρ', σ', e₃, _, hS₃, hρ, hσ⟩ := hqx
  subst hρ; subst hσ
  refine assignInOrder_cons (wpAny_bindName (wpAny_mono (store_con (Q := fun ρ' σ'' => ρ' = ρ₃ ∧ σ'' = σ') hx u3 ⟨rfl, rfl⟩ A bs im₃ _ vp hA hS₃ (hp.mono e₃.1)) (fun _ s₄ hqx => ?_) fun _ _ x => x))
  obtain ⟨im₄, _, ρ'', σ'', e₄, _, hS₄, hρ, hσ⟩ := hqx
  subst hρ; subst hσ
  exact assignInOrder_nil ⟨im₄, Fl.next, _, _, e₁.trans (e₃.trans e₄), rfl, hS₄, hQ⟩
end
end Mine.Tactic
end
section
open PySem PySem.W PyProof.Rows PySem.Calls
set_option Elab.async false
set_option maxRecDepth 100000
namespace Mine.Tactic

noncomputable def clsOkB (K : Frag) (C : Addr) : Bool :=
  makesIn K C && (findIn K (.ref C) "__getattribute__" == some (some (.builtin "object.__getattribute__"))) && (findIn K (.ref C) "__getattr__" == some none) && (findIn K (.ref C) "__setattr__" == some (some (.builtin "object.__setattr__"))) && plainOver K C && hasDictIn K C
structure ClsOk (K : Frag) (C : Addr) : Prop where
  makes : makesIn K C = true
  ga : findIn K (.ref C) "__getattribute__" = some (some (.builtin "object.__getattribute__"))
  gt : findIn K (.ref C) "__getattr__" = some none
  sa : findIn K (.ref C) "__setattr__" = some (some (.builtin "object.__setattr__"))
  over : plainOver K C = true
  hd : hasDictIn K C = true
theorem clsOk_iff {K : Frag} {C : Addr} (h : clsOkB K C = true) : ClsOk K C := by
  unfold clsOkB at h
  simp only [Bool.and_eq_true, beq_iff_eq] at h
  obtain ⟨⟨⟨⟨⟨a, b⟩, c⟩, d⟩, e⟩, f⟩ := h
  exact ⟨a, b, c, d, e, f⟩
theorem StL.K {C : Cx} {bs im : PM} {s : Shared} {σ : Led} (x : StL C bs im s σ) : C.K.In s.heap := fun a o e => x.hbs a o (x.cb a o e)
theorem ins_at {h : Heap} {x d C : Addr} {es : List DictEntry} {n : Nat} (h1 : h.get? x = some (insO C d)) (h2 : h.get? d = some (dicO es n)) : InstAt h x (insO C d) C (some (dicO es n)) := ⟨h1, rfl, rfl, h2⟩
theorem lookIn_head (x : String) (hh : Int) (t : Tok) (v : Value) (es : List DictEntry) (n : Nat) : lookIn (Str.ofString x) (dicO (⟨hh, .str (Str.ofString x) t, v⟩ :: es) n) = some (some v) := by
  have : (Value.str (Str.ofString x) t).isStr (Str.ofString x) = true := by show (Str.ofString x == Str.ofString x) = true; simp
  unfold lookIn
  simp only [dicO, List.find?_cons, this]
noncomputable def handsOk : PV → Bool
  | .ref _ | .none | .bool _ | .int _ | .str _ | .tup _ | .lst _ => true
  | _ => false
theorem hands_ok {im : PM} {p : PV} {v : Value} (h : handsOk p = true) (hv : VR im p v) : handedIn v = true := by
  cases p with
  | ref a => rw [hv.ref_i]; rfl
  | none => rw [hv.none_i]; rfl
  | bool b => rw [hv.bool_i]; rfl
  | int i => obtain ⟨t, rfl⟩ := hv.int_i; rfl
  | str l => obtain ⟨t, rfl⟩ := hv.str_i; rfl
  | tup l => obtain ⟨_, _, _, rfl, _⟩ := hv.tup_i; rfl
  | lst l => obtain ⟨_, _, _, rfl, _⟩ := hv.lst_i; rfl
  | _ => cases h

section
variable {G : Gx} {ρ : Rho} {σ : Led} {Q : PV → Rho → Led → Prop}
theorem Op1.field {C : Addr} {x : String} {p : PV} {l : List (String × PV)} (hc : ClsOk G.C.K C) (hn : findIn G.C.K (.ref C) (Str.ofString x) = some none) (hp : handsOk p = true) (h : Q p ρ σ) : Op1 G (fun v => getAttr v (Str.ofString x) true) (.obj C ((x, p) :: l)) ρ σ Q := fun A bs im s v hA hS hv => by
  obtain ⟨a, d, es, n, rfl, h1, h2, h3⟩ := hv.obj_i
  obtain ⟨hh, t, w, es', rfl, hw, _⟩ := h3.cons_inv
  have I := ins_at (hS.l.him _ _ h1) (hS.l.him _ _ h2)
  exact get_value hS.l.K I hc.ga (findObj_own hc.hd hn rfl (lookIn_head ..)) (hands_ok hp hw) (.now (hS.toks _) hw h)
theorem MethP.obj {C f : Addr} {x : String} {p : PV} {name : Str} (hc : ClsOk G.C.K C) (hf : findIn G.C.K (.ref C) name = some (some (.ref f))) (ht : typeIn G.C.K (.ref f) = some (.type "function")) (hx : (Str.ofString x == name) = false) : MethP G (.obj C [(x, p)]) name (.ref f) [.obj C [(x, p)]] ρ σ := fun A bs im s v pl Qv hA hS hv k => by
  obtain ⟨a, d, es, n, rfl, h1, h2, h3⟩ := id hv.obj_i
  obtain ⟨hh, t, w, es', rfl, hw, h4⟩ := h3.cons_inv
  have e := h4.nil_inv
  subst e
  have I := ins_at (hS.l.him _ _ h1) (hS.l.him _ _ h2)
  refine method_fn hS.l.K I hc.ga hc.gt hf ht ?_ (k _ _ s.toks .ref (.cons hv .nil))
  have e : (Value.str (Str.ofString x) t).isStr name = false := hx
  unfold shadowIn lookIn
  simp only [dicO, List.find?_cons, e, List.find?_nil]
  rfl
end

theorem setattr_new {prog : Program} {w : World} {A : Around} {E : Value → Shared → Prop} {s : Shared} {K : Frag} {C x d : Addr} {n : Nat} {name : Str} {v : Value} {Q : Unit → Shared → Prop} (X : K.In s.heap) (hc : ClsOk K C) (ht : takerIn K C name = some none)
    (hx : s.heap.get? x = some (insO C d)) (hd : s.heap.get? d = some (dicO [] n))
    (h : ∀ h' tk hh t m, Heap.SameBut d s.heap h' → h'.get? d = some (dicO [⟨hh, .str name t, v⟩] m) → Q () { s with heap := h', toks := tk }) : wpAny (model prog w) A (setAttr (.ref x) name v) Q E s := by
  have I := ins_at hx hd
  refine set_plain X I hc.sa (osa_open (s := { s with toks := s.toks + 1 }) X I hc.over ht fun b => ?_)
  obtain ⟨cd, hc1, hd'⟩ := any_some hc.hd
  refine wpAny_bind (wpAny_pure (wpAny_bind (wpAny_bind (wpAny_loadPart hx (wpAny_bind (looks_clsIn X hc1 _ _ _ _ (fun _ _ e => e) ?_))))))
  rw [hd']
  refine wpAny_pure (a := some d) (wpAny_bind (wpAny_pure (wpAny_bind ?_)))
  unfold nsSet
  refine wpAny_bind (wpAny_bind (wpAny_askSetting (wpAny_pure (wpAny_bind (wpAny_mkText (wpAny_bind (wpAny_loadPart hd ?_)))))))
  have hput : ∀ k key, Obj.putName name k key v (dicO [] n) = dicO [⟨k, key, v⟩] (n + 1) := fun k key => by simp [Obj.putName_eq, Obj.putNameByArray]
  dsimp only
  rw [show aRefKeyMayBeTheName name [].toArray = false by rw [aRefKeyMayBeTheName_at]; simp]
  rw [if_neg (by decide)]
  refine wpAny_updatePart hd ?_
  have D' := Heap.get?_update_self (Obj.putName name (PyData.keyHash w.params name) (.str name (s.toks + 1)) v) hd (by rw [hput]; rfl)
  rw [hput] at D'
  refine wpAny_bind (wpAny_lookBehind D' (pastItsLine_dict (by rw [List.size_toArray, sizeLine_eq]; simp)) ?_)
  exact wpAny_pure (h _ _ _ _ _ (Heap.SameBut.update ..) D')

section
variable {G : Gx} {ρ : Rho} {σ : Led}
theorem Ex1.setField {o value : Expr} {y : String} {p' pos : Pos} {Q : Fl → Rho → Led → Prop} (h : Ev G value ρ σ (fun p ρ₁ σ₁ => Ev G o ρ₁ σ₁ (fun a ρ₂ σ₂ => ∃ C x d σ₃, a = .ref x ∧ ClsOk G.C.K C ∧ takerIn G.C.K C (Str.ofString y) = some none ∧ (x, LO.ins C d) ∈ σ₂ ∧ Upd d (.att []) (.att [(y, p)]) σ₂ σ₃ ∧ Q .next ρ₂ σ₃)))
    (hs : swapsWith value (some (.Attribute o (Str.ofString y) p')) pos.line G.env = pure false := by rfl) : Ex1 G (.Assign [.Attribute o (Str.ofString y) p'] value pos) ρ σ Q := fun A bs im s hA hS => by
  refine plainObj_wpAny_Assign_Attribute (wpAny_mono (h A bs im s hA hS) (fun v s₁ hqx => ?_) fun _ _ x => x) hs
  obtain ⟨im₁, p, ρ₁, σ₁, e₁, hr, hS₁, h1⟩ := hqx
  refine wpAny_mono (h1 A bs im₁ s₁ hA hS₁) (fun w s₂ hqx => ?_) fun _ _ x => x
  obtain ⟨im₂, a, ρ₂, σ₂, e₂, ha, hS₂, C, x, d, σ₃, hax, hc, ht, hx, u, hq⟩ := hqx
  subst hax
  rw [ha.ref_i]
  obtain ⟨hx', _⟩ := hS₂.l.led _ hx
  obtain ⟨⟨es, n, hd, hes⟩, _⟩ := hS₂.l.led _ u.mem
  have e := hes.nil_inv
  subst e
  refine wpAny_up (setattr_new hS₂.l.K hc ht hx' hd fun h' tk hh t m hsb hd' htk => ?_)
  dsimp only at htk
  have hS₃ := hS₂.upd u tk hsb ⟨_, _, hd', .cons (hr.mono e₂.1) .nil⟩
  exact ⟨im₂, Fl.next, ρ₂, σ₃, e₁.trans e₂, rfl, hS₃, hq⟩

theorem units_make (C : Addr) (vals : List Value) (kw : List (Str × Value)) : (Code.builtin "type.__call__" ⟨.ref C :: vals, kw⟩).cUnits = 1 := rfl
theorem AOk.make {n : Nat} {A : Around} (h : AOk (n + 1) A) (C : Addr) (vals : List Value) : AOk n (A.under (.builtin "type.__call__" ⟨.ref C :: vals, []⟩)) := ⟨h.1, by have := h.2.1; rw [depth_under_make]; walk_at "zo", by
  have := h.2.2
  have e : (A.under (.builtin "type.__call__" ⟨.ref C :: vals, []⟩)).units ≤ A.units + 8 := by
    show A.units + (Code.builtin "type.__call__" ⟨.ref C :: vals, []⟩).cUnits ≤ _
    have := units_make C vals []
    walk_at "zo"
  walk_at "zo"⟩
theorem StL.pushLed {C : Cx} {bs im : PM} {s : Shared} {σ : Led} (x : StL C bs im s σ) (o : Obj) (lo : LO) (t : Nat) (hr : LR im (s.heap.push o) s.heap.objs.size lo) (ht : s.toks ≤ t := by first | exact Nat.le_refl _ | exact Nat.le_succ _ | assumption | walk_at "zo") :
    StL C bs im { s with heap := s.heap.push o, toks := t } ((s.heap.objs.size, lo) :: σ) := by
  have hn := get?_size_none s.heap
  have y := x.grow (fun b p e => Heap.get?_push_of_some o e) t ht
  refine ⟨y.os, y.gens, y.cb, y.hbs, y.him, fun p hp => ?_, ?_, y.gok, y.tk⟩
  · rcases List.mem_cons.mp hp with rfl | hp
    · exact ⟨hr, x.bs_none hn, x.im_none hn⟩
    · exact y.led p hp
  · rw [List.map_cons]; exact List.nodup_cons.mpr ⟨x.led_some hn, x.nd⟩
theorem StL.freezeObj {C : Cx} {bs im : PM} {s : Shared} {σ : Led} {D : Addr} {lo : LO} {o : Obj} (hS : StL C bs im s ((D, lo) :: σ)) (ho : s.heap.get? D = some o) : Ext bs im (im.put D o) ∧ StL C bs (im.put D o) s σ := by
  obtain ⟨_, hb, hi⟩ := hS.led (D, lo) (.head _)
  have hput := PM.put_keep hi o
  have hnd := hS.nd
  rw [List.map_cons, List.nodup_cons] at hnd
  refine ⟨⟨hput, fun a e => ?_⟩, ⟨hS.os, hS.gens, hS.cb, hS.hbs, fun a p e => ?_, fun p hp => ?_, hnd.2, hS.gok, hS.tk⟩⟩
  · by_cases q : a = D
    · subst q; exact .inr hb
    · rw [PM.put_ne q] at e; exact .inl e
  · rw [PM.put_at] at e; split at e
    · rename_i q; cases e; rw [q]; exact ho
    · exact hS.him a p e
  · obtain ⟨a, b, c⟩ := hS.led p (.tail _ hp)
    exact ⟨a.mono hput, b, by rw [PM.put_ne (fun q => hnd.1 (List.mem_map.mpr ⟨p, hp, q⟩))]; exact c⟩
theorem FnSpec.make {C : Cx} {n : Nat} {cl fI : Addr} {ps : List PV} {σ : Led} {Q : PV → Led → Prop} (hc : ClsOk C.K cl) (hi : findIn C.K (.ref cl) "__init__" = some (some (.ref fI))) (hf : typeIn C.K (.ref fI) = some (.type "function")) (hkeep : keepIn C.K (.ref cl) = true)
    (h : ∀ x d, FnSpec C n (.ref fI) (.ref x :: ps) [] ((x, .ins cl d) :: (d, .att []) :: σ) (fun r σ' => r = .none ∧ ∃ l σ'', σ' = (x, .ins cl d) :: (d, .att l) :: σ'' ∧ Q (.obj cl l) σ'')) :
    FnSpec C (n + 1) (.ref cl) ps [] σ Q := fun A bs im s fv vs kvs hA hS hfv hv hk => by
  rw [hfv.ref_i]
  have : kvs = [] := by have := hk.1; simpa using this
  subst this
  have hM := makes_of (M := C.M) hS.K hc.makes
  refine ⟨keeps_K hkeep _ hS.K, ?_⟩
  have S1 := hS.pushLed emptyDict (.att []) s.toks ⟨[], 0, Heap.get?_push_size _ rfl, .nil⟩
  have S2 := S1.pushLed (instObj cl s.heap.objs.size) (.ins cl s.heap.objs.size) s.toks (Heap.get?_push_size _ rfl)
  dsimp only at S2
  rw [Heap.size_push] at S2
  obtain ⟨hh, g, dr, t, os⟩ := s
  refine make_core hM (looks_findIn hS.K hi) (fun self => bind_fn hS.K self hf) (.inl rfl) ?_
  obtain ⟨_, H⟩ := h (hh.objs.size + 1) hh.objs.size _ bs im _ (.ref fI) (.ref (hh.objs.size + 1) :: vs) [] (hA.make cl vs) S2 .ref (.cons .ref hv) .nil
  refine codeAny_mono H fun r s' hqx => ?_
  obtain ⟨v, hr, im', p, σ', e, hp, hL, hpn, l, σ'', hσ, hq⟩ := hqx
  subst hr; subst hσ; subst hpn
  have hx := (hL.led _ (.head _)).1
  obtain ⟨es, m, hd, hes⟩ := (hL.led _ (.tail _ (.head _))).1
  obtain ⟨e1, L1⟩ := hL.freezeObj (o := insO cl hh.objs.size) hx
  obtain ⟨e2, L2⟩ := L1.freezeObj hd
  refine ⟨hp.none_i, _, rfl, _, _, _, e.trans (e1.trans e2), .obj (e2.1.1 _ _ (PM.put_self ..)) (PM.put_self ..) ((hes.mono e1.1).mono e2.1), L2, hq⟩
end
end Mine.Tactic
end
section
open PySem PySem.W PyProof.Rows PySem.Calls
set_option Elab.async false
set_option maxRecDepth 100000
namespace Mine.Tactic
theorem mro_object : mroOf (.type "object") = pure [.type "object"] := by kernel_rfl
theorem lookup_object_new : typeLookup (.type "object") "__new__" = pure (some (.builtin "object.__new__")) := by rw [typeLookup_type, builtinLookup_eq_fast]; kernel_rfl
theorem lookup_object_init : typeLookup (.type "object") "__init__" = pure (some (.builtin "object.__init__")) := by rw [typeLookup_type, builtinLookup_eq_fast]; kernel_rfl
theorem made_object : Bind.madeBy (.type "object") = pure (some "object.__new__") := madeBy_type mro_object lookup_object_new (by decide +kernel)
theorem typeCall_object : checkTypeCall "object" ⟨[], []⟩ = pure () := by kernel_rfl
theorem newCall_object : checkBuiltinCall "object.__new__" ⟨[.type "object"], []⟩ = pure () := by kernel_rfl
theorem create_object : ((Manifest.find? "object").bind (·.mro.findSome? fun t => (Manifest.find? t).bind fun b => if b.noNew then some true else if b.attrs.any (·.1 == "__new__") then some false else none)).getD false = false := by decide +kernel
theorem sub_object : isSubtype (.type "object") (.type "object") = pure true := by rw [isSubtype_type]; kernel_rfl
theorem on_eq : Builtin.«object.__new__» ⟨[.type "object"], []⟩ = (newObj (.type "object") .plain none >>= ret) := by kernel_rfl
set_option maxHeartbeats 1000000 in
theorem call_object {prog : Program} {w : World} {A : Around} {E : Value → Shared → Prop} {s : Shared} {Q : Value → Shared → Prop}
   (h : ∀ tk, Q (.ref s.heap.objs.size) { s with heap := s.heap.push { cls := .type "object", data := .plain }, toks := tk }) : wpAny (model prog w) A (call (.type "object") []) Q E s := by
  obtain ⟨hp, g, d, tk, os⟩ := s
  have f1 := mro_object
  have f2 := lookup_object_new
  have f3 := lookup_object_init
  have f4 := made_object
  have f5 := typeCall_object
  have f6 := newCall_object
  have f7 := create_object
  have f8 := sub_object
  refine wpAny_call (codeAny_of_tree ?_)
  show wpAny _ _ (callAny (.type "object") _) _ _ _
  refine wpAny_pure ⟨Code.quiet_builtin _ (by decide +kernel), codeAny_builtin F.entry_type_call ?_⟩
  rw [Around.under_plain (weight_type_call_type "object" [] []) rfl]
  repeat (any_goals (first | assumption | wp_step))
  refine codeAny_of_tree ?_
  show wpAny _ A.in1.in1 (do checkBuiltinCall "object.__new__" ⟨[.type "object"], []⟩; again (.builtin "object.__new__" ⟨[.type "object"], []⟩)) _ _ _
  refine wpAny_bind (wpAny_of_eq newCall_object (wpAny_pure ⟨Code.quiet_builtin _ F.objNew.quiet, codeAny_builtin F.objNew.entry ?_⟩))
  rw [on_eq]
  refine wpAny_bind (wpAny_newObj_type ?_)
  refine wpAny_pure ?_
  have hT : ∀ tk', (⟨hp.push { cls := .type "object", data := .plain }, g, d, tk', os⟩ : Shared).TypeIs (.ref hp.objs.size) "object" := fun _ => ⟨_, Heap.get?_push_size _ rfl, rfl⟩
  have hx : (hp.push { cls := .type "object", data := .plain }).get? hp.objs.size = some { cls := .type "object", data := .plain } := Heap.get?_push_size _ rfl
  have f9 : bindSpecial (.builtin "object.__init__") (.ref hp.objs.size) = pure (.builtin "object.__init__", [.ref hp.objs.size]) := oi_bind _
  dsimp only
  clear f4 f5 f6 f7
  repeat (any_goals (first | assumption | exact hT _ | with_reducible refine wpAny_loadPart' hx ?_ | wp_step))
  refine codeAny_call_builtin oi_plain entry_oi (F.slot_object_init.check _ _ _ _ _ _ _ _ (hT _) (oi_args _) ?_)
  show wpAny _ _ (Builtin.«object.__init__» ⟨[.ref hp.objs.size], []⟩) _ _ _
  rw [oi_run]
  refine wpAny_pure ?_
  refine wpAny_pure ?_
  exact wpAny_pure (h _)
open Builtin.Re
theorem slot_search : Slot "re.Pattern" "search" "re.Pattern.search" :=
  .of (owner := "re.Pattern") (n := "search") (by rw [typeLookup_type, builtinLookup_eq_fast]; kernel_rfl) (by decide +kernel) (by decide +kernel) (by decide +kernel)
    (by first | exact .inl (by decide +kernel) | exact .inr (by decide +kernel)) (by rw [isSubtype_type]; kernel_rfl)
theorem entry_search : entryFor table "re.Pattern.search" = some Builtin.«re.Pattern.search» := entryFor_of_tree (by kernel_rfl)
theorem args_search (a b : Value) : argsOk "re.Pattern.search" ⟨[a, b], []⟩ := by unfold argsOk; kernel_rfl
theorem type_search : typeOf (.builtin "re.Pattern.search") = pure (.type "method_descriptor") := by show builtinType _ = _; rw [builtinType_eq_fast]; kernel_rfl
noncomputable def reFin : Nat → Sre.M → Option Sre.M
  | 0, _ => none
  | k + 1, m => if (m.runFor reTurnSteps).outcome.isSome then some (m.runFor reTurnSteps) else reFin k (m.runFor reTurnSteps)
section
variable {M : Model} {A : Around} {E : Value → Shared → Prop} {s : Shared}
theorem drive_run {Q : Sre.M → Shared → Prop} {m' : Sre.M} (h : Q m' s) : ∀ (k turns : Nat) (m : Sre.M), reFin k m = some m' → k ≤ turns → wpAny M A (reDrive turns m) Q E s
  | 0, _, _, e, _ => by cases e
  | k + 1, 0, _, _, hk => absurd hk (by walk_at "zo")
  | k + 1, turns + 1, m, e, hk => by
    unfold reFin at e
    unfold reDrive
    dsimp only
    split at e
    · rename_i hs
      cases e
      rw [if_pos hs]; exact wpAny_pure h
    · rename_i hs
      rw [if_neg hs]
      exact wpAny_bind (wpAny_rule (drive_run h k turns _ e (by walk_at "zo")))
theorem rules_run {m : Sre.M} {Q : PUnit → Shared → Prop} (h : Q PUnit.unit s) : ∀ (l : List Nat), wpAny M A (forIn l PUnit.unit fun i _ => if m.seen.has i = true then (rule (Sre.names.getD i "") >>= fun _ => pure (ForInStep.yield PUnit.unit)) else pure (ForInStep.yield PUnit.unit)) Q E s
  | [] => wpAny_pure h
  | i :: r => by
    rw [List.forIn_cons]
    refine wpAny_bind ?_
    have k := rules_run (m := m) h r
    split
    · exact wpAny_bind (wpAny_rule (wpAny_pure k))
    · exact wpAny_pure k
theorem toEnd_failed {m m' : Sre.M} {Q : Option Sre.M → Shared → Prop} (k : Nat) (hk : k ≤ 2 ^ 64) (e : reFin k m = some m') (ho : m'.outcome = some .failed) (h : Q none s) : wpAny M A (reRunToEnd m) Q E s := by
  unfold reRunToEnd
  refine wpAny_bind (drive_run ?_ k _ m e hk)
  refine wpAny_bind ?_
  refine wpAny_mono (rules_run (m := m') (Q := fun _ s' => s' = s) rfl (List.range Sre.names.size)) (fun _ s' e => ?_) fun _ _ x => x
  subst e
  rw [ho]
  exact wpAny_pure h
end
set_option maxHeartbeats 1000000 in
theorem search_run {prog : Program} {w : World} {A : Around} {E : Value → Shared → Prop} {s : Shared} {a ca : Addr} {o oc : Obj} {fs items : Array Value} {n : Nat} {x : Str} {t : Tok} {Q : Value → Shared → Prop} {m' : Sre.M} (k : Nat) (ho : s.heap.get? a = some o) (hcl : o.cls = .type "re.Pattern") (hd : o.data = .fields fs)
    (h6 : reRawNat (fs.getD 6 .none) = 0) (h5 : fs.getD 5 .none = .ref ca) (hca : s.heap.get? ca = some oc) (hcd : oc.data = .seq items n) (hx : x.cps.size < 2 ^ 60) (hk : k ≤ 2 ^ 64)
    (e : reFin k (Sre.forSearch ((items.map reRawOf).map (·.toNat)) x.cps (reRawNat (fs.getD 2 .none)) 0 x.cps.size false) = some m') (hf : m'.outcome = some .failed) (h : Q .none s) :
    wpAny (model prog w) A (call (.builtin "re.Pattern.search") [.ref a, .str x t]) Q E s := by
  refine wpAny_call_entry slot_search ⟨_, ho, hcl⟩ entry_search ?_ (args_search _ _)
  obtain ⟨hp, g, d, tk, os⟩ := s
  unfold Builtin.«re.Pattern.search» reTarget
  have hcl' : ∀ i : Nat, min (2 ^ 63 - 1 : Int).toNat i = min 9223372036854775807 i := fun i => rfl
  refine wpAny_bind ?_
  have named : reNamed "re.Pattern.search" "search" ["string", "pos", "endpos"] 1 [.str x t] [] = pure [some (.str x t), none, none] := by kernel_rfl
  dsimp only
  rw [named]
  refine wpAny_bind (wpAny_pure ?_)
  dsimp only
  refine wpAny_bind (wpAny_pure ?_)
  refine wpAny_bind (wpAny_pure ?_)
  have text : reTextOf (.str x t) = pure (x.cps, 0) := by unfold reTextOf; rfl
  refine wpAny_bind ?_
  unfold fieldsOf
  refine wpAny_bind (wpAny_loadPart ho ?_)
  rw [hd]
  refine wpAny_pure ?_
  rw [text]
  refine wpAny_bind (wpAny_pure ?_)
  dsimp only
  rw [h6, if_neg (by decide), if_neg (by decide)]
  have hno : reNoCollectionInside (.str x t) 0 = pure () := rfl
  rw [hno]
  refine wpAny_bind (wpAny_pure (wpAny_bind ?_))
  unfold reRawItems
  rw [h5]
  refine wpAny_bind (wpAny_seqItems hca hcd (wpAny_pure ?_))
  refine wpAny_pure ?_
  unfold reAnswer
  dsimp only
  have e1 : min (Int.toNat 0) x.cps.size = 0 := by simp
  have e2 : min (2 ^ 63 - 1 : Int).toNat x.cps.size = x.cps.size := by
    rw [show (2 ^ 63 - 1 : Int).toNat = 9223372036854775807 from rfl]; walk_at "zo"
  rw [e1, e2]
  refine wpAny_bind (toEnd_failed k hk ?_ hf ?_)
  · exact e
  · exact wpAny_pure ⟨_, rfl, h⟩

theorem plainAttrs_re : PlainAttrs "re.Pattern" :=
  ⟨⟨"object.__getattribute__", by rw [typeLookup_type, builtinLookup_eq_fast]; kernel_rfl, by decide +kernel⟩, by rw [typeLookup_type, builtinLookup_eq_fast]; kernel_rfl⟩

section
variable {G : Gx} {ρ : Rho} {σ : Led} {Q : PV → Rho → Led → Prop}
theorem CallP.object (h : ∀ a, Q (.ref a) ρ σ) : CallP G (.con (.type "object")) [] [] ρ σ Q := fun A bs im s fv vs kvs hA hS hf hv hk => by
  rw [hf.con_i, hv.nil_inv]
  have : kvs = [] := by have := hk.1; simpa using this
  subst this
  exact ⟨keeps_type, wpAny_up (call_object fun tk htk => .now (hS.grow (fun b o e => Heap.get?_push_of_some _ e) tk) .ref (h _))⟩
structure ReAt (K : Frag) (a : Addr) (code : Array Nat) : Prop where
  it : ∃ o fs ca oc items n, K.lookup a = some o ∧ o.cls = .type "re.Pattern" ∧ o.dict = none ∧ o.data = .fields fs ∧ reRawNat (fs.getD 6 .none) = 0 ∧ fs.getD 5 .none = .ref ca ∧ reRawNat (fs.getD 2 .none) = 0 ∧ K.lookup ca = some oc ∧ oc.data = .seq items n ∧ (items.map reRawOf).map (·.toNat) = code
noncomputable def missB (code : Array Nat) (l : List Nat) : Bool := match reFin 100 (Sre.forSearch code l.toArray 0 0 l.toArray.size false) with
  | some m => (match m.outcome with | some .failed => true | _ => false)
  | none => false
theorem MethP.search {a : Addr} {code : Array Nat} (hr : ReAt G.C.K a code) : MethP G (.con (.ref a)) (Str.ofString "search") (.con (.builtin "re.Pattern.search")) [.con (.ref a)] ρ σ := fun A bs im s v pl Qv hA hS hv k => by
  rw [hv.con_i]
  obtain ⟨o, fs, ca, oc, items, n, h1, h2, h3, _⟩ := hr.it
  have ho := hS.l.K _ _ h1
  exact getMethod_builtin ⟨_, ho, h2⟩ plainAttrs_re slot_search type_search (fun b e => by cases e; exact ⟨_, ho, h3⟩) (k _ _ s.toks .con (.cons .con .nil))
theorem CallP.search {a : Addr} {code : Array Nat} {l : List Nat} (hr : ReAt G.C.K a code) (hm : missB code l = true) (hz : l.length ≤ 16777216) (h : Q .none ρ σ) : CallP G (.con (.builtin "re.Pattern.search")) [.con (.ref a), .str l] [] ρ σ Q := .self fun A bs im s vs hA hS hv => by
  obtain ⟨v, w, rfl, hv1, hw1⟩ := two_v hv
  rw [hv1.con_i]
  obtain ⟨t, rfl⟩ := hw1.str_i
  obtain ⟨o, fs, ca, oc, items, n, h1, h2, h3, h4, h5, h6, h7, h8, h9, h10⟩ := hr.it
  unfold missB at hm
  cases e : reFin 100 (Sre.forSearch code l.toArray 0 0 l.toArray.size false) with
  | none => rw [e] at hm; cases hm
  | some m =>
    rw [e] at hm
    have ho : m.outcome = some .failed := by
      dsimp only at hm
      revert hm
      generalize m.outcome = z
      intro q
      rcases z with _ | (_ | _ | _) <;> first | rfl | cases q
    refine search_run 100 (hS.l.K _ _ h1) h2 h4 h5 h6 (hS.l.K _ _ h8) h9 (by show l.toArray.size < _; rw [List.size_toArray]; walk_at "zo") (by walk_at "zo") ?_ ho (.now hS .none h)
    rw [h10, h7]; exact e
end
end Mine.Tactic
end
section
open PySem PySem.W PyProof.Rows PySem.Calls
set_option Elab.async false
set_option maxRecDepth 100000
namespace Mine.Tactic
open Builtin Builtin.Str
section
variable {prog : Program} {w : World} {A : Around} {E : Value → Shared → Prop} {s : Shared} {d : Addr} {es : List DictEntry} {n : Nat}
end
section
variable {G : Gx} {ρ : Rho} {σ : Led} {Q : PV → Rho → Led → Prop}
end
end Mine.Tactic
end
section
open PySem PySem.W PyProof.Rows PySem.Calls
set_option Elab.async false
set_option maxRecDepth 100000
namespace Mine.Tactic
open Builtin.Range (rangeSize rangeFitsLong rangeFields)
noncomputable abbrev rngO (a b c : Int) (t u v : Tok) : Obj := { cls := .type "range", dict := none, data := .fields #[.int a t, .int b u, .int c v], slots := #[] }
noncomputable abbrev ritO (a n c : Int) : Obj := { cls := .type "range_iterator", dict := none, data := .fields #[rawInt a, rawInt n, rawInt c], slots := #[] }
theorem sub_ri_reversed : isSubtype (.type "range_iterator") (.type "reversed") = pure false := by rw [isSubtype_type]; kernel_rfl
noncomputable def revSmall (a b c : Int) : Bool := rangeFitsLong a && rangeFitsLong b && rangeFitsLong c && rangeFitsLong (-c) && rangeFitsLong (a - c) && rangeFitsLong (rangeSize a b c)
section
variable {prog : Program} {w : World} {A : Around} {E : Value → Shared → Prop} {s : Shared}
theorem rev_range {r : Addr} {a b c : Int} {t u v : Tok} {Q : Value → Shared → Prop} (ho : s.heap.get? r = some (rngO a b c t u v)) (hs : revSmall a b c = true)
    (h : Q (.ref s.heap.objs.size) { s with heap := s.heap.push (ritO (a + (rangeSize a b c - 1) * c) (rangeSize a b c) (-c)) }) : wpAny (model prog w) A (call (.builtin "range.__reversed__") [.ref r]) Q E s := by
  refine wpAny_call_entry F.slot_range_reversed ⟨_, ho, rfl⟩ F.entry_range_reversed ?_ (F.args_range_reversed_1 _)
  unfold Builtin.«range.__reversed__»
  refine wpAny_bind (wpAny_of_eq (a := Value.ref r) rfl ?_)
  refine wpAny_bind ?_
  unfold rangeFields
  refine wpAny_bind (wpAny_field ho rfl (x := .int a t) rfl (wpAny_bind (wpAny_pure ?_)))
  refine wpAny_bind (wpAny_field ho rfl (x := .int b u) rfl (wpAny_bind (wpAny_pure ?_)))
  refine wpAny_bind (wpAny_field ho rfl (x := .int c v) rfl (wpAny_bind (wpAny_pure (wpAny_pure ?_))))
  dsimp only
  have hs' := hs
  unfold revSmall at hs'
  rw [hs']
  rw [if_neg (by decide)]
  exact wpAny_bind (wpAny_newObj_type (wpAny_pure ⟨_, rfl, h⟩))
theorem code_rev {r : Addr} {a b c : Int} {t u v : Tok} {Q₁ : Value → Shared → Prop} (ho : s.heap.get? r = some (rngO a b c t u v)) (hs : revSmall a b c = true)
    (h : Q₁ (.ref s.heap.objs.size) { s with heap := s.heap.push (ritO (a + (rangeSize a b c - 1) * c) (rangeSize a b c) (-c)) }) :
    codeAny (model prog w) A (.call (.builtin "reversed.__new__") ⟨[.type "reversed", .ref r], []⟩) (wants Q₁ E) s := by
  have hT : s.TypeIs (.ref r) "range" := ⟨_, ho, rfl⟩
  refine codeAny_of_tree ?_
  show wpAny _ A.in1 (do checkBuiltinCall "reversed.__new__" ⟨[.type "reversed", .ref r], []⟩; again (.builtin "reversed.__new__" ⟨[.type "reversed", .ref r], []⟩)) _ _ s
  refine wpAny_bind (wpAny_of_eq (F.newCall_reversed_1 _) (wpAny_pure ⟨plainId_quiet F.plain_reversed_new _, codeAny_builtin F.entry_reversed_new ?_⟩))
  rw [Around.under_plainId F.plain_reversed_new _]
  unfold Builtin.«reversed.__new__»
  refine wpAny_bind (wpAny_of_eq (newClass_reversed _) ?_)
  try dsimp only
  refine wpAny_bind (wpAny_of_eq (a := ()) (by first | rfl | kernel_rfl) ?_)
  refine wpAny_bind (wpAny_of_eq (a := ()) (by first | rfl | kernel_rfl) ?_)
  try dsimp only
  refine wpAny_bind (wpAny_specialOf hT F.slot_range_reversed.lookup ?_)
  try dsimp only
  refine wpAny_bind (wpAny_of_eq (F.slot_range_reversed.bind _) ?_)
  try dsimp only
  first
  | rw [if_neg (show ¬ ((Value.builtin "range.__reversed__" == Value.none) = true) from Bool.false_ne_true)]
  | (show wpAny _ _ (if (Value.builtin "range.__reversed__" == Value.none) = true then _ else _) _ _ _; rw [if_neg (show ¬ ((Value.builtin "range.__reversed__" == Value.none) = true) from Bool.false_ne_true)])
  refine wpAny_bind (wpAny_rule ?_)
  refine wpAny_bind (m := runValue (.call (.builtin "range.__reversed__") ⟨[.ref r], []⟩)) (show wpAny _ _ (call (.builtin "range.__reversed__") [.ref r]) _ _ _ from rev_range ho hs ?_)
  first
  | exact wpAny_pure h
  | exact wpAny_bind (wpAny_pure (wpAny_pure h))
theorem call_rev {r : Addr} {a b c : Int} {t u v : Tok} {Q : Value → Shared → Prop} (ho : s.heap.get? r = some (rngO a b c t u v)) (hs : revSmall a b c = true)
    (h : Q (.ref s.heap.objs.size) { s with heap := s.heap.push (ritO (a + (rangeSize a b c - 1) * c) (rangeSize a b c) (-c)) }) : wpAny (model prog w) A (call (.type "reversed") [.ref r]) Q E s := by
  refine callType_other (U := "range_iterator") (Q₁ := fun obj s₁ => obj = .ref s.heap.objs.size ∧ s₁ = { s with heap := s.heap.push (ritO (a + (rangeSize a b c - 1) * c) (rangeSize a b c) (-c)) }) (by decide +kernel) F.create_reversed ⟨_, _, F.mro_reversed⟩ F.made_reversed sub_ri_reversed (F.typeCall_reversed_1 _) (code_rev ho hs ⟨rfl, rfl⟩) ?_
  rintro obj s₁ ⟨rfl, rfl⟩
  exact ⟨⟨_, Heap.get?_push_size _ rfl, rfl⟩, h⟩
end
section
variable {G : Gx} {ρ : Rho} {σ : Led} {Q : PV → Rho → Led → Prop}
theorem CallP.reversed {a b c : Int} {n : Nat} (hs : revSmall a b c = true) (hn : rangeSize a b c = (n : Int)) (h : ∀ D, Q (.ref D) ρ ((D, .rit (a + ((n : Int) - 1) * c) n (-c)) :: σ)) : CallP G (.con (.type "reversed")) [.rng a b c] [] ρ σ Q := fun A bs im s fv vs kvs hA hS hf hv hk => by
  rw [hf.con_i]
  have : kvs = [] := by have := hk.1; simpa using this
  subst this
  obtain ⟨v, rfl, hv1⟩ := one_v hv
  obtain ⟨r, t, u, w, rfl, ho⟩ := hv1.rng_i
  refine ⟨keeps_type, call_rev (hS.l.him _ _ ho) hs ?_⟩
  rw [hn]
  have hS' := hS.pushLed (ritO (a + ((n : Int) - 1) * c) n (-c)) (.rit (a + ((n : Int) - 1) * c) n (-c)) s.toks (Heap.get?_push_size _ rfl)
  exact ⟨im, _, ρ, _, .refl, .ref, hS', h _⟩
end
end Mine.Tactic
end
section
open PySem PySem.W PyProof.Rows PySem.Calls
set_option Elab.async false
set_option maxRecDepth 100000
namespace Mine.Tactic

theorem Tr.rho {G : Gx} {α R : Type} {rel : PM → R → α → Prop} {t : Sem α} {ρ ρ' : Rho} {σ : Led} {Q : R → Rho → Led → Prop} (hs : ∀ p ∈ ρ', p ∈ ρ) (hn : (ρ'.map (·.1)).Nodup) (h : Tr G rel t ρ' σ Q) : Tr G rel t ρ σ Q :=
  fun A bs im s hA hS => h A bs im s hA (hS.rho hs hn)
theorem Tr.led {G : Gx} {α R : Type} {rel : PM → R → α → Prop} {t : Sem α} {ρ : Rho} {σ σ' : Led} {Q : R → Rho → Led → Prop} (hs : ∀ p ∈ σ', p ∈ σ) (hn : (σ.map (·.1)).Nodup → (σ'.map (·.1)).Nodup) (h : Tr G rel t ρ σ' Q) : Tr G rel t ρ σ Q :=
  fun A bs im s hA hS => h A bs im s hA (hS.sub hs (hn hS.l.nd))
theorem Tr.nd {G : Gx} {α R : Type} {rel : PM → R → α → Prop} {t : Sem α} {ρ : Rho} {σ : Led} {Q : R → Rho → Led → Prop} (h : (σ.map (·.1)).Nodup → Tr G rel t ρ σ Q) : Tr G rel t ρ σ Q :=
  fun A bs im s hA hS => h hS.l.nd A bs im s hA hS
theorem Tr.rho2 {G : Gx} {α R : Type} {rel : PM → R → α → Prop} {t : Sem α} {ρ ρ' : Rho} {σ : Led} {Q : R → Rho → Led → Prop} (ks : List String) (hs : ∀ p ∈ ρ', p ∈ ρ) (h : Tr G rel t ρ' σ Q) (he : ρ'.map (·.1) = ks := by rfl) (hn : ks.Nodup := by decide) : Tr G rel t ρ σ Q :=
  .rho hs (he ▸ hn) h
noncomputable def Sub (ρ' ρ : Rho) : Prop := ∀ p ∈ ρ', p ∈ ρ
theorem Sub.nil {ρ : Rho} : Sub [] ρ := fun _ h => nomatch h
theorem Sub.cons {q : String × PV} {r ρ : Rho} (h : q ∈ ρ) (k : Sub r ρ) : Sub (q :: r) ρ := fun p hp => by
  rcases List.mem_cons.mp hp with rfl | hp
  · exact h
  · exact k p hp
theorem ite_dec {P : Prop} [Decidable P] {X Y : Prop} (h1 : P → X) (h2 : ¬ P → Y) : if decide P = true then X else Y := by
  by_cases h : P
  · rw [if_pos (decide_eq_true h)]; exact h1 h
  · rw [if_neg (by simpa using h)]; exact h2 h
theorem ite_not {b : Bool} {X Y : Prop} (h : if b = true then Y else X) : if (!b) = true then X else Y := by cases b <;> exact h
theorem ite_b {b : Bool} {X Y : Prop} (h1 : b = true → X) (h2 : b = false → Y) : if b = true then X else Y := by cases b with | true => exact h1 rfl | false => exact h2 rfl

theorem SetR.tl {x y : String} {p q : PV} {ρ ρ' : Rho} (h : y ≠ x) (u : SetR x p ρ ρ') : SetR x p ((y, q) :: ρ) ((y, q) :: ρ') := .tail h u
section
variable {G : Gx} {ρ ρ' : Rho} {σ : Led} {Q : PV → Rho → Led → Prop}
theorem Op2.itemMn {value slice : Expr} {a : Addr} {l : List PV} {k : Nat} (hm : (a, LO.list l) ∈ σ) (hk : k < l.length) (hz : l.length ≤ 16777216) (h : Q (l.getD k .none) ρ σ) (hs : SubOk slice := by intro _ _; rfl) : Op2 G (subscriptTail value slice) (.ref a) (.int (k : Int)) ρ σ Q := by
  have e : pyIx (k : Int) l.length = k := by unfold pyIx; rw [if_neg (by walk_at "zo")]; rfl
  refine Op2.itemM hm (by walk_at "zo") (by walk_at "zo") hz ?_ h hs
  rw [e, List.getElem?_eq_getElem hk, List.getD_eq_getElem?_getD, List.getElem?_eq_getElem hk]; rfl
theorem As.nameN {y : String} {pos : Pos} {i j : Int} {Q : Rho → Led → Prop} (he : i = j) (hy : (y, NameKind.local) ∈ G.ns) (u : SetR y (.int j) ρ ρ') (h : Q ρ' σ) : As G (.Name (Str.ofString y) pos) (.int i) ρ σ Q := by
  subst he; exact As.name hy u h
end
noncomputable abbrev KInv (I : Rho → Led → Prop) (Q : Fl → Rho → Led → Prop) : Fl → Rho → Led → Prop := fun fl ρ₂ σ₂ => match fl with | .next | .cont => I ρ₂ σ₂ | .brk => Q .next ρ₂ σ₂ | .ret v => Q (.ret v) ρ₂ σ₂
noncomputable abbrev KBody (G : Gx) (body : List Stmt) (Q : Fl → Rho → Led → Prop) : Rho → Led → Prop := fun ρ₁ σ₁ => Ex G body ρ₁ σ₁ Q
theorem ForT.inv {G : Gx} {target : Expr} {body : List Stmt} {Q : Fl → Rho → Led → Prop} (I : Nat → Rho → Led → Prop) : ∀ (items : List PV) (k : Nat) {ρ : Rho} {σ : Led},
    (∀ i p ρ σ, items[i]? = some p → I (k + i) ρ σ → As G target p ρ σ (KBody G body (KInv (I (k + i + 1)) Q))) →
    I k ρ σ → (∀ ρ σ, I (k + items.length) ρ σ → Q .next ρ σ) → ForT G target body items ρ σ Q
  | [], k, ρ, σ, _, h, fin => fin _ _ h
  | p :: items, k, ρ, σ, turn, h, fin => by
    unfold ForT
    refine Con.mono (turn 0 p ρ σ rfl h) fun _ ρ₁ σ₁ h₁ => Tr.mono h₁ fun fl ρ₂ σ₂ h₂ => ?_
    have next : I (k + 1) ρ₂ σ₂ → ForT G target body items ρ₂ σ₂ Q := fun hI => ForT.inv I items (k + 1) (fun i q ρ σ hi hI => by
      have := turn (i + 1) q ρ σ hi (by rw [show k + (i + 1) = k + 1 + i by walk_at "zo"]; exact hI)
      rw [show k + (i + 1) = k + 1 + i by walk_at "zo"] at this; exact this) hI (fun ρ σ hI => fin ρ σ (by rw [List.length_cons, show k + (items.length + 1) = k + 1 + items.length by walk_at "zo"]; exact hI))
    cases fl with
    | next => exact next h₂
    | cont => exact next h₂
    | brk => exact h₂
    | ret v => exact h₂
noncomputable def fdAt (K : Frag) (a : Addr) : Option FuncData := match K.lookup a with
  | some ⟨_, _, .func fd, _⟩ => some fd
  | _ => none
theorem fnAt_of {C : Cx} {a : Addr} {fd : FuncData} (h : fdAt C.K a = some fd) (hc : ∀ h : Heap, (∀ b o, C.base.f b = some o → h.get? b = some o) → h.NoLimit ∧ h.CodeRec fd.code fd.qualname) : FnAt C a fd := by
  refine ⟨?_, hc⟩
  unfold fdAt at h
  split at h
  · rename_i c d f sl e
    cases h
    exact ⟨_, e, rfl⟩
  · cases h
end Mine.Tactic
end
section
open PySem PySem.W PyProof.Rows PySem.Calls
set_option Elab.async false
set_option maxRecDepth 100000
namespace Mine.Tactic
theorem ns_move {g h : Heap} {a : Addr} {m : Str → Option Value} (x : g.Ns a m) (e : ∀ o, g.get? a = some o → h.get? a = some o) : h.Ns a m := let ⟨o, es, ep, h1, h2, h3, h4⟩ := x; ⟨o, es, ep, e _ h1, h2, h3, h4⟩
structure TopC (K : Frag) (mg mb : Str → Option Value) : Prop where
  at' : ∀ h : Heap, K.In h → h.Ns mainGlobals mg ∧ h.Ns builtinsNs mb ∧ h.NoLimit
  bt : ∀ x : Str, x ≠ "__name__" → mb x = bootBuiltins x
  bm : ∀ h : Heap, K.In h → ∀ P : Addr, P ≠ 4 → h.BuiltinsAt mg P
theorem in_get {K : Frag} {g h : Heap} {a : Addr} (X : K.In g) (Y : K.In h) (e : (K.lookup a).isSome = true) : ∀ o, g.get? a = some o → h.get? a = some o := fun o q => by
  cases k : K.lookup a with
  | none => rw [k] at e; cases e
  | some o' => rw [X _ _ k] at q; cases q; exact Y _ _ k
theorem lookup_ne {K : Frag} {a b : Addr} {o : Obj} (h : a ≠ b) : List.lookup a ((b, o) :: K) = K.lookup a := by
  show (match a == b with | true => some o | false => K.lookup a) = _
  rw [beq_eq_false_iff_ne.mpr h]
theorem topC_of {K : Frag} {g : Heap} {p : Program} {loose : List Str} {mean : ExcName → Option Value} {mg mb : Str → Option Value} (X : K.In g) (T : Top p loose mean mg mb g) (h3 : (K.lookup 3).isSome = true) (h4 : nsIn K mainGlobals "__builtins__" = some (some (.ref 4))) :
    ∃ oB oS oM : Obj, TopC ((0, oB) :: (2, oS) :: (4, oM) :: K) mg mb ∧ Frag.In ((0, oB) :: (2, oS) :: (4, oM) :: K) g := by
  obtain ⟨o, es, ep, b1, b2, b3, b4⟩ := T.b
  obtain ⟨_, ⟨oS, _, _, c1, _⟩, _⟩ := T.nolimit
  obtain ⟨bm, ob, d1, d2, d3, d4, d5, d6⟩ := T.bmain
  have e4 := mg_of X T.g h4
  rw [d1] at e4
  have e4 : bm = 4 := by injection e4 with e4; injection e4
  subst e4
  have XI : Frag.In ((0, o) :: (2, oS) :: (4, ob) :: K) g := fun a o' e => by
    by_cases q : a = 0
    · subst q; cases e; exact b1
    · rw [lookup_ne q] at e
      by_cases q2 : a = 2
      · subst q2; cases e; exact c1
      · rw [lookup_ne q2] at e
        by_cases q4 : a = 4
        · subst q4; cases e; exact d3
        · rw [lookup_ne q4] at e; exact X _ _ e
  have l3 : (List.lookup 3 ((0, o) :: (2, oS) :: (4, ob) :: K)).isSome = true := h3
  exact ⟨o, oS, ob, ⟨fun h Y => ⟨ns_move T.g (in_get XI Y l3), ns_move T.b (in_get XI Y rfl), T.nolimit.at (in_get XI Y rfl)⟩, T.builtins,
    fun h Y P hP => ⟨4, ob, d1, d2, by decide, fun e => hP e.symm, in_get XI Y rfl _ d3, d4, d5, d6⟩⟩, XI⟩
section
variable {C : Cx} {mg mb : Str → Option Value}
theorem GlobP.K {x : String} {p : PV} {v : Value} (T : TopC C.K mg mb) (e : nsIn C.K mainGlobals (Str.ofString x) = some (some v)) (hv : ∀ im, VR im p v) (hn : plainB (Str.ofString x) = true) : GlobP C x p :=
  ⟨plainB_iff hn, v, hv, fun env A E Q s hk hg hb hx hin hq => by
    have X : C.K.In s.heap := fun a o q => hin a o q
    rw [loadName_read hk hx]
    exact loadGlobal_global (env := env) (by rw [hg]; exact (T.at' _ X).1) (mg_of X (T.at' _ X).1 e) hq⟩
theorem GlobP.B {x : String} {p : PV} {v : Value} (T : TopC C.K mg mb) (e : nsIn C.K mainGlobals (Str.ofString x) = some none) (hb : bootBuiltins (Str.ofString x) = some v) (hv : ∀ im, VR im p v) (hn : (plainB (Str.ofString x) && Str.ofString x != Str.ofString "__name__") = true) : GlobP C x p := by
  rw [Bool.and_eq_true, bne_iff_ne] at hn
  exact ⟨plainB_iff hn.1, v, hv, fun env A E Q s hk hg hbi hx hin hq => by
    have X : C.K.In s.heap := fun a o q => hin a o q
    rw [loadName_read hk hx]
    exact loadGlobal_builtin (env := env) (by rw [hg]; exact (T.at' _ X).1) (mg_none_of X (T.at' _ X).1 e) (by rw [hbi]; exact (T.at' _ X).2.1) ((T.bt _ hn.2).trans hb) hq⟩
theorem FnAt.K {a : Addr} {fd : FuncData} (T : TopC C.K mg mb) (h : fdAt C.K a = some fd) (hc : codeIn C.K fd.code fd.qualname = true) : FnAt C a fd := fnAt_of h fun g hin => by
  have X : C.K.In g := fun a o q => hin a o q
  exact ⟨(T.at' _ X).2.2, codeRec_of X hc⟩
end
theorem wellAll_ints {P : Params} {h : Heap} {im : PM} : ∀ (l : List Int) (vs : List Value), WellAll P h vs (ofPys (l.map .int)) → VRs im (l.map .int) vs
  | [], vs, w => by
    cases w; exact .nil
  | i :: l, vs, w => by
    cases w with
    | cons w1 w2 => cases w1; exact .cons .int (wellAll_ints l _ w2)
theorem well_list {P : Params} {h : Heap} {a : Addr} {l : List Int} {im : PM} (w : Well P h (.ref a) (ofPy (.list (l.map .int)))) : ∃ vs n, h.get? a = some (lstO vs n) ∧ VRs im (l.map .int) vs := by
  generalize hd : ofPy (.list (l.map .int)) = d at w
  cases w with
  | list ho hw =>
    have : WData.list (ofPys (l.map .int)) = WData.list _ := hd
    cases this
    exact ⟨_, _, ho, wellAll_ints l _ hw⟩
  | bytearray _ => cases hd
  | tuple _ _ => cases hd
  | dict _ _ => cases hd
  | set _ _ _ _ => cases hd
  | frozenset _ _ _ _ => cases hd
  | obj _ _ _ _ => cases hd
end Mine.Tactic
end
section
open PySem PySem.W PyProof.Rows PySem.Calls
set_option Elab.async false
set_option maxRecDepth 100000
namespace Mine.Tactic
structure ZipPlaces (z TI TO i1 i2 : Addr) (f1 f2 : List Addr) : Prop where
  TIz : TI ≠ z
  TOz : TO ≠ z
  TITO : TI ≠ TO
  i1z : i1 ≠ z
  i2z : i2 ≠ z
  i1TO : i1 ≠ TO
  i2TO : i2 ≠ TO
  TIi1 : TI ≠ i1
  TIi2 : TI ≠ i2
  i12 : i1 ≠ i2
  zf1 : z ∉ f1
  zf2 : z ∉ f2
  TOf1 : TO ∉ f1
  TOf2 : TO ∉ f2
  i1f2 : i1 ∉ f2
  i2f1 : i2 ∉ f1
section
variable {prog : Program} {w : World} {A : Around} {E : Value → Shared → Prop} {s : Shared} {z TI TO i1 i2 : Addr} {f1 f2 : List Addr} {n1 n2 : Nat} {P1 P2 : Nat → Value → Prop} {S1 S2 : Nat → Heap → Prop} {k : Nat} {a b : Value}
theorem zipD_item {Q : Value → Shared → Prop} (D1 : Draws prog w A i1 f1 n1 P1 S1) (D2 : Draws prog w A i2 f2 n2 P2 S2) (Z : ZipPlaces z TI TO i1 i2 f1 f2)
    (hz : IsZip s.heap z TI TO .none) (hTI : IsPair s.heap TI (.ref i1) (.ref i2)) (hTO : IsPair s.heap TO a b) (h1 : S1 k s.heap) (h2 : S2 k s.heap) (l1 : k < n1) (l2 : k < n2)
    (hQ : ∀ x y h' tk, P1 k x → P2 k y → IsZip h' z TI TO (rawInt s.heap.objs.size) → IsPair h' TO x y → S1 (k + 1) h' → S2 (k + 1) h' → IsPair h' s.heap.objs.size x y →
      (∀ c o, c ≠ z → c ≠ TO → c ≠ i1 → c ≠ i2 → s.heap.get? c = some o → h'.get? c = some o) → Q (.ref s.heap.objs.size) { s with heap := h', toks := tk }) :
    wpAny (model prog w) A (Builtin.«zip.__next__» ⟨[.ref z], []⟩) (fun fin s' => ∃ v, fin = .done (.ret v) ∧ Q v s') E s := by
  obtain ⟨hp, gs, dr, tk₀, os⟩ := s
  show wpAny _ _ (field (.ref z) 2 >>= _) _ _ _
  refine wpAny_bind (wpAny_field hz rfl (x := .bool false) rfl ?_)
  show wpAny _ _ (field (.ref z) 3 >>= _) _ _ _
  refine wpAny_bind (wpAny_field hz rfl (x := .ref TI) rfl ?_)
  refine wpAny_bind (wpAny_seqItems hTI rfl ?_)
  show wpAny _ _ (Builtin.SmallTypes.ownedTupleIsFree (.ref z) >>= _) _ _ _
  refine wpAny_bind ?_
  unfold Builtin.SmallTypes.ownedTupleIsFree
  refine wpAny_bind (wpAny_field hz rfl (x := .none) rfl (wpAny_pure ?_))
  simp only [if_true]
  refine wpAny_bind (wpAny_rule ?_)
  refine wpAny_bind (wpAny_field hz rfl (x := .ref TO) rfl ?_)
  refine wpAny_bind (wpAny_setField_rec hz (by simp) fun g₁ hz₁ c₁ => ?_)
  replace hz₁ : IsZip g₁ z TI TO .ellipsis := hz₁
  replace c₁ : Heap.SameBut z hp g₁ := c₁
  refine wpAny_bind ?_
  simp only [List.zipIdx_cons, List.zipIdx_nil, List.forIn_cons, List.forIn_nil]
  refine wpAny_bind (wpAny_bind (wpAny_onRaise ?_))
  show wpAny _ _ (Builtin.SmallTypes.nextOf (.ref i1) >>= _) _ _ _
  have k1 : S1 k g₁ := D1.frame _ _ _ h1 fun b hb o e => c₁.extBut b o (fun q => Z.zf1 (q ▸ hb)) e
  refine wpAny_bind (D1.item k _ _ _ l1 k1 fun x g₂ t₂ px k2 c₂ => wpAny_pure ?_)
  replace c₂ : Heap.SameBut i1 g₁ g₂ := c₂
  have o₂ : IsPair g₂ TO a b := c₂.extBut _ _ Z.i1TO.symm (c₁.extBut _ _ Z.TOz hTO)
  refine wpAny_bind (wpAny_seqItems o₂ rfl ?_)
  refine wpAny_bind (wpAny_updateSeq_pair o₂ fun g₃ o₃ c₃ => ?_)
  replace o₃ : IsPair g₃ TO x b := o₃
  replace c₃ : Heap.SameBut TO g₂ g₃ := c₃
  refine wpAny_bind (wpAny_letGo (wpAny_pure ?_))
  refine wpAny_bind (wpAny_bind (wpAny_onRaise ?_))
  show wpAny _ _ (Builtin.SmallTypes.nextOf (.ref i2) >>= _) _ _ _
  have m3 : S2 k g₃ := D2.frame _ _ _ h2 fun b hb o e => c₃.extBut b o (fun q => Z.TOf2 (q ▸ hb)) (c₂.extBut b o (fun q => Z.i1f2 (q ▸ hb)) (c₁.extBut b o (fun q => Z.zf2 (q ▸ hb)) e))
  refine wpAny_bind (D2.item k _ _ _ l2 m3 fun y g₄ t₄ py m4 c₄ => wpAny_pure ?_)
  replace c₄ : Heap.SameBut i2 g₃ g₄ := c₄
  have o₄ : IsPair g₄ TO x b := c₄.extBut _ _ Z.i2TO.symm o₃
  refine wpAny_bind (wpAny_seqItems o₄ rfl ?_)
  refine wpAny_bind (wpAny_updateSeq_pair o₄ fun g₅ o₅ c₅ => ?_)
  replace o₅ : IsPair g₅ TO x y := o₅
  replace c₅ : Heap.SameBut TO g₄ g₅ := c₅
  refine wpAny_bind (wpAny_letGo (wpAny_pure (wpAny_pure ?_)))
  refine wpAny_bind (wpAny_seqItems o₅ rfl ?_)
  refine wpAny_bind (wpAny_newTuple ?_)
  have sz : g₅.objs.size = hp.objs.size := by rw [c₅.1, c₄.1, c₃.1, c₂.1, c₁.1]
  have hz₅ : IsZip g₅ z TI TO .ellipsis := c₅.extBut _ _ Z.TOz.symm (c₄.extBut _ _ Z.i2z.symm (c₃.extBut _ _ Z.TOz.symm (c₂.extBut _ _ Z.i1z.symm hz₁)))
  have kp : ∀ c o, c ≠ z → c ≠ TO → c ≠ i1 → c ≠ i2 → hp.get? c = some o → g₅.get? c = some o := fun c o a1 a2 a3 a4 e =>
    c₅.extBut _ _ a2 (c₄.extBut _ _ a4 (c₃.extBut _ _ a2 (c₂.extBut _ _ a3 (c₁.extBut _ _ a1 e))))
  have n1' : S1 (k + 1) g₅ := D1.frame _ _ _ k2 fun b hb o e => c₅.extBut b o (fun q => Z.TOf1 (q ▸ hb)) (c₄.extBut b o (fun q => Z.i2f1 (q ▸ hb)) (c₃.extBut b o (fun q => Z.TOf1 (q ▸ hb)) e))
  have n2' : S2 (k + 1) g₅ := D2.frame _ _ _ m4 fun b hb o e => c₅.extBut b o (fun q => Z.TOf2 (q ▸ hb)) e
  have zl : z < g₅.objs.size := Heap.lt_size hz₅
  show wpAny _ _ (Builtin.SmallTypes.ownedTupleHandOut (.ref z) (.ref g₅.objs.size) >>= _) _ _ _
  refine wpAny_bind ?_
  unfold Builtin.SmallTypes.ownedTupleHandOut
  have hz₆ : IsZip (g₅.push { cls := .type "tuple", data := .seq #[x, y] }) z TI TO .ellipsis := Heap.get?_push_of_some _ hz₅
  refine wpAny_bind (wpAny_setField_rec hz₆ (by simp) fun g₇ hz₇ c₇ => ?_)
  replace hz₇ : IsZip g₇ z TI TO (rawInt g₅.objs.size) := hz₇
  refine wpAny_setField_rec hz₇ (by simp) fun g₈ hz₈ c₈ => ?_
  replace hz₈ : IsZip g₈ z TI TO (rawInt g₅.objs.size) := hz₈
  have up : ∀ c o, c ≠ z → g₅.get? c = some o → g₈.get? c = some o := fun c o a1 e => c₈.extBut _ _ a1 (c₇.extBut _ _ a1 (Heap.get?_push_of_some _ e))
  have T₈ : IsPair g₈ g₅.objs.size x y := c₈.extBut _ _ (Nat.ne_of_gt zl) (c₇.extBut _ _ (Nat.ne_of_gt zl) (Heap.get?_push_size _ rfl))
  rw [sz] at hz₈ T₈
  refine wpAny_pure ⟨_, rfl, ?_⟩
  show Q (.ref g₅.objs.size) _
  rw [sz]
  exact hQ x y g₈ t₄ px py hz₈ (up _ _ Z.TOz o₅) (D1.frame _ _ _ n1' fun b hb o e => up b o (fun q => Z.zf1 (q ▸ hb)) e) (D2.frame _ _ _ n2' fun b hb o e => up b o (fun q => Z.zf2 (q ▸ hb)) e) T₈
    fun c o a1 a2 a3 a4 e => up c o a1 (kp c o a1 a2 a3 a4 e)
theorem zipD_end {Q : Fin → Shared → Prop} (D1 : Draws prog w A i1 f1 n1 P1 S1) (D2 : Draws prog w A i2 f2 n2 P2 S2) (Z : ZipPlaces z TI TO i1 i2 f1 f2)
    (hz : IsZip s.heap z TI TO .none) (hTI : IsPair s.heap TI (.ref i1) (.ref i2)) (hTO : IsPair s.heap TO a b) (h1 : S1 k s.heap) (h2 : S2 k s.heap) (hend : k = n1 ∨ (k < n1 ∧ k = n2))
    (hE : ∀ h' e tk, (∀ c o, c ≠ z → c ≠ TO → c ≠ i1 → c ≠ i2 → s.heap.get? c = some o → h'.get? c = some o) → (∃ o, h'.get? e = some o ∧ o.cls = .type "StopIteration") → E (.ref e) { s with heap := h', toks := tk }) :
    wpAny (model prog w) A (Builtin.«zip.__next__» ⟨[.ref z], []⟩) Q E s := by
  obtain ⟨hp, gs, dr, tk₀, os⟩ := s
  show wpAny _ _ (field (.ref z) 2 >>= _) _ _ _
  refine wpAny_bind (wpAny_field hz rfl (x := .bool false) rfl ?_)
  show wpAny _ _ (field (.ref z) 3 >>= _) _ _ _
  refine wpAny_bind (wpAny_field hz rfl (x := .ref TI) rfl ?_)
  refine wpAny_bind (wpAny_seqItems hTI rfl ?_)
  show wpAny _ _ (Builtin.SmallTypes.ownedTupleIsFree (.ref z) >>= _) _ _ _
  refine wpAny_bind ?_
  unfold Builtin.SmallTypes.ownedTupleIsFree
  refine wpAny_bind (wpAny_field hz rfl (x := .none) rfl (wpAny_pure ?_))
  simp only [if_true]
  refine wpAny_bind (wpAny_rule ?_)
  refine wpAny_bind (wpAny_field hz rfl (x := .ref TO) rfl ?_)
  refine wpAny_bind (wpAny_setField_rec hz (by simp) fun g₁ hz₁ c₁ => ?_)
  replace hz₁ : IsZip g₁ z TI TO .ellipsis := hz₁
  replace c₁ : Heap.SameBut z hp g₁ := c₁
  refine wpAny_bind ?_
  simp only [List.zipIdx_cons, List.zipIdx_nil, List.forIn_cons, List.forIn_nil]
  refine wpAny_bind (wpAny_bind (wpAny_onRaise ?_))
  show wpAny _ _ (Builtin.SmallTypes.nextOf (.ref i1) >>= _) _ _ _
  have k1 : S1 k g₁ := D1.frame _ _ _ h1 fun b hb o e => c₁.extBut b o (fun q => Z.zf1 (q ▸ hb)) e
  rcases hend with rfl | ⟨l1, rfl⟩
  · refine wpAny_bind (D1.done _ _ _ k1 fun g₂ e c₂ he => ?_)
    obtain ⟨oe, hoe, hce⟩ := he
    replace c₂ : Heap.ExtBut i1 g₁ g₂ := c₂
    have hz₂ : IsZip g₂ z TI TO .ellipsis := c₂ _ _ Z.i1z.symm hz₁
    have ez : e ≠ z := fun q => by subst q; rw [hz₂] at hoe; cases hoe; simp at hce
    refine wpAny_setField_rec hz₂ (by simp) fun g₃ _ c₃ => hE g₃ e _ (fun c o a1 _ a3 _ q => c₃.extBut _ _ a1 (c₂ _ _ a3 (c₁.extBut _ _ a1 q))) ⟨oe, c₃.extBut _ _ ez hoe, hce⟩
  · refine wpAny_bind (D1.item k _ _ _ l1 k1 fun x g₂ t₂ px k2 c₂ => wpAny_pure ?_)
    replace c₂ : Heap.SameBut i1 g₁ g₂ := c₂
    have o₂ : IsPair g₂ TO a b := c₂.extBut _ _ Z.i1TO.symm (c₁.extBut _ _ Z.TOz hTO)
    refine wpAny_bind (wpAny_seqItems o₂ rfl ?_)
    refine wpAny_bind (wpAny_updateSeq_pair o₂ fun g₃ o₃ c₃ => ?_)
    replace c₃ : Heap.SameBut TO g₂ g₃ := c₃
    refine wpAny_bind (wpAny_letGo (wpAny_pure ?_))
    refine wpAny_bind (wpAny_bind (wpAny_onRaise ?_))
    show wpAny _ _ (Builtin.SmallTypes.nextOf (.ref i2) >>= _) _ _ _
    have m3 : S2 k g₃ := D2.frame _ _ _ h2 fun b hb o e => c₃.extBut b o (fun q => Z.TOf2 (q ▸ hb)) (c₂.extBut b o (fun q => Z.i1f2 (q ▸ hb)) (c₁.extBut b o (fun q => Z.zf2 (q ▸ hb)) e))
    refine wpAny_bind (D2.done _ _ _ m3 fun g₄ e c₄ he => ?_)
    obtain ⟨oe, hoe, hce⟩ := he
    replace c₄ : Heap.ExtBut i2 g₃ g₄ := c₄
    have hz₄ : IsZip g₄ z TI TO .ellipsis := c₄ _ _ Z.i2z.symm (c₃.extBut _ _ Z.TOz.symm (c₂.extBut _ _ Z.i1z.symm hz₁))
    have ez : e ≠ z := fun q => by subst q; rw [hz₄] at hoe; cases hoe; simp at hce
    refine wpAny_setField_rec hz₄ (by simp) fun g₅ _ c₅ => hE g₅ e _ (fun c o a1 a2 a3 a4 q => c₅.extBut _ _ a1 (c₄ _ _ a4 (c₃.extBut _ _ a2 (c₂.extBut _ _ a3 (c₁.extBut _ _ a1 q))))) ⟨oe, c₅.extBut _ _ ez hoe, hce⟩
end
end Mine.Tactic
end
section
open PySem PySem.W PyProof.Rows PySem.Calls
open Builtin
set_option Elab.async false
set_option maxRecDepth 100000
namespace Mine.Tactic
structure Iters (v : Value) (o : Obj) (C : Heap → Prop) : Prop where
  run : ∀ {prog : Program} {w : World} {A : Around} {E : Value → Shared → Prop} {s : Shared} {Q : Value → Shared → Prop}, C s.heap → Q (.ref s.heap.objs.size) { s with heap := s.heap.push o } → wpAny (model prog w) A (pyIter v) Q E s
  push : ∀ (h : Heap) (o' : Obj), C h → C (h.push o')
  nf : o.isFreed = false
theorem Iters.list (l : Addr) (vs : Array Value) : Iters (.ref l) { cls := .type "list_iterator", data := .fields #[.ref l, .int 0 0] } (fun h => h.IsList l vs) :=
  ⟨fun h q => wpAny_pyIter_list h q, fun h o' c => c.push o', rfl⟩
theorem Iters.str {x : Str} {t : Tok} (ha : x.cps.all (· < 128) = true) : Iters (.str x t) { cls := .type "str_ascii_iterator", data := .fields #[.str x t, .int 0 0] } (fun _ => True) :=
  ⟨fun _ q => wpAny_pyIter_ascii ha q, fun _ _ c => c, rfl⟩
section
variable (o1 o2 : Obj) (h : Heap)
noncomputable abbrev zH1 : Heap := h.push o1
noncomputable abbrev zH2 : Heap := (zH1 o1 h).push o2
noncomputable abbrev zH3 : Heap := (zH2 o1 o2 h).push { cls := .type "tuple", data := .seq #[.ref h.objs.size, .ref (zH1 o1 h).objs.size] }
noncomputable abbrev zH4 : Heap := (zH3 o1 o2 h).push { cls := .type "tuple", data := .seq #[.none, .none] }
noncomputable abbrev zH5 : Heap := (zH4 o1 o2 h).push { cls := .type "zip", data := .fields #[.none, .bool false, .bool false, .ref (zH2 o1 o2 h).objs.size, .ref (zH3 o1 o2 h).objs.size] }
end
set_option maxHeartbeats 1000000 in
theorem meets_zipD {v1 v2 : Value} {o1 o2 : Obj} {C1 C2 : Heap → Prop} (I1 : Iters v1 o1 C1) (I2 : Iters v2 o2 C2) :
    Meets (Builtin.«zip.__new__» ⟨[.type "zip", v1, v2], []⟩) (fun _ R s => C1 s.heap ∧ C2 s.heap ∧ R (.ok (.ret (.ref (zH4 o1 o2 s.heap).objs.size))) { s with heap := zH5 o1 o2 s.heap }) :=
  .of_wp fun prog w A R s h => by
    obtain ⟨hp, g, d, tk, os⟩ := s; obtain ⟨h1, h2, h⟩ := h
    have hsub := sub_zip
    have hL1 : C1 (Shared.heap ⟨hp, g, d, tk, os⟩) := h1
    have hL2 : C2 (Shared.heap ⟨hp.push o1, g, d, tk, os⟩) := I2.push _ _ h2
    wp_walk using I1.run hL1, I2.run hL2
    exact ⟨_, rfl, h⟩
theorem call_zipD {prog : Program} {w : World} {A : Around} {E : Value → Shared → Prop} {s : Shared} {v1 v2 : Value} {o1 o2 : Obj} {C1 C2 : Heap → Prop} {Q : Value → Shared → Prop} (I1 : Iters v1 o1 C1) (I2 : Iters v2 o2 C2) (c1 : C1 s.heap) (c2 : C2 s.heap)
    (h : ∀ h', IsZip h' (s.heap.objs.size + 4) (s.heap.objs.size + 2) (s.heap.objs.size + 3) .none → IsPair h' (s.heap.objs.size + 2) (.ref s.heap.objs.size) (.ref (s.heap.objs.size + 1)) →
      IsPair h' (s.heap.objs.size + 3) .none .none → h'.get? s.heap.objs.size = some o1 → h'.get? (s.heap.objs.size + 1) = some o2 →
      (∀ c o, s.heap.get? c = some o → h'.get? c = some o) → Q (.ref (s.heap.objs.size + 4)) { s with heap := h' }) :
    wpAny (model prog w) A (call (.type "zip") [v1, v2]) Q E s := by
  refine callType_new F.called_zip (by decide) (F.typeCall_zip_2 _ _) (F.newCall_zip_2 _ _) (fun obj => F.args_object_init_3 obj _ _) F.entry_zip_new (meets_zipD I1 I2) ⟨c1, c2, ?_⟩
  have z1 : (zH1 o1 s.heap).objs.size = s.heap.objs.size + 1 := Heap.size_push ..
  have z2 : (zH2 o1 o2 s.heap).objs.size = s.heap.objs.size + 2 := by rw [Heap.size_push, z1]
  have z3 : (zH3 o1 o2 s.heap).objs.size = s.heap.objs.size + 3 := by rw [Heap.size_push, z2]
  have z4 : (zH4 o1 o2 s.heap).objs.size = s.heap.objs.size + 4 := by rw [Heap.size_push, z3]
  have g5 : (zH5 o1 o2 s.heap).get? (zH4 o1 o2 s.heap).objs.size = some _ := Heap.get?_push_size _ rfl
  have g4 : (zH5 o1 o2 s.heap).get? (zH3 o1 o2 s.heap).objs.size = some _ := Heap.get?_push_of_some _ (Heap.get?_push_size _ rfl)
  have g3 : (zH5 o1 o2 s.heap).get? (zH2 o1 o2 s.heap).objs.size = some _ := Heap.get?_push_of_some _ (Heap.get?_push_of_some _ (Heap.get?_push_size _ rfl))
  have g2 : (zH5 o1 o2 s.heap).get? (zH1 o1 s.heap).objs.size = some _ := Heap.get?_push_of_some _ (Heap.get?_push_of_some _ (Heap.get?_push_of_some _ (Heap.get?_push_size _ I2.nf)))
  have g1 : (zH5 o1 o2 s.heap).get? s.heap.objs.size = some _ := Heap.get?_push_of_some _ (Heap.get?_push_of_some _ (Heap.get?_push_of_some _ (Heap.get?_push_of_some _ (Heap.get?_push_size _ I1.nf))))
  show _ ∧ _
  rw [z2, z3, z4] at g5
  rw [z1, z2] at g3
  rw [z3] at g4
  rw [z1] at g2
  rw [z4]
  exact ⟨⟨_, g5, rfl⟩, h _ g5 g3 g4 g1 g2 fun c o x =>
    Heap.get?_push_of_some _ (Heap.get?_push_of_some _ (Heap.get?_push_of_some _ (Heap.get?_push_of_some _ (Heap.get?_push_of_some _ x))))⟩
structure ZipSrc (C : Cx) (im : PM) (p : PV) (v : Value) (items : List PV) (o : Obj) (Cd : Heap → Prop) (ls : List Addr) : Prop where
  it : Iters v o Cd
  cd : ∀ h : Heap, (∀ a o, im.f a = some o → h.get? a = some o) → Cd h
  lm : ∀ b ∈ ls, ∃ o, im.f b = some o
  dr : ∀ (A : Around) (I : Addr), A.handled = none → (∀ b ∈ ls, b ≠ I) → ∃ P S, Draws C.prog C.w A I (I :: ls) items.length P S ∧ (∀ h : Heap, h.get? I = some o → (∀ a o, im.f a = some o → h.get? a = some o) → S 0 h) ∧ (∀ i v p im', PMle im im' → P i v → items[i]? = some p → VR im' p v)
theorem ZipSrc.str {C : Cx} {im : PM} {l : List Nat} {v : Value} (hv : VR im (.str l) v) (ha : l.all (· < 128) = true) : ∃ o Cd ls, ZipSrc C im (.str l) v (signs l) o Cd ls := by
  obtain ⟨t, rfl⟩ := hv.str_i
  have ha' : (⟨l.toArray⟩ : Str).cps.all (· < 128) = true := by show l.toArray.all _ = true; rw [List.all_toArray]; exact ha
  have hlen : (⟨l.toArray⟩ : Str).cps.size = (signs l).length := by simp [signs]
  refine ⟨_, _, [], .str ha', fun _ _ => trivial, fun _ h => (nomatch h), fun A I hA _ => ?_⟩
  have D := Draws.strAscii (prog := C.prog) (w := C.w) hA I ⟨l.toArray⟩ t
  rw [hlen] at D
  refine ⟨_, _, D, fun h e _ => ⟨_, e, rfl, rfl⟩, fun i v p im' _ hP hp => ?_⟩
  obtain ⟨c, u, hc, rfl⟩ := hP
  have hc' : l[i]? = some c := by simpa using hc
  have : p = .str [c] := by
    unfold signs at hp; rw [List.getElem?_map, hc'] at hp; simpa using hp.symm
  subst this; exact VR.str
theorem ZipSrc.lst {C : Cx} {im : PM} {l : List PV} {v : Value} (hv : VR im (.lst l) v) : ∃ o Cd ls, ZipSrc C im (.lst l) v l o Cd ls := by
  obtain ⟨a, vs, n, rfl, ho, hvs⟩ := hv.lst_i
  have hlen : vs.toArray.size = l.length := by simp [hvs.length]
  refine ⟨_, _, [a], .list a vs.toArray, fun h k => ⟨_, k _ _ ho, rfl, n, rfl⟩, fun b hb => by rw [List.mem_singleton.mp hb]; exact ⟨_, ho⟩, fun A I hA hne => ?_⟩
  have D := Draws.list (prog := C.prog) (w := C.w) hA I a (hne a (.head _)) vs.toArray
  rw [hlen] at D
  refine ⟨_, _, D, fun h e k => ⟨⟨_, e, rfl, rfl⟩, ⟨_, k _ _ ho, rfl, n, rfl⟩⟩, fun i v p im' hm hP hp => ?_⟩
  obtain ⟨u, hu, hr⟩ := hvs.get hp
  have hP' : vs[i]? = some v := by simpa using hP
  rw [hu] at hP'; cases hP'; exact hr.mono hm
noncomputable def pairs (ps qs : List PV) : List PV := (ps.zip qs).map fun x => .tup [x.1, x.2]
theorem pairs_get {ps qs : List PV} {i : Nat} {p : PV} (h : (pairs ps qs)[i]? = some p) : ∃ a b, ps[i]? = some a ∧ qs[i]? = some b ∧ p = .tup [a, b] := by
  unfold pairs at h
  rw [List.getElem?_map, Option.map_eq_some_iff] at h
  obtain ⟨⟨a, b⟩, h1, rfl⟩ := h
  obtain ⟨h2, h3⟩ := List.getElem?_zip_eq_some.mp h1
  exact ⟨a, b, h2, h3, rfl⟩
theorem pairs_len (ps qs : List PV) : (pairs ps qs).length = min ps.length qs.length := by unfold pairs; rw [List.length_map, List.length_zip]
section
variable {G : Gx} {A : Around} {im : PM} {h' : Heap} {z TI TO i1 i2 : Addr} {l1 l2 : List Addr} {ps qs : List PV} {P1 P2 : Nat → Value → Prop} {S1 S2 : Nat → Heap → Prop} {elts : List Expr} {kk : Nat} {tpos : Pos}
theorem IsIt.zip (hA : AOk G.n A) (D1 : Draws G.C.prog G.C.w A.in1 i1 (i1 :: l1) ps.length P1 S1) (D2 : Draws G.C.prog G.C.w A.in1 i2 (i2 :: l2) qs.length P2 S2) (Z : ZipPlaces z TI TO i1 i2 (i1 :: l1) (i2 :: l2))
    (hz : IsZip h' z TI TO .none) (hTI : IsPair h' TI (.ref i1) (.ref i2)) (hTO : IsPair h' TO .none .none) (h1 : S1 0 h') (h2 : S2 0 h') (m1 : ∀ b ∈ l1, ∃ o, im.f b = some o) (m2 : ∀ b ∈ l2, ∃ o, im.f b = some o)
    (v1 : ∀ i v p im', PMle im im' → P1 i v → ps[i]? = some p → VR im' p v) (v2 : ∀ i v p im', PMle im im' → P2 i v → qs[i]? = some p → VR im' p v) :
    IsIt G A im h' (.Tuple elts kk tpos) [] [] (pairs ps qs) z ([z, TI, TO, i1, i2] ++ (l1 ++ l2)) [z, TI, TO, i1, i2]
      (fun i h₀ v h₂ => ∃ x y T, v = .ref T ∧ P1 i x ∧ P2 i y ∧ h₀.get? T = none ∧ IsPair h₂ T x y)
      (fun i h => IsZip h z TI TO .none ∧ IsPair h TI (.ref i1) (.ref i2) ∧ (∃ a b, IsPair h TO a b) ∧ S1 i h ∧ S2 i h) where
  sub := fun b hb => List.mem_append_left _ hb
  frame := fun i h h' ⟨a, b, ⟨c, d, e⟩, f, g⟩ k => by
    have k' : ∀ b ∈ [z, TI, TO, i1, i2], ∀ o, h.get? b = some o → h'.get? b = some o := fun b hb o q => k b (List.mem_append_left _ hb) o q
    refine ⟨k' z (by simp) _ a, k' TI (by simp) _ b, ⟨c, d, k' TO (by simp) _ e⟩, D1.frame _ _ _ f fun b hb o q => k b ?_ o q, D2.frame _ _ _ g fun b hb o q => k b ?_ o q⟩
    · rcases List.mem_cons.mp hb with rfl | hb
      · simp
      · exact List.mem_append_right _ (List.mem_append_left _ hb)
    · rcases List.mem_cons.mp hb with rfl | hb
      · simp
      · exact List.mem_append_right _ (List.mem_append_right _ hb)
  next := fun i s Q E hi hS hQ => by
    obtain ⟨a, b, ⟨c, d, e⟩, f, g⟩ := hS
    rw [pairs_len] at hi
    have hT : s.TypeIs (.ref z) "zip" := ⟨_, a, rfl⟩
    have lt : ∀ {c o}, s.heap.get? c = some o → s.heap.objs.size ≠ c := fun e => Nat.ne_of_gt (Heap.lt_size e)
    unfold pyNext
    refine wpAny_bind (wpAny_attempt (wpAny_callSpecial?_slot (name := Str.ofString "__next__") hT F.slot_zip_next
      (wpAny_call_entry F.slot_zip_next hT F.entry_zip_next (zipD_item D1 D2 Z a b e f g (by walk_at "zo") (by walk_at "zo") fun x y h₁ tk px py z₁ o₁ s₁ s₂ t₁ k₁ => wpAny_pure (hQ _ h₁ tk fun Q' hq => ?_)) (F.args_zip_next_1 _))))
    refine wpAny_letOwnedTupleGo_zip z₁ fun h₂ z₂ c₂ => ?_
    replace c₂ : Heap.SameBut z h₁ h₂ := c₂
    have zT : s.heap.objs.size ≠ z := lt a
    refine hq h₂ ⟨x, y, _, rfl, px, py, get?_size_none _, c₂.extBut _ _ zT t₁⟩ ⟨z₂, c₂.extBut _ _ Z.TIz (k₁ _ _ Z.TIz Z.TITO Z.TIi1 Z.TIi2 b), ⟨x, y, c₂.extBut _ _ Z.TOz o₁⟩, D1.frame _ _ _ s₁ fun b hb o q => c₂.extBut b o (fun w => Z.zf1 (w ▸ hb)) q, D2.frame _ _ _ s₂ fun b hb o q => c₂.extBut b o (fun w => Z.zf2 (w ▸ hb)) q⟩ fun b o hb q => ?_
    simp only [List.mem_cons, List.not_mem_nil, or_false, not_or] at hb
    exact c₂.extBut b o hb.1 (k₁ b o hb.1 hb.2.2.1 hb.2.2.2.1 hb.2.2.2.2 q)
  done := fun s Q E hS hQ => by
    obtain ⟨a, b, ⟨c, d, e⟩, f, g⟩ := hS
    have hT : s.TypeIs (.ref z) "zip" := ⟨_, a, rfl⟩
    have hend : (pairs ps qs).length = ps.length ∨ ((pairs ps qs).length < ps.length ∧ (pairs ps qs).length = qs.length) := by rw [pairs_len]; walk_at "zo"
    unfold pyNext
    refine wpAny_bind (wpAny_attempt (wpAny_callSpecial?_slot (name := Str.ofString "__next__") hT F.slot_zip_next
      (wpAny_call_entry F.slot_zip_next hT F.entry_zip_next (zipD_end D1 D2 Z a b e f g hend fun h₁ x tk k₁ hx => ?_) (F.args_zip_next_1 _))))
    obtain ⟨o, ho, hc⟩ := hx
    refine wpAny_bind (wpAny_isInstance (T := "StopIteration") (b := true) ⟨o, ho, hc⟩ isSubtype_stop ?_)
    refine wpAny_pure (hQ h₁ tk fun b o hb q => ?_)
    simp only [List.mem_cons, List.not_mem_nil, or_false, not_or] at hb
    exact k₁ b o hb.1 hb.2.2.1 hb.2.2.2.1 hb.2.2.2.2 q
  self := fun i s Q E hS hq => wpAny_pyIter_zip hS.1 hq
  st := ⟨hz, hTI, ⟨_, _, hTO⟩, h1, h2⟩
  wrI := .head _
  fps := fun b hb hn => by
    rcases List.mem_append.mp hb with hb | hb
    · exact absurd hb hn
    · rcases List.mem_append.mp hb with hb | hb
      · exact .inl (m1 b hb)
      · exact .inl (m2 b hb)
  back := fun p hp => nomatch hp
  has := fun i h ⟨a, b, ⟨c, d, e⟩, f, g⟩ b' hb => by
    simp only [List.mem_cons, List.not_mem_nil, or_false] at hb
    rcases hb with rfl | rfl | rfl | rfl | rfl
    · exact ⟨_, a⟩
    · exact ⟨_, b⟩
    · exact ⟨_, e⟩
    · exact D1.live _ _ f
    · exact D2.live _ _ g
  val := fun im' i h₀ v h₂ hm hh ⟨x, y, T, e, px, py, hn, hp⟩ p hip => by
    obtain ⟨a, b, ha, hb, rfl⟩ := pairs_get hip
    subst e
    have iT : im'.f T = none := by
      cases q : im'.f T with
      | none => rfl
      | some o => rw [hh T o q] at hn; cases hn
    refine ⟨im'.put T (tupO [x, y] 0), ⟨PM.put_keep iT _, fun c o q => ?_, rfl⟩, .tup (PM.put_self ..) (.cons (v1 i x a _ (hm.trans (PM.put_keep iT _)) px ha) (.cons (v2 i y b _ (hm.trans (PM.put_keep iT _)) py hb) .nil))⟩
    by_cases w : c = T
    · subst w; rw [PM.put_self] at q; cases q; exact .inr ⟨hn, hp⟩
    · rw [PM.put_ne w] at q; exact .inl q
end
inductive ZipKind : PV → List PV → Prop
  | str {l : List Nat} (h : l.all (· < 128) = true) : ZipKind (.str l) (signs l)
  | lst {l : List PV} : ZipKind (.lst l) l
theorem ZipKind.src {C : Cx} {p : PV} {xs : List PV} (k : ZipKind p xs) {im : PM} {v : Value} (hv : VR im p v) : ∃ o Cd ls, ZipSrc C im p v xs o Cd ls := by
  cases k with
  | str h => exact ZipSrc.str hv h
  | lst => exact ZipSrc.lst hv
theorem plus_ne (n : Nat) {i j : Nat} (h : i ≠ j) : n + i ≠ n + j := fun e => h (Nat.add_left_cancel e)
noncomputable def SrcPost (G : Gx) (A : Around) (bs im : PM) (tg : Expr) (K : List PV → Led → Rho → Led → Prop) (v : Value) (s₁ : Shared) : Prop :=
  ∃ im₁ ρ₁ σf σr σ₂ items, Ext bs im im₁ ∧ St G bs im₁ s₁ ρ₁ (σf ++ σ₂) ∧ (σr.map (·.1)).Nodup ∧ K items σr ρ₁ σ₂ ∧
    ∀ Q : Value → Shared → Prop, (∀ I h' tk fp wr P S, (∀ b o, s₁.heap.get? b = some o → h'.get? b = some o) → (∀ b ∈ wr, Apart G bs im₁ (σf ++ σ₂) b ∨ b ∈ σf.map (·.1)) → IsIt G A im₁ h' tg σf σr items I fp wr P S → Q (.ref I) { s₁ with heap := h', toks := tk }) →
      wpAny G.C.M A (pyIter v) Q Bot s₁
theorem zip_call {G : Gx} {elts : List Expr} {kk : Nat} {tpos pos : Pos} {e1 e2 : Expr} {ρ : Rho} {σ : Led} {K : List PV → Led → Rho → Led → Prop}
    (h : EvL G pos [e1, e2] ρ σ (fun ps ρ₁ σ₁ => ∃ p q xs ys, ps = [p, q] ∧ ZipKind p xs ∧ ZipKind q ys ∧ K (pairs xs ys) [] ρ₁ σ₁)) (hst : (backTo pos (starEach [e1, e2] G.env)).any (·.1) = false)
    {A : Around} {bs im : PM} {s : Shared} (hA : AOk G.n A) (hS : St G bs im s ρ σ) :
    wpAny G.C.M A (callWith pos (.type "zip") [] (backTo pos (starEach [e1, e2] G.env)) []) (SrcPost G A bs im (.Tuple elts kk tpos) K) Bot s := by
  refine callWith_of (P := fun h => Keeps? G.C.M h (.type "zip")) (by rw [hst]; rfl) (fun h k => k) (evalArgs_any hst (wpAny_mono (h A bs im s hA hS) (fun vs s₁ p => ?_) fun _ _ x => x))
  obtain ⟨im₁, r, ρ₁, σ₁, e₁, hr, hS₁, p, q, xs, ys, rfl, kp, kq, hK⟩ := p
  obtain ⟨x, y, rfl, hx, hy⟩ := two_v hr
  refine ⟨keeps_type, ?_⟩
  obtain ⟨o1, C1, l1, Z1⟩ := kp.src (C := G.C) hx
  obtain ⟨o2, C2, l2, Z2⟩ := kq.src (C := G.C) hy
  refine call_zipD Z1.it Z2.it (Z1.cd _ hS₁.l.him) (Z2.cd _ hS₁.l.him) fun h' z₁ z₂ z₃ z₄ z₅ hk => ?_
  have lt1 : ∀ b ∈ l1, b < s₁.heap.objs.size := fun b hb => let ⟨o, ho⟩ := Z1.lm b hb; Heap.lt_size (hS₁.l.him b o ho)
  have lt2 : ∀ b ∈ l2, b < s₁.heap.objs.size := fun b hb => let ⟨o, ho⟩ := Z2.lm b hb; Heap.lt_size (hS₁.l.him b o ho)
  obtain ⟨P1, S1, D1, a1, b1⟩ := Z1.dr A.in1 s₁.heap.objs.size hA.1 fun b hb => Nat.ne_of_lt (lt1 b hb)
  obtain ⟨P2, S2, D2, a2, b2⟩ := Z2.dr A.in1 (s₁.heap.objs.size + 1) hA.1 fun b hb => Nat.ne_of_lt (Nat.lt_succ_of_lt (lt2 b hb))
  have hS₂ := hS₁.grow (h' := h') hk s₁.toks
  refine ⟨im₁, ρ₁, [], [], σ₁, pairs xs ys, e₁, hS₂, List.nodup_nil, hK, fun Q hQ => ?_⟩
  refine wpAny_pyIter_zip z₁ (hQ _ h' s₁.toks _ [s₁.heap.objs.size + 4, s₁.heap.objs.size + 2, s₁.heap.objs.size + 3, s₁.heap.objs.size, s₁.heap.objs.size + 1] _ _ (fun _ _ e => e) (fun b hb => .inl ?_) (IsIt.zip hA D1 D2 ?_ z₁ z₂ z₃ (a1 h' z₄ fun a o e => hk a o (hS₁.l.him a o e)) (a2 h' z₅ fun a o e => hk a o (hS₁.l.him a o e)) Z1.lm Z2.lm b1 b2))
  · refine hS₁.apart_new ?_
    have hge : s₁.heap.objs.size ≤ b := by
      simp only [List.mem_cons, List.not_mem_nil, or_false] at hb
      rcases hb with rfl | rfl | rfl | rfl | rfl
      · exact Nat.le_add_right _ _
      · exact Nat.le_add_right _ _
      · exact Nat.le_add_right _ _
      · exact Nat.le_refl _
      · exact Nat.le_add_right _ _
    cases q : s₁.heap.get? b with
    | none => rfl
    | some o => exact absurd (Heap.lt_size q) (Nat.not_lt.mpr hge)
  · have m1 : ∀ n, s₁.heap.objs.size ≤ n → n ∉ l1 := fun n hn hm => absurd (lt1 n hm) (Nat.not_lt.mpr hn)
    have m2 : ∀ n, s₁.heap.objs.size ≤ n → n ∉ l2 := fun n hn hm => absurd (lt2 n hm) (Nat.not_lt.mpr hn)
    have mc : ∀ (a b : Addr) (l : List Addr), a ≠ b → a ∉ l → a ∉ b :: l := fun a b l h k q => by
      rcases List.mem_cons.mp q with q | q
      · exact h q
      · exact k q
    exact ⟨plus_ne _ (i := 2) (j := 4) (by decide), plus_ne _ (i := 3) (j := 4) (by decide), plus_ne _ (i := 2) (j := 3) (by decide), plus_ne _ (i := 0) (j := 4) (by decide), plus_ne _ (i := 1) (j := 4) (by decide), plus_ne _ (i := 0) (j := 3) (by decide), plus_ne _ (i := 1) (j := 3) (by decide), plus_ne _ (i := 2) (j := 0) (by decide), plus_ne _ (i := 2) (j := 1) (by decide), plus_ne _ (i := 0) (j := 1) (by decide), mc _ _ _ (plus_ne _ (i := 4) (j := 0) (by decide)) (m1 _ (Nat.le_add_right _ _)), mc _ _ _ (plus_ne _ (i := 4) (j := 1) (by decide)) (m2 _ (Nat.le_add_right _ _)), mc _ _ _ (plus_ne _ (i := 3) (j := 0) (by decide)) (m1 _ (Nat.le_add_right _ _)), mc _ _ _ (plus_ne _ (i := 3) (j := 1) (by decide)) (m2 _ (Nat.le_add_right _ _)), mc _ _ _ (plus_ne _ (i := 0) (j := 1) (by decide)) (m2 _ (Nat.le_refl _)), mc _ _ _ (plus_ne _ (i := 1) (j := 0) (by decide)) (m1 _ (Nat.le_add_right _ _))⟩
theorem ForSrc.zip {G : Gx} {elts : List Expr} {kk : Nat} {tpos p0 pos : Pos} {e1 e2 : Expr} {ρ : Rho} {σ : Led} {K : List PV → Led → Rho → Led → Prop} (hf : ("zip", PV.con (.type "zip")) ∈ ρ)
    (h : EvL G pos [e1, e2] ρ σ (fun ps ρ₁ σ₁ => ∃ p q xs ys, ps = [p, q] ∧ ZipKind p xs ∧ ZipKind q ys ∧ K (pairs xs ys) [] ρ₁ σ₁)) (hst : (backTo pos (starEach [e1, e2] G.env)).any (·.1) = false := by rfl) :
    ForSrc G (.Tuple elts kk tpos) (.Call (.Name (Str.ofString "zip") p0) [e1, e2] [] pos) ρ σ K := fun A bs im s hA hS => by
  show wpAny _ _ _ (SrcPost G A bs im (.Tuple elts kk tpos) K) _ _
  rw [arm_eval_Call_Name']
  obtain ⟨hp, hl⟩ := load_has (A := A) (E := Bot) hS hf (Qv := fun v s₁ => wpAny G.C.M A (callWith pos v [] (backTo pos (starEach [e1, e2] G.env)) []) (SrcPost G A bs im (.Tuple elts kk tpos) K) Bot s₁) fun fv hv => hv.con_i ▸ zip_call h hst hA hS
  exact wpAny_bind (wpAny_Name hl hp.1)
end Mine.Tactic
end
section
open PySem PySem.W PyProof.Rows PySem.Calls
open Builtin
set_option Elab.async false
set_option maxRecDepth 100000
namespace Mine.Tactic
noncomputable abbrev viewO (d : Addr) : Obj := { cls := .type "dict_items", data := .fields #[.ref d] }
theorem entry_itemiter_iter : entryFor table "dict_itemiterator.__iter__" = some Builtin.«dict_keyiterator.__iter__» :=
  entryFor_alias (id' := "dict_keyiterator.__iter__") (by kernel_rfl) (by first | rfl | decide +kernel | (unfold String.splitOn; simp +decide [String.splitOnAux])) (by decide +kernel) (by kernel_rfl)
section
variable {prog : Program} {w : World} {A : Around} {E : Value → Shared → Prop} {s : Shared}
theorem pyIter_itemiter {it d : Addr} {i n ep : Nat} {ok ov : Value} {Q : Value → Shared → Prop} (h : IsItemIter s.heap it d i n ep ok ov) (hq : Q (.ref it) s) : wpAny (model prog w) A (pyIter (.ref it)) Q E s := by
  have hT : s.TypeIs (.ref it) "dict_itemiterator" := ⟨_, h, rfl⟩
  refine wpAny_pyIter_slot hT F.slot_dict_itemiterator_iter (wpAny_call_entry F.slot_dict_itemiterator_iter hT entry_itemiter_iter ?_ (F.args_dict_itemiterator_iter_1 _))
  show wpAny _ _ (ret (.ref it)) _ _ s
  exact wpAny_pure ⟨_, rfl, "dict_itemiterator", _, hT, F.slot_dict_itemiterator_next.lookup, hq⟩
theorem dictAt0 {h : Heap} {d : Addr} {n : Nat} (e : h.get? d = some (dicO [] n)) : h.DictAt (strKind prog w) d [] n :=
  ⟨_, #[], e, ⟨rfl, rfl, rfl⟩, rfl, (fun _ hm => absurd hm (by simp)), .nil, List.nodup_nil⟩
end
section
variable {G : Gx} {ρ : Rho} {σ : Led} {Q : PV → Rho → Led → Prop}
theorem MethP.att {D : Addr} {l : List (String × PV)} {name : Str} {id : String} (hm : (D, LO.att l) ∈ σ) (slot : Slot "dict" name id) (ty : typeOf (.builtin id) = pure (.type "method_descriptor")) : MethP G (.ref D) name (.con (.builtin id)) [.ref D] ρ σ := fun A bs im s v pl Qv hA hS hv k => by
  rw [hv.ref_i]
  obtain ⟨es, n, ho, _⟩ := (hS.l.led _ hm).1
  exact getMethod_builtin ⟨_, ho, rfl⟩ F.plainAttrs_dict slot ty (fun b e => by cases e; exact ⟨_, ho, rfl⟩) (k _ _ s.toks .con (.cons .ref .nil))
theorem CallP.items0 {D : Addr} (hm : (D, LO.att []) ∈ σ) (h : Q (.imo (viewO D)) ρ σ) (hD : (D == sysModules) = false) : CallP G (.con (.builtin "dict.items")) [.ref D] [] ρ σ Q := .self fun A bs im s vs hA hS hv => by
  obtain ⟨v, rfl, h1⟩ := one_v hv
  rw [h1.ref_i]
  obtain ⟨es, n, ho, he⟩ := (hS.l.led _ hm).1
  have := he.nil_inv
  subst this
  refine call_meetsIn F.slot_dict_items ⟨_, ho, rfl⟩ F.entry_dict_items (F.args_dict_items_1 _) (meets_dict_items (strKind G.C.prog G.C.w) D hD) ⟨⟨[], _, _, _, ho, ⟨rfl, rfl, rfl⟩, rfl, (fun _ hm => absurd hm (by simp)), .nil, List.nodup_nil⟩, ?_⟩
  obtain ⟨e, hS'⟩ := hS.pushIm (viewO D) rfl s.toks
  exact ⟨_, _, ρ, σ, e, .imo (PM.put_self ..), hS', h⟩
theorem ItSrc.items0 {tg : Expr} {D : Addr} : ItSrc G tg (.imo (viewO D)) [(D, .att [])] [(D, .att [])] [] := by
  intro A bs im s ρ σ v Q hA hS hv hQ
  obtain ⟨b, rfl, hb⟩ := hv.imo_i
  obtain ⟨⟨es, n, ho, he⟩, _⟩ := hS.l.led (D, .att []) (.head _)
  have := he.nil_inv
  subst this
  have hb' := hS.l.him _ _ hb
  refine wpAny_pyIter_items (knd := strKind G.C.prog G.C.w) ⟨_, hb', rfl, rfl⟩ (dictAt0 ho) ?_
  have hne : D ≠ s.heap.objs.size := Nat.ne_of_lt (Heap.lt_size ho)
  refine hQ s.heap.objs.size (s.heap.push _) s.toks [s.heap.objs.size, D] [s.heap.objs.size] (fun _ _ _ _ => False) (fun i h => i = 0 ∧ IsItemIter h s.heap.objs.size D 0 0 n .none .none ∧ h.get? D = some (dicO [] n)) (fun b o e => Heap.get?_push_of_some _ e) (fun b hb => .inl (by rw [List.mem_singleton.mp hb]; exact get?_size_none _))
    ⟨fun b hb => by rw [List.mem_singleton.mp hb]; exact .head _, fun i h h' ⟨a, b, c⟩ k => ⟨a, k _ (.head _) _ b, k _ (.tail _ (.head _)) _ c⟩, fun i s Q E hi => absurd hi (Nat.not_lt_zero _), fun s' Q E ⟨_, b, c⟩ hq => ?_, fun i s' Q E ⟨_, b, c⟩ hq => pyIter_itemiter b hq,
      ⟨rfl, Heap.get?_push_size _ rfl, Heap.get?_push_of_some _ ho⟩, .head _, fun b hb hn => ?_, fun p hp => ?_, fun i h ⟨_, b, c⟩ x hx => by rw [List.mem_singleton.mp hx]; exact ⟨_, b⟩, fun _ _ _ _ _ _ _ hf => hf.elim⟩
  · refine wpAny_pyNext_items_end (knd := strKind G.C.prog G.C.w) (kvs := []) (i := 0) hA.1 b (dictAt0 c) rfl fun h' he => hq h' s'.toks fun b o hb q => he b o (by simpa using hb) q
  · rcases List.mem_cons.mp hb with rfl | hb
    · exact absurd (.head _) hn
    · rw [List.mem_singleton.mp hb]; exact .inr ⟨.head _, .head _⟩
  · rw [List.mem_singleton.mp hp]; exact ⟨.head _, .tail _ (.head _), by simpa using hne⟩
end
theorem FnSpec.ofKw {C : Cx} {n : Nat} {a : Addr} {fd : FuncData} {body : List Stmt} {ps : List PV} {σ₀ : Led} {Q : PV → Led → Prop} (xs : List String) (kx : String) (ns : Names) (cn : List String) (ρg : Rho)
    {sc : Scope} (hf : FnAt C a fd) (hbody : fd.body = .stmts body) (hsc : fd.scope = sc) (hgl : fd.globals = mainGlobals) (hbi : fd.builtins = builtinsNs) (hcl : fd.closure = []) (hok : fnOk sc (xs ++ [kx]) ns cn (ρg.map (·.1)) = true) (hg : ∀ p ∈ ρg, p ∈ C.gl) (hlen : xs.length = ps.length)
    (hb : ∀ vs : List Value, vs.length = xs.length → bindArgs fd ⟨vs, []⟩ = (alloc { cls := .type "dict", data := .dict #[] } >>= fun d => pure ((xs.map Str.ofString).zip vs ++ [(Str.ofString kx, .ref d)])))
    (h3 : ∃ o, C.base.f 3 = some o)
    (h : ∀ env κ D, (D == sysModules) = false → Ex ⟨C, env, κ, ns, cn, n⟩ body (ρg ++ (xs ++ [kx]).zip (ps ++ [.ref D])) ((D, .att []) :: σ₀) (fun fl _ σ' => match fl with | .ret p => Q p σ' | .next => Q .none σ' | _ => False)) : FnSpec C (n + 1) (.ref a) ps [] σ₀ Q := by
  refine FnSpec.ofG (fun pv σ => ∃ D, (D == sysModules) = false ∧ pv = ps ++ [.ref D] ∧ σ = (D, .att []) :: σ₀) (xs ++ [kx]) ns cn ρg hf hbody hsc hgl hbi hcl hok hg ?_ ?_
  · intro bs im s vs kvs hS hv hk M A E Q' hQ
    have hkv : kvs = [] := by have := hk.1; simpa using this
    subst hkv
    rw [hb vs (by rw [hv.length, hlen])]
    refine wpAny_bind (wpAny_alloc (wpAny_pure ?_))
    have e : (xs.map Str.ofString).zip vs ++ [(Str.ofString kx, Value.ref s.heap.objs.size)] = ((xs ++ [kx]).map Str.ofString).zip (vs ++ [.ref s.heap.objs.size]) := by
      rw [List.map_append, List.zip_append (by rw [List.length_map, hv.length, hlen])]; rfl
    rw [e]
    obtain ⟨o3, ho3⟩ := h3
    have hlt : 3 < s.heap.objs.size := Heap.lt_size (hS.hbs _ _ (hS.cb _ _ ho3))
    refine hQ im { s with heap := s.heap.push { cls := .type "dict", data := .dict #[] } } _ (ps ++ [.ref s.heap.objs.size]) _ ⟨s.heap.objs.size, ?_, rfl, rfl⟩ (by rw [List.length_append, List.length_append, hlen]; rfl) .refl (hS.pushLed _ (.att []) s.toks ⟨[], 0, Heap.get?_push_size _ rfl, .nil⟩) (hv.append (.cons .ref .nil))
    rw [beq_eq_false_iff_ne]
    exact Nat.ne_of_gt (Nat.lt_of_le_of_lt (show sysModules ≤ 3 by decide) hlt)
  · rintro env κ pv σ _ ⟨D, hD, rfl, rfl⟩
    exact h env κ D hD
end Mine.Tactic
end
section
open PySem PySem.W PyProof.Rows PySem.Calls
open Builtin SeqAt
set_option Elab.async false
set_option maxRecDepth 100000
namespace Mine.Tactic
noncomputable def LtAt (A : Around) (s : Shared) (y x : Value) (b : Bool) : Prop :=
  ∀ (prog : Program) (w : World) (E : Value → Shared → Prop) (Q : Value → Shared → Prop), Q (.bool b) s → wpAny (model prog w) A (richCompare .Lt y x) Q E s
noncomputable def LexLt (A : Around) (s : Shared) : List Value → List Value → Bool → Prop
  | [], [], r => r = false
  | [], _ :: _, r => r = true
  | _ :: _, [], r => r = false
  | v :: vs, w :: ws, r => ∃ e, EqAt A s v w e ∧ (if e = true then LexLt A s vs ws r else LtAt A s v w r)
theorem LexLt.left {A : Around} {s : Shared} {ws : List Value} {r : Bool} (h : LexLt A s [] ws r) : r = decide (0 < ws.length) := by
  cases ws with
  | nil => exact h
  | cons _ _ => unfold LexLt at h; rw [h]; simp
theorem LexLt.right {A : Around} {s : Shared} {vs : List Value} {r : Bool} (h : LexLt A s vs [] r) : r = false := by
  cases vs <;> exact h
set_option maxHeartbeats 1000000 in
theorem tuple_ltAt (l b : Addr) (items items2 : Array Value) (n n2 : Nat) (dd dd2 : Option Addr) (sl sl2 : Array (Option Value)) (r : Bool) :
    Meets (Builtin.«tuple.__lt__» ⟨[.ref l, .ref b], []⟩)
      (fun A R s => s.heap.get? l = some { cls := .type "tuple", dict := dd, data := .seq items n, slots := sl } ∧ s.heap.get? b = some { cls := .type "tuple", dict := dd2, data := .seq items2 n2, slots := sl2 } ∧
        LexLt A.in1 s items.toList items2.toList r ∧ R (.ok (.ret (.bool r))) s) :=
  .of_wp fun prog w A R s h => by
    obtain ⟨hp, g, d, tk, os⟩ := s; obtain ⟨hl, hb, he, h⟩ := h
    have f2 := AutoSeq1.sub_tuple_tuple
    wp_walk using wpAny_loadPart' hl, wpAny_loadPart' hb, wpAny_forIn_list _ (fun rest b s' => b.1 = none ∧ s' = ⟨hp, g, d, tk, os⟩ ∧ ∃ i, rest = (items.toList.drop i).zip (items2.toList.drop i) ∧ i ≤ items.size ∧ i ≤ items2.size ∧
      LexLt A.in1 ⟨hp, g, d, tk, os⟩ (items.toList.drop i) (items2.toList.drop i) r) _
    case turn =>
      rintro ⟨y, x⟩ rest b s' ⟨hb', rfl, i, hz, hi1, hi2, hR⟩
      have h1 : i < items.toList.length := by
        rcases Nat.lt_or_ge i items.toList.length with h' | h'
        · exact h'
        · rw [List.drop_of_length_le h'] at hz; cases hz
      have h2 : i < items2.toList.length := by
        rcases Nat.lt_or_ge i items2.toList.length with h' | h'
        · exact h'
        · rw [List.drop_of_length_le h', List.zip_nil_right] at hz; cases hz
      rw [List.drop_eq_getElem_cons h1, List.drop_eq_getElem_cons h2] at hz hR
      rw [List.zip_cons_cons] at hz
      injection hz with hyx hrest
      injection hyx with hy hx
      subst hy hx
      obtain ⟨e, hE, hC⟩ := hR
      refine wpAny_bind (hE prog w _ _ ?_)
      cases e with
      | true =>
        rw [if_pos rfl] at hC
        wp_walk
        exact ⟨rfl, rfl, i + 1, hrest, by simp at h1; walk_at "zo", by simp at h2; walk_at "zo", hC⟩
      | false =>
        rw [if_neg (by decide)] at hC
        rw [if_pos (by decide)]
        dsimp only
        refine wpAny_bind (wpAny_rule (wpAny_bind (hC prog w _ _ ?_)))
        exact wpAny_bind (wpAny_pure (wpAny_pure (wpAny_pure ⟨_, rfl, h⟩)))
    case fin =>
      rintro ⟨b1, b2⟩ s' ⟨hb', rfl, i, hz, hi1, hi2, hR⟩
      simp only at hb'
      subst hb'
      have hr : r = decide (items.size < items2.size) := by
        rcases Nat.lt_or_ge i items.toList.length with h1 | h1
        · rcases Nat.lt_or_ge i items2.toList.length with h2 | h2
          · rw [List.drop_eq_getElem_cons h1, List.drop_eq_getElem_cons h2, List.zip_cons_cons] at hz; cases hz
          · rw [List.drop_of_length_le h2] at hR
            rw [hR.right]
            simp at h1 h2
            simp; walk_at "zo"
        · rw [List.drop_of_length_le h1] at hR
          rw [hR.left, List.length_drop]
          simp at h1
          simp; walk_at "zo"
      wp_walk
      exact ⟨_, rfl, by rw [hr] at h; exact h⟩
    case h =>
      exact ⟨rfl, rfl, 0, rfl, Nat.zero_le _, Nat.zero_le _, he⟩
theorem LtAt.int (A : Around) (s : Shared) (a : Int) (t : Tok) (b : Int) (u : Tok) : LtAt A s (.int a t) (.int b u) (decide (a < b)) := fun prog w E Q h => lt_int (A := A) (E := E) h
theorem LtAt.str (A : Around) (s : Shared) (a : List Nat) (t : Tok) (b : List Nat) (u : Tok) : LtAt A s (.str ⟨a.toArray⟩ t) (.str ⟨b.toArray⟩ u) (decide (a < b)) := fun prog w E Q h => by
  have := lt_str (prog := prog) (w := w) (A := A) (E := E) (s := s) (x := ⟨a.toArray⟩) (y := ⟨b.toArray⟩) (t := t) (u := u) (Q := Q) (by simpa using h)
  exact this
theorem LtAt.tup {A : Around} {s : Shared} {a b : Addr} {vs ws : List Value} {n m : Nat} {r : Bool} (ha : s.heap.get? a = some (tupO vs n)) (hb : s.heap.get? b = some (tupO ws m)) (hu : A.units < cLine) (h : LexLt A.in1 s vs ws r) : LtAt A s (.ref a) (.ref b) r := fun prog w E Q hq =>
  richCompare_meets_room (op := .Lt) ⟨_, ha, rfl⟩ ⟨_, hb, rfl⟩ F.slot_tuple_lt F.entry_tuple_lt (F.args_tuple_lt_2 _ _) (tuple_ltAt a b vs.toArray ws.toArray n m none none #[] #[] r)
    ⟨ha, hb, by simpa using h, show Value.bool r ≠ Value.notImplemented ∧ Q (.bool r) s from ⟨(fun x => nomatch x), hq⟩⟩ hu
end Mine.Tactic
end
section
open PySem PySem.W PyProof.Rows PySem.Calls
open SeqAt
set_option Elab.async false
set_option maxRecDepth 100000
namespace Mine.Tactic
section
variable {G : Gx} {ρ : Rho} {σ : Led} {Q : PV → Rho → Led → Prop}
theorem Op2.neB {a b : Bool} (h : Q (.bool (a != b)) ρ σ) : Op2 G (compareOp .NotEq) (.bool a) (.bool b) ρ σ Q := .lib h fun A im s v w Qv hA hI hv hw k => by
  rw [hv.bool_i, hw.bool_i]
  exact ne_bool (k _ s.toks .bool)
theorem Op2.notInS {l m : List Nat} (h : Q (.bool (!Txt.contains (S m) (S l))) ρ σ) : Op2 G (compareOp .NotIn) (.str l) (.str m) ρ σ Q := .lib h fun A im s v w Qv hA hI hv hw k => by
  obtain ⟨t, rfl⟩ := hv.str_i
  obtain ⟨u, rfl⟩ := hw.str_i
  exact PySem.P.notIn_str (k _ s.toks .bool)

noncomputable def eqP : PV → PV → Bool
  | .int a, .int b => a == b
  | .str a, .str b => a == b
  | _, _ => false
noncomputable def ltP : PV → PV → Bool
  | .int a, .int b => decide (a < b)
  | .str a, .str b => decide (a < b)
  | _, _ => false
noncomputable def likeP : PV → PV → Bool
  | .int _, .int _ => true
  | .str _, .str _ => true
  | _, _ => false
theorem likeP_inv {p q : PV} (h : likeP p q = true) : (∃ a b, p = .int a ∧ q = .int b) ∨ (∃ a b, p = .str a ∧ q = .str b) := by
  unfold likeP at h
  split at h
  · exact .inl ⟨_, _, rfl, rfl⟩
  · exact .inr ⟨_, _, rfl, rfl⟩
  · cases h
theorem EqAt.like {A : Around} {s : Shared} {im : PM} {p q : PV} {v w : Value} (h : likeP p q = true) (hv : VR im p v) (hw : VR im q w) : EqAt A s v w (eqP p q) := by
  rcases likeP_inv h with ⟨a, b, rfl, rfl⟩ | ⟨a, b, rfl, rfl⟩
  · obtain ⟨t, rfl⟩ := hv.int_i; obtain ⟨u, rfl⟩ := hw.int_i; exact EqAt.int_int _ _ _ _
  · obtain ⟨t, rfl⟩ := hv.str_i; obtain ⟨u, rfl⟩ := hw.str_i
    rw [show eqP (.str a) (.str b) = (S a == S b) from (S_beq a b).symm]
    exact EqAt.str_str _ _ _ _
theorem LtAt.like {A : Around} {s : Shared} {im : PM} {p q : PV} {v w : Value} (h : likeP p q = true) (hv : VR im p v) (hw : VR im q w) : LtAt A s v w (ltP p q) := by
  rcases likeP_inv h with ⟨a, b, rfl, rfl⟩ | ⟨a, b, rfl, rfl⟩
  · obtain ⟨t, rfl⟩ := hv.int_i; obtain ⟨u, rfl⟩ := hw.int_i; exact LtAt.int _ _ _ _ _ _
  · obtain ⟨t, rfl⟩ := hv.str_i; obtain ⟨u, rfl⟩ := hw.str_i; exact LtAt.str _ _ _ _ _ _
noncomputable def ltPs : List PV → List PV → Bool
  | [], [] => false
  | [], _ :: _ => true
  | _ :: _, [] => false
  | p :: ps, q :: qs => if eqP p q then ltPs ps qs else ltP p q
noncomputable def likePs : List PV → List PV → Bool
  | p :: ps, q :: qs => likeP p q && likePs ps qs
  | _, _ => true
theorem LexLt.like {A : Around} {s : Shared} {im : PM} : ∀ (ps qs : List PV) (vs ws : List Value), likePs ps qs = true → VRs im ps vs → VRs im qs ws → LexLt A s vs ws (ltPs ps qs)
  | [], [], vs, ws, _, hv, hw => by rw [hv.nil_inv, hw.nil_inv]; exact rfl
  | [], q :: qs, vs, ws, _, hv, hw => by obtain ⟨w, ws', rfl, _⟩ := hw.cons_inv; rw [hv.nil_inv]; exact rfl
  | p :: ps, [], vs, ws, _, hv, hw => by obtain ⟨w, ws', rfl, _⟩ := hv.cons_inv; rw [hw.nil_inv]; exact rfl
  | p :: ps, q :: qs, vs, ws, h, hv, hw => by
    obtain ⟨v, vs', rfl, h1, h2⟩ := hv.cons_inv
    obtain ⟨w, ws', rfl, k1, k2⟩ := hw.cons_inv
    rw [likePs, Bool.and_eq_true] at h
    refine ⟨eqP p q, EqAt.like h.1 h1 k1, ?_⟩
    rw [ltPs]
    split
    · exact LexLt.like ps qs vs' ws' h.2 h2 k2
    · exact LtAt.like h.1 h1 k1
theorem units_of {n : Nat} {A : Around} (hA : AOk n A) : A.units < cLine := by have := hA.2.2; show A.units < 9900; walk_at "zo"
theorem Op2.ltT {ps qs : List PV} (hl : likePs ps qs = true) (h : Q (.bool (ltPs ps qs)) ρ σ) : Op2 G (compareOp .Lt) (.tup ps) (.tup qs) ρ σ Q := .lib h fun A im s v w Qv hA hI hv hw k => by
  obtain ⟨a, vs, n, rfl, ha, hvs⟩ := hv.tup_i
  obtain ⟨b, ws, m, rfl, hb, hws⟩ := hw.tup_i
  exact LtAt.tup (hI _ _ ha) (hI _ _ hb) (units_of hA) (LexLt.like ps qs vs ws hl hvs hws) _ _ _ _ (k _ s.toks .bool)

theorem any_like {A : Around} {s : Shared} {im : PM} {x : PV} {xv : Value} (hx : VR im x xv) : ∀ (ps : List PV) (vs : List Value), (∀ p ∈ ps, likeP p x = true) → VRs im ps vs →
    ∃ e : Value → Bool, (∀ y ∈ vs, EqAt A s y xv (e y)) ∧ vs.any e = ps.any fun p => eqP p x := fun ps vs hl hv => by
  classical
  refine ⟨fun y => decide (∃ p, p ∈ ps ∧ VR im p y ∧ eqP p x = true), fun y hy => ?_, ?_⟩
  · obtain ⟨p, hp, hpy⟩ : ∃ p ∈ ps, VR im p y := by
      clear hl
      induction ps generalizing vs with
      | nil => rw [hv.nil_inv] at hy; cases hy
      | cons p ps ih =>
        obtain ⟨v, vs', rfl, h1, h2⟩ := hv.cons_inv
        rcases List.mem_cons.mp hy with rfl | hy
        · exact ⟨p, .head _, h1⟩
        · obtain ⟨q, hq, h3⟩ := ih _ h2 hy; exact ⟨q, .tail _ hq, h3⟩
    have he := EqAt.like (A := A) (s := s) (hl p hp) hpy hx
    have uniq : ∀ q ∈ ps, VR im q y → eqP q x = eqP p x := fun q hq hqy => by
      rcases likeP_inv (hl p hp) with ⟨a, b, rfl, rfl⟩ | ⟨a, b, rfl, rfl⟩
      · rcases likeP_inv (hl q hq) with ⟨c, d, rfl, e⟩ | ⟨c, d, rfl, e⟩
        · obtain ⟨t, rfl⟩ := hpy.int_i; obtain ⟨u, e⟩ := hqy.int_i
          injection e with e; rw [e]
        · cases e
      · rcases likeP_inv (hl q hq) with ⟨c, d, rfl, e⟩ | ⟨c, d, rfl, e⟩
        · cases e
        · obtain ⟨t, rfl⟩ := hpy.str_i; obtain ⟨u, e⟩ := hqy.str_i
          injection e with e; injection e with e
          have : ∀ l m : List Nat, l.toArray = m.toArray → l = m := fun l m h => by simpa using h
          rw [this _ _ e]
    show EqAt A s y xv (decide (∃ p, p ∈ ps ∧ VR im p y ∧ eqP p x = true))
    cases hb : eqP p x with
    | true => rw [hb] at he; rw [decide_eq_true ⟨p, hp, hpy, hb⟩]; exact he
    | false => rw [hb] at he; rw [decide_eq_false (fun ⟨q, hq, h1, h2⟩ => by rw [uniq q hq h1, hb] at h2; cases h2)]; exact he
  · rw [Bool.eq_iff_iff, List.any_eq_true, List.any_eq_true]
    constructor
    · rintro ⟨y, hy, h⟩
      obtain ⟨p, hp, _, h⟩ := of_decide_eq_true h
      exact ⟨p, hp, h⟩
    · rintro ⟨p, hp, h⟩
      obtain ⟨i, hi, e⟩ := List.mem_iff_getElem.mp hp
      have : ps[i]? = some p := by rw [List.getElem?_eq_getElem hi, e]
      obtain ⟨y, hy, h2⟩ := hv.get this
      exact ⟨y, List.mem_of_getElem? hy, decide_eq_true ⟨p, hp, h2, h⟩⟩
noncomputable abbrev hasP (ps : List PV) (x : PV) : Bool := ps.any fun p => eqP p x
theorem Op2.inT {x : PV} {ps : List PV} (hl : ∀ p ∈ ps, likeP p x = true) (h : Q (.bool (hasP ps x)) ρ σ) : Op2 G (compareOp .In) x (.tup ps) ρ σ Q := .lib h fun A im s v w Qv hA hI hv hw k => by
  obtain ⟨a, vs, n, rfl, ha, hvs⟩ := hw.tup_i
  obtain ⟨e, he, e2⟩ := any_like (A := A.in1) (s := s) hv ps vs hl hvs
  refine in_tupleAt e (items := vs.toArray) ⟨_, hI _ _ ha, rfl, n, rfl⟩ (fun y hy => he y (by simpa using hy)) ?_
  rw [List.any_toArray, e2]; exact k _ s.toks .bool
theorem Op2.eqEmptyL {l : List PV} (h : Q (.bool l.isEmpty) ρ σ) : Op2 G (compareOp .Eq) (.lst l) (.lst []) ρ σ Q := .lib h fun A im s v w Qv hA hI hv hw k => by
  obtain ⟨a, vs, n, rfl, ha, hvs⟩ := hv.lst_i
  obtain ⟨b, ws, m, rfl, hb, hws⟩ := hw.lst_i
  have e := hws.nil_inv
  subst e
  cases l with
  | nil =>
    have e := hvs.nil_inv
    subst e
    exact eq_listAt (e := fun _ => true) (isList_of (hI _ _ ha)) (isList_of (hI _ _ hb)) rfl (units_of hA) (fun j h1 h2 => absurd h1 (by simp)) (k _ s.toks .bool)
  | cons p l =>
    obtain ⟨v, vs', e, _⟩ := hvs.cons_inv
    subst e
    exact eq_list_lengthsAt (isList_of (hI _ _ ha)) (isList_of (hI _ _ hb)) (by simp) (units_of hA) (k _ s.toks .bool)
theorem Op2.neEmptyL {l : List PV} (h : Q (.bool (!l.isEmpty)) ρ σ) : Op2 G (compareOp .NotEq) (.lst l) (.lst []) ρ σ Q := fun A bs im s v w hA hS hv hw => by
  obtain ⟨a, vs, n, rfl, ha, hvs⟩ := hv.lst_i
  obtain ⟨b, ws, m, rfl, hb, hws⟩ := hw.lst_i
  have e := hws.nil_inv
  subst e
  exact ne_empty_run hA hS (hS.l.him _ _ ha) (hS.l.him _ _ hb) hvs h
end
end Mine.Tactic
end
section
open PySem PySem.W PyProof.Rows PySem.Calls
open SeqAt
set_option Elab.async false
set_option maxRecDepth 100000
namespace Mine.Tactic
section
variable {prog : Program} {w : World} {A : Around} {E : Value → Shared → Prop} {s : Shared}
end
section
variable {G : Gx} {ρ : Rho} {σ : Led} {Q : PV → Rho → Led → Prop}
end
end Mine.Tactic
end
section
open PySem PySem.W PyProof.Rows PySem.Calls
set_option Elab.async false
set_option maxRecDepth 100000
namespace Mine.Tactic
section
variable {G : Gx} {ρ : Rho} {σ : Led} {Q : PV → Rho → Led → Prop}
noncomputable abbrev LO.dict (G : Gx) (l : List (List Nat × PV)) : LO := .dic G.C.prog G.C.w l
theorem Ev.dict0 {pos : Pos} (h : ∀ D, (D == sysModules) = false → Q (.ref D) ρ ((D, .dict G []) :: σ)) {b : Addr} {o : Obj} (hb : G.C.base.f b = some o) (hb3 : sysModules ≤ b) : Ev G (.Dict [] [] pos) ρ σ Q := fun A bs im s hA hS => by
  have hlt : b < s.heap.objs.size := Heap.lt_size (hS.l.hbs _ _ (hS.l.cb _ _ hb))
  refine wpAny_Dict_empty ?_
  have hx : LR im (s.heap.push { cls := .type "dict", data := .dict #[] }) s.heap.objs.size (.dict G []) :=
    ⟨[], ⟨_, #[], 0, Heap.get?_push_size _ rfl, ⟨rfl, rfl, rfl⟩, rfl, fun _ he => by simp at he, .nil, .nil⟩, rfl, .nil⟩
  exact ⟨im, _, ρ, _, .refl, .ref, hS.pushLed { cls := .type "dict", data := .dict #[] } (.dict G []) s.toks hx, h _ (by simpa using Nat.ne_of_gt (Nat.lt_of_le_of_lt hb3 hlt))⟩
theorem S_inj {l m : List Nat} (h : S l = S m) : l = m := by injection h with h; simpa using h
theorem kv_none {im : PM} : ∀ {l : List (List Nat × PV)} {kvs : List (Str × Value)}, KVR im l kvs → ∀ {k : List Nat}, l.lookup k = none → valueAt kvs (S k) = none
  | [], kvs, h, k, _ => by
    have : kvs = [] := by simpa using h.1
    rw [this]; rfl
  | (x, p) :: l, [], h, k, _ => by simp [KVR] at h
  | (x, p) :: l, (y, v) :: kvs, h, k, e => by
    have h1 := h.1
    rw [List.map_cons, List.map_cons, List.cons.injEq] at h1
    obtain ⟨v', vs', e2, h2, h3⟩ := VRs.cons_inv h.2
    rw [List.map_cons, List.cons.injEq] at e2
    rw [List.lookup_cons] at e
    have hy : y = S x := h1.1
    have hk : ¬ y = S k := fun q => by rw [hy] at q; rw [S_inj q, beq_self_eq_true] at e; cases e
    have hb : (k == x) = false := by
      cases q : k == x with
      | false => rfl
      | true => rw [eq_of_beq q, ← hy] at hk; exact absurd rfl hk
    rw [hb] at e
    have ih := kv_none (im := im) (l := l) (kvs := kvs) ⟨h1.2, by rw [e2.2]; exact h3⟩ e
    unfold valueAt at ih ⊢
    rw [List.find?_cons_of_neg (by simpa using hk)]; exact ih
theorem kv_some {im : PM} : ∀ {l : List (List Nat × PV)} {kvs : List (Str × Value)}, KVR im l kvs → ∀ {k : List Nat} {p : PV}, l.lookup k = some p → ∃ v, valueAt kvs (S k) = some v ∧ VR im p v
  | [], kvs, h, k, p, e => by cases e
  | (x, q) :: l, [], h, k, p, _ => by simp [KVR] at h
  | (x, q) :: l, (y, v) :: kvs, h, k, p, e => by
    have h1 := h.1
    rw [List.map_cons, List.map_cons, List.cons.injEq] at h1
    obtain ⟨v', vs', e2, h2, h3⟩ := VRs.cons_inv h.2
    rw [List.map_cons, List.cons.injEq] at e2
    rw [List.lookup_cons] at e
    have hy : y = S x := h1.1
    cases hb : k == x with
    | true =>
      rw [hb] at e
      cases e
      refine ⟨v, ?_, by rw [show v = v' from e2.1]; exact h2⟩
      unfold valueAt
      rw [List.find?_cons_of_pos (by rw [hy, eq_of_beq hb]; simp)]
      rfl
    | false =>
      rw [hb] at e
      have hk : ¬ y = S k := fun q => by rw [hy] at q; rw [S_inj q, beq_self_eq_true] at hb; cases hb
      obtain ⟨u, h4, h5⟩ := kv_some (im := im) (l := l) (kvs := kvs) ⟨h1.2, by rw [e2.2]; exact h3⟩ e
      refine ⟨u, ?_, h5⟩
      unfold valueAt at h4 ⊢
      rw [List.find?_cons_of_neg (by simpa using hk)]; exact h4
theorem sk_is {prog : Program} {w : World} (k : List Nat) (t : Tok) : (PySem.strKind prog w).is (S k) (.str ⟨k.toArray⟩ t) = true := by
  show (Value.str (S k) t).isStr (S k) = true
  simp [Value.isStr]
theorem SetP.dict {a : Addr} {l : List (List Nat × PV)} {k : List Nat} {p : PV} {σ' : Led} {Q : Rho → Led → Prop} (u : Upd a (.dict G l) (.dict G (l ++ [(k, p)])) σ σ') (hk : l.lookup k = none) (hz : l.length ≤ 1000000) (h : Q ρ σ') : SetP G (.ref a) (.str k) p ρ σ Q := fun A bs im s v w x hA hS ha hb hp => by
  rw [ha.ref_i]
  obtain ⟨t, rfl⟩ := hb.str_i
  obtain ⟨kvs, hd, hkv⟩ := (hS.l.led _ u.mem).1
  have e := hkv.2.length
  rw [List.length_map, List.length_map] at e
  refine wpAny_setItem_pairs (sk_is k t) hd (fun h' hd' hs => ?_) (by rw [e, sizeLine_eq]; walk_at "zo")
  rw [stored_absent (kv_none hkv hk)] at hd'
  refine .now (r := ()) (hS.upd u _ hs ⟨_, hd', ?_, ?_⟩) trivial h
  · rw [List.map_append, List.map_append, hkv.1]; rfl
  · rw [List.map_append, List.map_append]; exact hkv.2.append (.cons hp .nil)
theorem Op2.itemD {value slice : Expr} {a : Addr} {l : List (List Nat × PV)} {k : List Nat} {p : PV} (hm : (a, LO.dict G l) ∈ σ) (hk : l.lookup k = some p) (h : Q p ρ σ)
    (hs : SubOk slice := by intro _ _; rfl) (hg : ∀ o r, letTemporaryGo value o r = pure () := by intro _ _; rfl) : Op2 G (subscriptTail value slice) (.ref a) (.str k) ρ σ Q := fun A bs im s v w hA hS hv hw => by
  rw [hv.ref_i]
  obtain ⟨t, rfl⟩ := hw.str_i
  obtain ⟨kvs, hd, hkv⟩ := (hS.l.led _ hm).1
  obtain ⟨v, h1, h2⟩ := kv_some hkv hk
  exact subscriptTail_builtin hd.typeIs slot_dict_getitem.lookup (wpAny_getItem_of (sk_is k t) hd.mapOf h1 (.now (hS.toks _) h2 h)) (hs _ _) (hg _)
end
end Mine.Tactic
end
section
open PySem PySem.W PyProof.Rows PySem.Calls
set_option Elab.async false
set_option maxRecDepth 100000
namespace Mine.Tactic
open Builtin.Re
theorem slot_sub : Slot "re.Pattern" "sub" "re.Pattern.sub" :=
  .of (owner := "re.Pattern") (n := "sub") (by rw [typeLookup_type, builtinLookup_eq_fast]; kernel_rfl) (by decide +kernel) (by decide +kernel) (by decide +kernel)
    (by first | exact .inl (by decide +kernel) | exact .inr (by decide +kernel)) (by rw [isSubtype_type]; kernel_rfl)
theorem entry_sub : entryFor table "re.Pattern.sub" = some Builtin.«re.Pattern.sub» := entryFor_of_tree (by kernel_rfl)
theorem entry_subloop : entryFor table "re.Pattern.sub.loop" = some Builtin.«re.Pattern.sub.loop» := entryFor_of_tree (by kernel_rfl)
theorem quiet_subloop (args : Args) : (Code.builtin "re.Pattern.sub.loop" args).quiet = true := Code.quiet_builtin _ (by decide +kernel)
theorem plain_subloop : plainId "re.Pattern.sub.loop" = true := by decide +kernel
theorem args_sub (a b c : Value) : argsOk "re.Pattern.sub" ⟨[a, b, c], []⟩ := by unfold argsOk; kernel_rfl
theorem type_sub : typeOf (.builtin "re.Pattern.sub") = pure (.type "method_descriptor") := by show builtinType _ = _; rw [builtinType_eq_fast]; kernel_rfl
theorem fn_call : typeLookup (.type "function") "__call__" = pure (some (.builtin "function.__call__")) := by rw [typeLookup_type, builtinLookup_eq_fast]; kernel_rfl
section
variable {prog : Program} {w : World} {A : Around} {E : Value → Shared → Prop} {s : Shared}
theorem call_again {T : String} {name : Str} {id : String} {b : Builtin} {self : Value} {rest : List Value} {Q : Value → Shared → Prop} (h : Slot T name id) (hT : s.TypeIs self T) (hb : entryFor table id = some b)
    (hc : wpAny (model prog w) A.in1 (b ⟨self :: rest, []⟩) (fun fin s' => ∃ c', fin = .again c' ∧ c'.quiet = true ∧ codeAny (model prog w) A c' (fun r s' => match r with | .ok (.ret v) => Q v s' | .ok _ => False | .error e => E e s') s') E s)
    (ha : argsOk id ⟨self :: rest, []⟩) : wpAny (model prog w) A (call (.builtin id) (self :: rest)) Q E s := by
  refine wpAny_call (codeAny_call_builtin h.plain hb (h.check _ _ _ _ _ _ _ _ hT ha (wpAny_mono hc (fun fin s' h' => ?_) fun _ _ h' => h')))
  obtain ⟨c', rfl, h1, h2⟩ := h'
  exact ⟨h1, h2⟩
theorem text_of (x : Str) (t : Tok) : reTextOf (.str x t) = pure (x.cps, 0) := by unfold reTextOf; rfl
theorem whole_run {a ca : Addr} {o oc : Obj} {fs items : Array Value} {n : Nat} {x : Str} {t : Tok} {Q : ReTarget → Shared → Prop} (ho : s.heap.get? a = some o) (hd : o.data = .fields fs)
    (h6 : reRawNat (fs.getD 6 .none) = 0) (h5 : fs.getD 5 .none = .ref ca) (hca : s.heap.get? ca = some oc) (hcd : oc.data = .seq items n)
    (h : Q { pattern := .ref a, string := .str x t, code := (items.map reRawOf).map (·.toNat), text := x.cps, kind := 0, groups := reRawNat (fs.getD 2 .none), pos := 0, lim := x.cps.size } s) :
    wpAny (model prog w) A (reWholeTarget (.ref a) (.str x t)) Q E s := by
  unfold reWholeTarget
  refine wpAny_bind ?_
  unfold fieldsOf
  refine wpAny_bind (wpAny_loadPart ho ?_)
  rw [hd]
  refine wpAny_pure ?_
  rw [text_of]
  refine wpAny_bind (wpAny_pure ?_)
  dsimp only
  rw [h6, if_neg (by decide), if_neg (by decide)]
  have hno : reNoCollectionInside (.str x t) 0 = pure () := rfl
  rw [hno]
  refine wpAny_bind (wpAny_pure (wpAny_bind ?_))
  unfold reRawItems
  rw [h5]
  exact wpAny_bind (wpAny_seqItems hca hcd (wpAny_pure (wpAny_pure h)))
set_option maxHeartbeats 1000000 in
theorem sub_run {a ca f : Addr} {o oc ofn : Obj} {fs items : Array Value} {n : Nat} {x : Str} {t : Tok} {Q : Value → Shared → Prop} {m' : Sre.M} (k : Nat) (ho : s.heap.get? a = some o) (hcl : o.cls = .type "re.Pattern") (hd : o.data = .fields fs)
    (h6 : reRawNat (fs.getD 6 .none) = 0) (h5 : fs.getD 5 .none = .ref ca) (hca : s.heap.get? ca = some oc) (hcd : oc.data = .seq items n) (hof : s.heap.get? f = some ofn) (hcf : ofn.cls = .type "function") (hx : x.cps.size ≤ 16000000) (hx0 : 0 < x.cps.size) (hk : k ≤ 2 ^ 64)
    (e : reFin k (Sre.forSearch ((items.map reRawOf).map (·.toNat)) x.cps (reRawNat (fs.getD 2 .none)) 0 x.cps.size false) = some m') (hf : m'.outcome = some .failed)
    (h : ∀ h' tk t', (∀ b o, s.heap.get? b = some o → h'.get? b = some o) → Q (.str x t') { s with heap := h', toks := tk }) :
    wpAny (model prog w) A (call (.builtin "re.Pattern.sub") [.ref a, .ref f, .str x t]) Q E s := by
  refine call_again slot_sub ⟨_, ho, hcl⟩ entry_sub ?_ (args_sub _ _ _)
  unfold Builtin.«re.Pattern.sub» reSubstitute
  dsimp only
  have named : reNamed "re.Pattern.sub" "sub" ["repl", "string", "count"] 2 [.ref f, .str x t] [] = pure [some (.ref f), some (.str x t), none] := by kernel_rfl
  rw [named]
  refine wpAny_bind (wpAny_pure ?_)
  dsimp only
  refine wpAny_bind (wpAny_pure ?_)
  refine wpAny_bind (wpAny_specialOf (T := "function") (v := .ref f) ⟨_, hof, hcf⟩ fn_call ?_)
  dsimp only [Option.isSome]
  rw [if_pos rfl]
  refine wpAny_bind (wpAny_pure ?_)
  rw [if_pos rfl]
  refine wpAny_bind (wpAny_pure ?_)
  dsimp only
  refine wpAny_bind (wpAny_holding (whole_run ho hd h6 h5 hca hcd ?_))
  rw [if_pos (by decide)]
  unfold reNotHeld
  refine wpAny_bind (wpAny_bind (wpAny_isInstance (T := "str") (v := .str x t) (b := false) rfl (by rw [isSubtype_type]; kernel_rfl) ?_))
  rw [if_neg (by decide)]
  refine wpAny_pure ?_
  refine wpAny_bind (wpAny_newList (wpAny_pure ⟨_, rfl, quiet_subloop _, codeAny_builtin entry_subloop ?_⟩))
  rw [Around.under_plainId plain_subloop _]
  unfold Builtin.«re.Pattern.sub.loop»
  have ho' : (s.heap.push (seqObj "list" #[] 0)).get? a = some o := Heap.get?_push_of_some _ ho
  have hca' : (s.heap.push (seqObj "list" #[] 0)).get? ca = some oc := Heap.get?_push_of_some _ hca
  have hl : (s.heap.push (seqObj "list" #[] 0)).get? s.heap.objs.size = some (seqObj "list" #[] 0) := Heap.get?_push_size _ rfl
  dsimp only [rawInt]
  refine wpAny_bind (whole_run (s := { s with heap := s.heap.push (seqObj "list" #[] 0) }) ho' hd h6 h5 hca' hcd ?_)
  rw [if_neg (by decide)]
  dsimp only
  rw [if_neg (by decide)]
  unfold reNextFound
  refine wpAny_bind (toEnd_failed k hk e hf ?_)
  dsimp only
  rw [if_pos (by simpa using hx0)]
  unfold reSlice
  rw [if_pos (by decide), if_pos (by decide), if_pos (by decide), show x.cps.extract (Int.toNat 0) = x.cps by simp, show x.cps.extract 0 0 = #[] by simp]
  refine wpAny_bind (wpAny_mkStr ?_ (by show x.cps.size ≤ _; rw [sizeLine_eq]; walk_at "zo"))
  refine wpAny_bind (wpAny_updateSeq (xs := #[]) (n := 0) hl rfl ?_ (Nat.zero_le _) (by show 1 ≤ _; rw [sizeLine_eq]; walk_at "zo"))
  have hl2 := get?_update_seq hl (fun z => z.push (Value.str { cps := x.cps } s.toks))
  refine wpAny_bind (wpAny_mkStr ?_ (Nat.zero_le _))
  unfold seqItems?
  refine wpAny_bind (wpAny_bind (wpAny_load hl2 (wpAny_pure ?_)))
  rw [if_neg (by simp)]
  refine wpAny_bind (join_list (isList_of (vs := [Value.str { cps := x.cps } s.toks]) (n := 1) ?_) (StrsAre.cons x s.toks .nil) ?_ fun t' k => ?_)
  · simpa using hl2
  · show [x.cps.size].sum + 1 * 0 ≤ 16777216
    simp; walk_at "zo"
  have hj : Txt.join { cps := #[] } [x] = x := rfl
  rw [hj, if_neg (by decide)]
  refine wpAny_pure (h _ _ _ fun b o q => ?_)
  have hne : s.heap.objs.size ≠ b := Nat.ne_of_gt (Heap.lt_size q)
  exact (Heap.get?_update_other _ _ hne).trans (Heap.get?_push_of_some _ q)
end
structure ReAtG (K : Frag) (a : Addr) (code : Array Nat) (g : Nat) : Prop where
  it : ∃ o fs ca oc items n, K.lookup a = some o ∧ o.cls = .type "re.Pattern" ∧ o.dict = none ∧ o.data = .fields fs ∧ reRawNat (fs.getD 6 .none) = 0 ∧ fs.getD 5 .none = .ref ca ∧ reRawNat (fs.getD 2 .none) = g ∧ K.lookup ca = some oc ∧ oc.data = .seq items n ∧ (items.map reRawOf).map (·.toNat) = code
noncomputable def missG (code : Array Nat) (g : Nat) (l : List Nat) : Bool := match reFin 100 (Sre.forSearch code l.toArray g 0 l.toArray.size false) with
  | some m => (match m.outcome with | some .failed => true | _ => false)
  | none => false
section
variable {G : Gx} {ρ : Rho} {σ : Led} {Q : PV → Rho → Led → Prop}
theorem MethP.sub {a : Addr} {code : Array Nat} {g : Nat} (hr : ReAtG G.C.K a code g) : MethP G (.con (.ref a)) (Str.ofString "sub") (.con (.builtin "re.Pattern.sub")) [.con (.ref a)] ρ σ := fun A bs im s v pl Qv hA hS hv k => by
  rw [hv.con_i]
  obtain ⟨o, fs, ca, oc, items, n, h1, h2, h3, _⟩ := hr.it
  have ho := hS.l.K _ _ h1
  exact getMethod_builtin ⟨_, ho, h2⟩ plainAttrs_re slot_sub type_sub (fun b e => by cases e; exact ⟨_, ho, h3⟩) (k _ _ s.toks .con (.cons .con .nil))
theorem CallP.sub {a : Addr} {code : Array Nat} {g : Nat} {l : List Nat} {fo : Obj} (hr : ReAtG G.C.K a code g) (hf : fo.cls = .type "function") (hm : missG code g l = true) (hz : l.length ≤ 16000000) (hl : l ≠ []) (h : Q (.str l) ρ σ) :
    CallP G (.con (.builtin "re.Pattern.sub")) [.con (.ref a), .imo fo, .str l] [] ρ σ Q := .self fun A bs im s vs hA hS hv => by
  obtain ⟨v, w, y, rfl, hv1, hw1, hy1⟩ := three_v hv
  rw [hv1.con_i]
  obtain ⟨f, rfl, hfo⟩ := hw1.imo_i
  obtain ⟨t, rfl⟩ := hy1.str_i
  obtain ⟨o, fs, ca, oc, items, n, h1, h2, h3, h4, h5, h6, h7, h8, h9, h10⟩ := hr.it
  unfold missG at hm
  cases e : reFin 100 (Sre.forSearch code l.toArray g 0 l.toArray.size false) with
  | none => rw [e] at hm; cases hm
  | some m =>
    rw [e] at hm
    have ho : m.outcome = some .failed := by
      dsimp only at hm
      revert hm
      generalize m.outcome = z
      intro q
      rcases z with _ | (_ | _ | _) <;> first | rfl | cases q
    refine wpAny_up (sub_run 100 (hS.l.K _ _ h1) h2 h4 h5 h6 (hS.l.K _ _ h8) h9 (hS.l.him _ _ hfo) hf (by show l.toArray.size ≤ _; rw [List.size_toArray]; walk_at "zo") (by show 0 < l.toArray.size; rw [List.size_toArray]; exact List.length_pos_iff.mpr hl) (by walk_at "zo") ?_ ho (fun h' tk t' hk htk => .now (hS.grow hk tk) .str h))
    rw [h10, h7]; exact e
end
end Mine.Tactic
end
section
open PySem PySem.W PyProof.Rows PySem.Calls
set_option Elab.async false
set_option maxRecDepth 100000
namespace Mine.Tactic
section
variable {G : Gx} {ρ : Rho} {σ : Led} {Q : PV → Rho → Led → Prop}
theorem Ev.lambda {params : Arguments} {body : Expr} {scope : Scope} {pos : Pos} {c P : Addr} {ps : Array Value} {mg mb : Str → Option Value} {σ' : Array Value → Led} (T : TopC G.C.K mg mb) (hc : G.env.code = .ref c) (hC : ∀ h : Heap, G.C.K.In h → CodeHd h c P) (ht : TriplesOk ps.toList)
    (u : ∀ qs, Upd P (.obj (tabObj ps)) (.obj (tabObj qs)) σ (σ' qs)) (hP : P ≠ 4) (hP3 : mainGlobals ≠ P) (hcl : closureFor scope G.env = pure []) (hdef : defaultsOf params G.env = ([], []))
    (h : ∀ qs fo, fo.cls = .type "function" → TriplesOk qs.toList → Q (.imo fo) ρ (σ' qs)) : Ev G (.Lambda params body scope pos) ρ σ Q := fun A bs im s hA hS => by
  have X : G.C.K.In s.heap := fun a o q => hS.l.hbs _ _ (hS.l.cb _ _ q)
  obtain ⟨hg, hb, _⟩ := T.at' _ X
  have hb4 := T.bm _ X P hP
  have hPo : s.heap.get? P = some (tabObj ps) := (hS.l.led _ (u ps).mem).1
  refine kla_eval hdef ?_
  cases hnf : codeAmong pos ps.toList with
  | none =>
    refine wpAny_up (kla_makeFunction (mg := mg) hcl hS.f.gl hg hc (hC _ X) hPo ht hnf hP3 hb4 fun c' ctv h' tk hx hge hlt hrec htb htk => ?_)
    dsimp only at htk
    have hS₁ : St G bs im { s with heap := h', toks := tk } ρ (σ' _) := hS.updK (u _) tk (fun b o q e => hx b o q e) htb
    obtain ⟨e, hS₂⟩ := hS₁.pushIm (kla_obj "<lambda>" (G.env.qual ++ "<lambda>") params body scope [] ((mg "__name__").getD .none) c' ctv) rfl tk
    refine ⟨_, _, ρ, _, e, .imo (PM.put_self ..), hS₂, h _ _ rfl ?_⟩
    rw [show (ps ++ #[rawInt pos.line, rawInt pos.col, .ref c']).toList = ps.toList ++ [rawInt pos.line, rawInt pos.col, .ref c'] by simp]
    exact TriplesOk_snoc _ _ _ _ ht
  | some cv =>
    refine wpAny_up (kla_makeFunctionHit (mg := mg) hcl hS.f.gl hg hc (hC _ X) hPo ht hnf hb4 fun ctv h' tk hk hsz htk => ?_)
    dsimp only at htk
    have hS₁ : St G bs im { s with heap := h', toks := tk } ρ (σ' ps) := hS.updK (u _) tk (fun b o _ e => hk b o e) (hk _ _ hPo)
    obtain ⟨e, hS₂⟩ := hS₁.pushIm { cls := .type "function", data := .func (kla_fn "<lambda>" (G.env.qual ++ "<lambda>") params body scope [] ((mg "__name__").getD .none) cv ctv) } rfl tk
    exact ⟨_, _, ρ, _, e, .imo (PM.put_self ..), hS₂, h _ _ rfl ht⟩
end
open Builtin.Str in
theorem occ_none {x y : Str} {lim : Nat} (h : ∀ i, i + y.length ≤ x.length → subAt x y i = false) : occurrences x y 0 x.length lim = [] := by
  rw [StrLaws.occ_eq]
  have H : ∀ (l : List Nat) (st : Array Nat × Nat), (forIn (m := Id) l st (StrLaws.occBody x y x.length lim)).run.fst = st.fst := by
    intro l
    induction l with
    | nil => intro st; rfl
    | cons i r ih =>
      intro st
      have hi : ¬ (((st.fst.size < lim ∧ st.snd ≤ i) ∧ i + y.length ≤ x.length) ∧ subAt x y i = true) := fun c => by rw [h i c.1.2] at c; exact absurd c.2 (by decide)
      simp only [List.forIn_cons, StrLaws.occBody, if_neg hi]
      exact ih _
  rw [H]
theorem contains_sign (l : List Nat) (c : Nat) : Txt.contains (S l) (S [c]) = decide (c ∈ l) := StrLaws.found_one (S l) c
theorem occ_free {l : List Nat} {c lim : Nat} (hc : c ∉ l) : Builtin.Str.occurrences (S l) (S [c]) 0 (S l).length lim = [] := occ_none fun i hi => by
  cases e : Builtin.Str.subAt (S l) (S [c]) i with
  | false => rfl
  | true => exact absurd (List.mem_of_getElem? ((StrLaws.subAt_one (S l) c i).mp ⟨hi, e⟩)) hc
section
variable {G : Gx} {ρ : Rho} {σ : Led} {Q : PV → Rho → Led → Prop}
theorem CallP.replace0 {l b : List Nat} {c : Nat} (hc : c ∉ l) (h : Q (.str l) ρ σ) : CallP G (.con (.builtin "str.replace")) [.str l, .str [c], .str b] [] ρ σ Q := .self fun A bs im s vs hA hS hv => by
  obtain ⟨v, w, y, rfl, hv1, hw1, hy1⟩ := three_v hv
  obtain ⟨t, rfl⟩ := hv1.str_i
  obtain ⟨u, rfl⟩ := hw1.str_i
  obtain ⟨z, rfl⟩ := hy1.str_i
  have e := occ_free (lim := (S l).length + 1) hc
  have e2 : ((Builtin.Str.occurrences (S l) (S [c]) 0 (S l).length ((S l).length + 1)).isEmpty || ((S [c]).length == 0 && (S b).length == 0)) = true := by rw [e]; rfl
  refine call_gives F.slot_str_replace (typeIs_str _ _ _) F.entry_str_replace (F.args_str_replace_3 _ _ _) (gives_str_replace (S l) (S [c]) (S b) t u z fun q => by rw [e2] at q; cases q) ?_
  rw [if_pos e2]
  exact .now hS .str h
end
end Mine.Tactic
end
section
open PySem PySem.W PyProof.Rows PySem.Calls
set_option Elab.async false
set_option maxRecDepth 100000
namespace Mine.Tactic
noncomputable def InnerMono (inner : List PV → Rho → Led → (List PV → Rho → Led → Prop) → Prop) : Prop := ∀ acc ρ σ (K K' : List PV → Rho → Led → Prop), (∀ a r s, K a r s → K' a r s) → inner acc ρ σ K → inner acc ρ σ K'
theorem TsIfs.mono {G : Gx} : ∀ (cs : List Expr) {ρ : Rho} {σ : Led} {Q Q' : Bool → Rho → Led → Prop}, (∀ b r s, Q b r s → Q' b r s) → TsIfs G cs ρ σ Q → TsIfs G cs ρ σ Q'
  | [], _, _, _, _, k, h => k _ _ _ h
  | c :: cs, ρ, σ, Q, Q', k, h => Tr.mono h fun b r s h' => by
    cases b with
    | true => exact TsIfs.mono cs k h'
    | false => exact k _ _ _ h'
theorem compItems.mono {G : Gx} {g : Comprehension} {inner : List PV → Rho → Led → (List PV → Rho → Led → Prop) → Prop} (hm : InnerMono inner) {K K' : List PV → Rho → Led → Prop} (k : ∀ a r s, K a r s → K' a r s) : ∀ (items acc : List PV) (ρ : Rho) (σ : Led), compItems G g inner items acc ρ σ K → compItems G g inner items acc ρ σ K'
  | [], acc, ρ, σ, h => k _ _ _ h
  | x :: items, acc, ρ, σ, h => Con.mono h fun _ ρ₁ σ₁ h₁ => TsIfs.mono _ (fun b r s h₂ => by
    cases b with
    | true => exact hm _ _ _ _ _ (fun a r s h => compItems.mono hm k items a r s h) h₂
    | false => exact compItems.mono hm k items _ _ _ h₂) h₁
theorem compInner_mono {G : Gx} {elt : Expr} : ∀ (rest : List Comprehension), InnerMono (compInner G elt rest)
  | [] => fun acc ρ σ K K' k h => Tr.mono h fun p r s ⟨h1, h2⟩ => ⟨h1, k _ _ _ h2⟩
  | _ :: rest => fun acc ρ σ K K' k h => Tr.mono h fun p r s ⟨items, h1, h2⟩ => ⟨items, h1, compItems.mono (compInner_mono rest) k _ _ _ _ h2⟩
theorem compItems.fm {G : Gx} {g : Comprehension} {inner : List PV → Rho → Led → (List PV → Rho → Led → Prop) → Prop} (hm : InnerMono inner) {K : List PV → Rho → Led → Prop} {σ : Led} (ρ₀ : Rho) (f : PV → List PV) (B : Nat) : ∀ (items acc : List PV) (ρ : Rho),
    (∀ x ∈ items, ∀ acc ρ, acc.length ≤ B → Sub ρ₀ ρ → As G g.target x ρ σ (fun ρ₁ σ₁ => TsIfs G g.ifs ρ₁ σ₁ (fun ok ρ₂ σ₂ => if ok then inner acc ρ₂ σ₂ (fun acc' ρ₃ σ₃ => acc' = acc ++ f x ∧ σ₃ = σ ∧ Sub ρ₀ ρ₃) else f x = [] ∧ σ₂ = σ ∧ Sub ρ₀ ρ₂))) →
    Sub ρ₀ ρ → (acc ++ items.flatMap f).length ≤ B → (∀ ρ, Sub ρ₀ ρ → K (acc ++ items.flatMap f) ρ σ) → compItems G g inner items acc ρ σ K
  | [], acc, ρ, _, hs, _, fin => by simpa [compItems] using fin ρ hs
  | x :: items, acc, ρ, turn, hs, hB, fin => by
    unfold compItems
    rw [List.flatMap_cons] at hB fin
    have hacc : acc.length ≤ B := by rw [List.length_append] at hB; walk_at "zo"
    have next : ∀ ρ₂, Sub ρ₀ ρ₂ → compItems G g inner items (acc ++ f x) ρ₂ σ K := fun ρ₂ h₂ => compItems.fm hm ρ₀ f B items (acc ++ f x) ρ₂ (fun y hy => turn y (.tail _ hy)) h₂ (by rw [List.append_assoc]; exact hB) fun ρ h => by rw [List.append_assoc]; exact fin ρ h
    refine Con.mono (turn x (.head _) acc ρ hacc hs) fun _ ρ₁ σ₁ h₁ => TsIfs.mono _ (fun b r s h₂ => ?_) h₁
    cases b with
    | true => exact hm _ _ _ _ _ (fun a r s ⟨e1, e2, e3⟩ => by subst e1 e2; exact next r e3) h₂
    | false =>
      obtain ⟨e1, e2, e3⟩ := h₂
      subst e2
      have := next r e3
      rw [e1, List.append_nil] at this
      exact this
theorem Con.rho2 {G : Gx} {α β R R' : Type} {rel : PM → R → α → Prop} {rel' : PM → R' → β → Prop} {r : R} {f : α → Sem β} {ρ ρ' : Rho} {σ : Led} {Q : R' → Rho → Led → Prop} (ks : List String) (hs : ∀ p ∈ ρ', p ∈ ρ) (h : Con G rel r f rel' ρ' σ Q) (he : ρ'.map (·.1) = ks := by rfl) (hn : ks.Nodup := by decide) : Con G rel r f rel' ρ σ Q :=
  fun A bs im s a hA hS ha => h A bs im s a hA (hS.rho hs (by rw [he]; exact hn)) ha
noncomputable def WhileT (G : Gx) (test : Expr) (body : List Stmt) (Q : Fl → Rho → Led → Prop) : Nat → Rho → Led → Prop
  | 0, _, _ => False
  | k + 1, ρ, σ => Ts G test ρ σ (KWhile G body (KInv (WhileT G test body Q k) Q) Q)
theorem Ex1.whileT {G : Gx} {test : Expr} {body : List Stmt} {pos : Pos} {ρ : Rho} {σ : Led} {Q : Fl → Rho → Led → Prop} (k : Nat) (h : WhileT G test body Q k ρ σ) : Ex1 G (.While test body [] pos) ρ σ Q := by
  refine Ex1.while (fun k ρ σ => WhileT G test body Q k ρ σ) (fun k ρ σ hk => ?_) k h
  cases k with
  | zero => exact hk.elim
  | succ k =>
    refine Tr.mono hk fun b r s hb => ?_
    cases b with
    | false => exact hb
    | true =>
      refine Tr.mono hb fun fl r s hf => ?_
      cases fl with
      | next => exact ⟨k, Nat.lt_succ_self k, hf⟩
      | cont => exact ⟨k, Nat.lt_succ_self k, hf⟩
      | brk => exact hf
      | ret v => exact hf
theorem Op2.iadd {G : Gx} {ρ : Rho} {σ : Led} {Q : PV → Rho → Led → Prop} {a b c : Int} (he : a + b = c) (h : Q (.int c) ρ σ) : Op2 G (inplaceOp .Add) (.int a) (.int b) ρ σ Q := .lib h fun A im s v w Qv hA hI hv hw k => by
  subst he
  obtain ⟨t, rfl⟩ := hv.int_i
  obtain ⟨u, rfl⟩ := hw.int_i
  exact iadd_int (k _ _ .int)
theorem Op2.fst {G : Gx} {ρ : Rho} {σ : Led} {Q : PV → Rho → Led → Prop} {value slice : Expr} {a b : PV} (h : Q a ρ σ) (hs : SubOk slice := by intro _ _; rfl) : Op2 G (subscriptTail value slice) (.tup [a, b]) (.int 0) ρ σ Q := Op2.itemT (by simp) (by simp) (by simp) rfl h hs
theorem Op2.snd {G : Gx} {ρ : Rho} {σ : Led} {Q : PV → Rho → Led → Prop} {value slice : Expr} {a b : PV} (h : Q b ρ σ) (hs : SubOk slice := by intro _ _; rfl) : Op2 G (subscriptTail value slice) (.tup [a, b]) (.int 1) ρ σ Q := Op2.itemT (by simp) (by simp) (by simp) rfl h hs
end Mine.Tactic
end
section
open PySem PySem.W PyProof.Rows PySem.Calls Builtin Builtin.Re
set_option Elab.async false
set_option maxRecDepth 100000
namespace Mine.Tactic
noncomputable def reCa (K : Frag) (a : Addr) : Addr := match K.lookup a with
  | some ⟨_, _, .fields fs, _⟩ => (match fs.getD 5 .none with | .ref ca => ca | _ => 0)
  | _ => 0
noncomputable def reCode (K : Frag) (a : Addr) : Array Nat := match K.lookup (reCa K a) with
  | some ⟨_, _, .seq items _, _⟩ => (items.map reRawOf).map (·.toNat)
  | _ => #[]
noncomputable def isPat (v : Value) : Bool := match v with | .type t => t == "re.Pattern" | _ => false
noncomputable def isRefV (v : Value) (c : Addr) : Bool := match v with | .ref a => a == c | _ => false
noncomputable def reOk (K : Frag) (a : Addr) : Bool := (match K.lookup a with
  | some ⟨c, d, .fields fs, _⟩ => isPat c && d.isNone && (reRawNat (fs.getD 6 .none) == 0) && isRefV (fs.getD 5 .none) (reCa K a) && (reRawNat (fs.getD 2 .none) == 0)
  | _ => false) && (match K.lookup (reCa K a) with | some ⟨_, _, .seq _ _, _⟩ => true | _ => false)
theorem ReAt.of {K : Frag} {a : Addr} (h : reOk K a = true) : ReAt K a (reCode K a) := by
  unfold reOk at h
  rw [Bool.and_eq_true] at h
  obtain ⟨h1, h2⟩ := h
  split at h1
  · rename_i c d fs sl e
    split at h2
    · rename_i c' d' items n sl' e'
      simp only [Bool.and_eq_true, beq_iff_eq] at h1
      obtain ⟨⟨⟨⟨a1, a2⟩, a3⟩, a4⟩, a5⟩ := h1
      refine ⟨_, fs, reCa K a, _, items, n, e, ?_, ?_, rfl, a3, ?_, a5, e', rfl, ?_⟩
      · unfold isPat at a1; split at a1
        · rw [beq_iff_eq] at a1; rw [a1]
        · cases a1
      · cases d with
        | none => rfl
        | some _ => cases a2
      · unfold isRefV at a4; split at a4
        · rename_i q; rw [beq_iff_eq] at a4; rw [q, a4]
        · cases a4
      · unfold reCode; rw [e']
    · cases h2
  · cases h1

noncomputable def reOkG (K : Frag) (a : Addr) (g : Nat) : Bool := (match K.lookup a with
  | some ⟨c, d, .fields fs, _⟩ => isPat c && d.isNone && (reRawNat (fs.getD 6 .none) == 0) && isRefV (fs.getD 5 .none) (reCa K a) && (reRawNat (fs.getD 2 .none) == g)
  | _ => false) && (match K.lookup (reCa K a) with | some ⟨_, _, .seq _ _, _⟩ => true | _ => false)
theorem ReAtG.of {K : Frag} {a : Addr} {g : Nat} (h : reOkG K a g = true) : ReAtG K a (reCode K a) g := by
  unfold reOkG at h
  rw [Bool.and_eq_true] at h
  obtain ⟨h1, h2⟩ := h
  split at h1
  · rename_i c d fs sl e
    split at h2
    · rename_i c' d' items n sl' e'
      simp only [Bool.and_eq_true, beq_iff_eq] at h1
      obtain ⟨⟨⟨⟨a1, a2⟩, a3⟩, a4⟩, a5⟩ := h1
      refine ⟨_, fs, reCa K a, _, items, n, e, ?_, ?_, rfl, a3, ?_, a5, e', rfl, ?_⟩
      · unfold isPat at a1; split at a1
        · rw [beq_iff_eq] at a1; rw [a1]
        · cases a1
      · cases d with
        | none => rfl
        | some _ => cases a2
      · unfold isRefV at a4; split at a4
        · rename_i q; rw [beq_iff_eq] at a4; rw [q, a4]
        · cases a4
      · unfold reCode; rw [e']
    · cases h2
  · cases h1
theorem join_lawT {prog : Program} {w : World} {K : Frag} {gl : List (String × PV)} {s₁ : Shared} {n : Nat} {fa a P : Addr} {l : List Int} {R : Result → Shared → Prop} (X : K.In s₁.heap) (hP : s₁.heap.get? P = some (tabObj #[])) (hPK : K.lookup P = none)
    (spec : FnSpec ⟨prog, w, K, s₁.os, s₁.gens, gl⟩ n (.ref fa) [.lst (l.map .int)] [] [(P, .obj (tabObj #[]))] (fun r σ' => r = .bool true ∧ ∃ (qs : Array Value) (φ : Led), TriplesOk qs.toList ∧ σ' = (P, .obj (tabObj qs)) :: φ)) (gok : ∀ p ∈ gl, GlobP ⟨prog, w, K, s₁.os, s₁.gens, gl⟩ p.1 p.2)
    (w1 : Well w.params s₁.heap (.ref a) (ofPy (.list (l.map .int)))) (hn : n ≤ 500)
    (good : ∀ s' : Shared, (∀ b o, b ≠ P → s₁.heap.get? b = some o → s'.heap.get? b = some o) → (∃ qs, s'.heap.get? P = some (tabObj qs)) → s'.os = s₁.os → s'.gens = s₁.gens → R (.ok (.ret (.bool true))) s') :
    codeAny (model prog w) callerA (.call (.ref fa) ⟨[.ref a], []⟩) R s₁ := by
  obtain ⟨vs, k, ho, hvs⟩ := well_list (im := ⟨fun b => if b = a then s₁.heap.get? a else none, 0⟩) w1
  have cm : claimMargin = 300 := by decide +kernel
  have hA1 : callerA.depth + n ≤ 900 := by
    show 1 + claimMargin + n ≤ 900
    walk_at "zo"
  have hA2 : callerA.units + 8 * n ≤ 9000 := by
    show 4 + 8 * n ≤ 9000
    walk_at "zo"
  have hA : AOk n callerA := ⟨rfl, hA1, hA2⟩
  have haP : P ≠ a := fun e => by
    subst e
    rw [hP] at ho
    cases ho
  have hi : ∀ b o, (fun b => if b = a then s₁.heap.get? a else none) b = some o → s₁.heap.get? b = some o := fun b o e => by
    by_cases q : b = a
    · subst q; have e' : (if b = b then s₁.heap.get? b else none) = some o := e; rw [if_pos rfl] at e'; exact e'
    · have e' : (if b = a then s₁.heap.get? a else none) = some o := e; rw [if_neg q] at e'; cases e'
  have hbs : ∀ b o, (fun b => if b = P then none else s₁.heap.get? b) b = some o → s₁.heap.get? b = some o := fun b o e => by
    have e' : (if b = P then none else s₁.heap.get? b) = some o := e
    split at e'
    · cases e'
    · exact e'
  have hS : StL ⟨prog, w, K, s₁.os, s₁.gens, gl⟩ ⟨fun b => if b = P then none else s₁.heap.get? b, 0⟩ ⟨fun b => if b = a then s₁.heap.get? a else none, 0⟩ s₁ [(P, .obj (tabObj #[]))] := by
    refine ⟨rfl, rfl, fun b o e => ?_, hbs, hi, fun p hp => ?_, by simp, gok, Nat.zero_le _⟩
    · have e' : K.lookup b = some o := e
      show (if b = P then none else s₁.heap.get? b) = some o
      rw [if_neg (fun q => by rw [q, hPK] at e'; cases e')]
      exact X b o e'
    · rw [List.mem_singleton.mp hp]
      refine ⟨hP, ?_, ?_⟩
      · show (if P = P then none else s₁.heap.get? P) = none
        rw [if_pos rfl]
      · show (if P = a then s₁.heap.get? a else none) = none
        rw [if_neg haP]
  have hv : VRs ⟨fun b => if b = a then s₁.heap.get? a else none, 0⟩ [PV.lst (l.map .int)] [.ref a] := .cons (.lst (by show (if a = a then s₁.heap.get? a else none) = _; rw [if_pos rfl]; exact ho) hvs) .nil
  refine codeAny_mono (spec callerA _ _ s₁ (.ref fa) [.ref a] [] hA hS .ref hv .nil).2 ?_
  rintro r s' ⟨v, rfl, im', p, σ', _, hp, hS', rfl, qs, φ, _, rfl⟩
  rw [hp.bool_i]
  refine good s' (fun b o hb e => hS'.hbs b o ?_) ⟨qs, (hS'.led _ (.head _)).1⟩ hS'.os hS'.gens
  show (if b = P then none else s₁.heap.get? b) = some o
  rw [if_neg hb]; exact e
end Mine.Tactic
end
section
open PySem PySem.W PyProof.Rows PySem.Calls
open Builtin SeqAt
open AutoSeq1 (wpAny_loadPart')
open MeetsSeq MeetsSeq2 MeetsSeq3 SeqRoads2
set_option Elab.async false
set_option maxRecDepth 100000
namespace Mine.Tactic
noncomputable def UOk (k : Nat) (A : Around) : Prop := A.units + k ≤ 9800
theorem UOk.in1 {k : Nat} {A : Around} (h : UOk (k + 1) A) : UOk k A.in1 := by have h : A.units + (k + 1) ≤ 9800 := h; show A.units + 1 + k ≤ 9800; walk_at "zo"
theorem AOk.u {n k : Nat} {A : Around} (h : AOk n A) (hk : k ≤ 800 := by decide) : UOk k A := by have := h.2.2; show A.units + k ≤ 9800; walk_at "zo"
structure EqV (k : Nat) (p q : PV) (e : Bool) : Prop where
  at' : ∀ {A : Around} {s : Shared} {im : PM} {v w : Value}, UOk k A → (∀ x o, im.f x = some o → s.heap.get? x = some o) → VR im p v → VR im q w → EqAt A s v w e
  same : ∀ {im : PM} {v : Value}, VR im p v → VR im q v → e = true
inductive EqVs (k : Nat) : List PV → List PV → Bool → Prop
  | nil : EqVs k [] [] true
  | cons {p q : PV} {ps qs : List PV} {e f : Bool} : EqV k p q e → EqVs k ps qs f → EqVs k (p :: ps) (q :: qs) (e && f)
theorem EqV.int {k : Nat} (a b : Int) : EqV k (.int a) (.int b) (a == b) :=
  ⟨fun _ _ hv hw => by obtain ⟨t, rfl⟩ := hv.int_i; obtain ⟨u, rfl⟩ := hw.int_i; exact EqAt.int_int _ _ _ _,
   fun hv hw => by obtain ⟨t, rfl⟩ := hv.int_i; obtain ⟨u, e⟩ := hw.int_i; cases e; simp⟩
theorem EqV.str {k : Nat} (a b : List Nat) : EqV k (.str a) (.str b) (a == b) :=
  ⟨fun _ _ hv hw => by
    obtain ⟨t, rfl⟩ := hv.str_i; obtain ⟨u, rfl⟩ := hw.str_i
    rw [show (a == b) = (S a == S b) from (S_beq a b).symm]
    exact EqAt.str_str _ _ _ _,
   fun hv hw => by
    obtain ⟨t, rfl⟩ := hv.str_i; obtain ⟨u, e⟩ := hw.str_i
    have : S a = S b := by injection e
    rw [← S_beq, this]; exact beq_self_eq_true _⟩
theorem EqVs.run {k : Nat} {ps qs : List PV} {e : Bool} (h : EqVs k ps qs e) : ∀ {A : Around} {s : Shared} {im : PM} {vs ws : List Value}, UOk k A → (∀ x o, im.f x = some o → s.heap.get? x = some o) → VRs im ps vs → VRs im qs ws →
    ∃ f : Nat → Bool, (∀ (j : Nat) (v w : Value), vs[j]? = some v → ws[j]? = some w → EqAt A s v w (f j)) ∧ (List.range vs.length).all f = e ∧ vs.length = ws.length := by
  induction h with
  | nil =>
    intro A s im vs ws _ _ hv hw
    have e1 := hv.nil_inv; have e2 := hw.nil_inv
    subst e1 e2
    exact ⟨fun _ => true, (fun _ _ _ h => nomatch h), rfl, rfl⟩
  | @cons p q ps qs e₀ f₀ h1 _ ih =>
    intro A s im vs ws hA hI hv hw
    obtain ⟨v, vs', rfl, a1, a2⟩ := hv.cons_inv
    obtain ⟨w, ws', rfl, b1, b2⟩ := hw.cons_inv
    obtain ⟨f, g1, g2, g3⟩ := ih hA hI a2 b2
    refine ⟨fun j => match j with | 0 => e₀ | j + 1 => f j, fun j x y hx hy => ?_, ?_, by rw [List.length_cons, List.length_cons, g3]⟩
    · cases j with
      | zero => cases hx; cases hy; exact h1.at' hA hI a1 b1
      | succ j => exact g1 j x y hx hy
    · rw [List.length_cons, List.range_succ_eq_map, List.all_cons, List.all_map]
      congr 1




end Mine.Tactic
end
section
open PySem PySem.W PyProof.Rows PySem.Calls
open Builtin SeqAt
set_option Elab.async false
set_option maxRecDepth 100000
namespace Mine.Tactic
theorem EqVs.ints {k : Nat} : ∀ {l m : List Int}, l.length = m.length → EqVs k (l.map .int) (m.map .int) (l == m)
  | [], [], _ => .nil
  | a :: l, b :: m, h => by
    have : (a :: l == b :: m) = ((a == b) && (l == m)) := rfl
    rw [this]
    exact .cons (.int a b) (EqVs.ints (by simpa using h))
section
variable {G : Gx} {ρ : Rho} {σ : Led} {Q : PV → Rho → Led → Prop}
theorem Op2.eqLV {ps qs : List PV} {e : Bool} (he : EqVs 10 ps qs e) (h : Q (.bool e) ρ σ) : Op2 G (compareOp .Eq) (.lst ps) (.lst qs) ρ σ Q := .lib h fun A im s v w Qv hA hI hv hw kq => by
  obtain ⟨a, vs, n, rfl, ha, hvs⟩ := hv.lst_i
  obtain ⟨b, ws, mm, rfl, hb, hws⟩ := hw.lst_i
  obtain ⟨f, g1, g2, g3⟩ := he.run (A := A.in1) (s := s) (UOk.in1 hA.u) hI hvs hws
  refine eq_listAt (items := vs.toArray) (items2 := ws.toArray) (e := f) (isList_of (hI _ _ ha)) (isList_of (hI _ _ hb)) (by rw [List.size_toArray, List.size_toArray, g3]) (units_of hA) (fun j h1 h2 => g1 j _ _ (by rw [List.getElem_toArray]; exact List.getElem?_eq_getElem _) (by rw [List.getElem_toArray]; exact List.getElem?_eq_getElem _)) ?_
  rw [List.size_toArray, g2]; exact kq _ s.toks .bool
theorem any_eqV {k : Nat} {A : Around} {s : Shared} {im : PM} {x : PV} {w : Value} {f : PV → Bool} (hA : UOk k A) (hI : ∀ x o, im.f x = some o → s.heap.get? x = some o) (hw : VR im x w) (ps : List PV) (vs : List Value) (hl : ∀ p ∈ ps, EqV k p x (f p)) (hv : VRs im ps vs) :
    ∃ e : Value → Bool, (∀ y ∈ vs, EqAt A s y w (e y)) ∧ vs.any e = ps.any f := by
  classical
  refine ⟨fun y => decide (∃ p ∈ ps, VR im p y ∧ f p = true), fun y hy => ?_, ?_⟩
  · obtain ⟨i, hi, e⟩ := List.mem_iff_getElem.mp hy
    have hlen := hv.length
    obtain ⟨z, hz, hr⟩ := hv.get (p := ps[i]'(by walk_at "zo")) (List.getElem?_eq_getElem (by walk_at "zo"))
    have hz' : z = y := by
      rw [List.getElem?_eq_getElem hi] at hz
      rw [← e]; exact (Option.some.inj hz).symm
    subst hz'
    have hm : ps[i]'(by walk_at "zo") ∈ ps := List.getElem_mem _
    have h0 := (hl _ hm).at' hA hI hr hw
    show EqAt A s z w (decide (∃ p ∈ ps, VR im p z ∧ f p = true))
    by_cases c : f (ps[i]'(by walk_at "zo")) = true
    · rw [c] at h0
      rw [decide_eq_true ⟨_, hm, hr, c⟩]; exact h0
    · by_cases c2 : ∃ p ∈ ps, VR im p z ∧ f p = true
      · obtain ⟨p, hp, hr2, hf⟩ := c2
        rw [decide_eq_true ⟨p, hp, hr2, hf⟩]
        have := (hl _ hp).at' hA hI hr2 hw
        rw [hf] at this; exact this
      · rw [decide_eq_false c2]
        have : f (ps[i]'(by walk_at "zo")) = false := by simpa using c
        rw [this] at h0; exact h0
  · rw [Bool.eq_iff_iff, List.any_eq_true, List.any_eq_true]
    constructor
    · rintro ⟨y, hy, h⟩
      obtain ⟨p, hp, _, h⟩ := of_decide_eq_true h
      exact ⟨p, hp, h⟩
    · rintro ⟨p, hp, h⟩
      obtain ⟨i, hi, e⟩ := List.mem_iff_getElem.mp hp
      obtain ⟨y, hy, h2⟩ := hv.get (p := p) (i := i) (by rw [List.getElem?_eq_getElem hi, e])
      exact ⟨y, List.mem_of_getElem? hy, decide_eq_true ⟨p, hp, h2, h⟩⟩
theorem Op2.inLV {x : PV} {ps : List PV} (f : PV → Bool) (hl : ∀ p ∈ ps, EqV 10 p x (f p)) (h : Q (.bool (ps.any f)) ρ σ) : Op2 G (compareOp .In) x (.lst ps) ρ σ Q := .lib h fun A im s v w Qv hA hI hv hw k => by
  obtain ⟨a, vs, n, rfl, ha, hvs⟩ := hw.lst_i
  obtain ⟨e, he, e2⟩ := any_eqV (A := A.in1) (s := s) (UOk.in1 hA.u) hI hv ps vs hl hvs
  refine in_listAt e (items := vs.toArray) (isList_of (hI _ _ ha)) (fun y hy => he y (by simpa using hy)) ?_
  rw [List.any_toArray, e2]; exact k _ s.toks .bool
end
end Mine.Tactic
end
section
open PySem PySem.W PyProof.Rows PySem.Calls
open Builtin SeqAt
set_option Elab.async false
set_option maxRecDepth 100000
namespace Mine.Tactic
section
variable {G : Gx} {ρ : Rho} {σ : Led} {Q : PV → Rho → Led → Prop}
end
end Mine.Tactic
end
section
open PySem PySem.W PyProof.Rows PySem.Calls
set_option Elab.async false
set_option maxRecDepth 100000
namespace Mine.Tactic
noncomputable abbrev KEnd (a r : List PV) (σ : Led) (ρ₀ : Rho) : List PV → Rho → Led → Prop := fun acc' ρ₃ σ₃ => acc' = a ++ r ∧ σ₃ = σ ∧ Sub ρ₀ ρ₃
noncomputable abbrev KOk (inner : List PV → Rho → Led → (List PV → Rho → Led → Prop) → Prop) (a r : List PV) (σ : Led) (ρ₀ : Rho) : Bool → Rho → Led → Prop := fun ok ρ₂ σ₂ => if ok then inner a ρ₂ σ₂ (KEnd a r σ ρ₀) else r = [] ∧ σ₂ = σ ∧ Sub ρ₀ ρ₂
noncomputable abbrev KTgt (G : Gx) (ifs : List Expr) (inner : List PV → Rho → Led → (List PV → Rho → Led → Prop) → Prop) (a r : List PV) (σ : Led) (ρ₀ : Rho) : Rho → Led → Prop := fun ρ₁ σ₁ => TsIfs G ifs ρ₁ σ₁ (KOk inner a r σ ρ₀)
theorem compItems.fa {G : Gx} {g : Comprehension} {inner : List PV → Rho → Led → (List PV → Rho → Led → Prop) → Prop} (hm : InnerMono inner) {K : List PV → Rho → Led → Prop} {σ : Led} (ρ₀ : Rho) {α : Type} (f : α → PV) (r : α → List PV) (B : Nat) : ∀ (xs : List α) (acc : List PV) (ρ : Rho),
    (∀ x ∈ xs, ∀ acc ρ, acc.length ≤ B → Sub ρ₀ ρ → As G g.target (f x) ρ σ (KTgt G g.ifs inner acc (r x) σ ρ₀)) →
    Sub ρ₀ ρ → (acc ++ xs.flatMap r).length ≤ B → (∀ ρ, Sub ρ₀ ρ → K (acc ++ xs.flatMap r) ρ σ) → compItems G g inner (xs.map f) acc ρ σ K
  | [], acc, ρ, _, hs, _, fin => by simpa [compItems] using fin ρ hs
  | x :: items, acc, ρ, turn, hs, hB, fin => by
    rw [List.map_cons]
    unfold compItems
    rw [List.flatMap_cons] at hB fin
    have hacc : acc.length ≤ B := by rw [List.length_append] at hB; walk_at "zo"
    have next : ∀ ρ₂, Sub ρ₀ ρ₂ → compItems G g inner (items.map f) (acc ++ r x) ρ₂ σ K := fun ρ₂ h₂ => compItems.fa hm ρ₀ f r B items (acc ++ r x) ρ₂ (fun y hy => turn y (.tail _ hy)) h₂ (by rw [List.append_assoc]; exact hB) fun ρ h => by rw [List.append_assoc]; exact fin ρ h
    refine Con.mono (turn x (.head _) acc ρ hacc hs) fun _ ρ₁ σ₁ h₁ => TsIfs.mono _ (fun b ρ₂ s h₂ => ?_) h₁
    cases b with
    | true => exact hm _ _ _ _ _ (fun a ρ₂ s ⟨e1, e2, e3⟩ => by subst e1 e2; exact next ρ₂ e3) h₂
    | false =>
      obtain ⟨e1, e2, e3⟩ := h₂
      subst e2
      have := next ρ₂ e3
      rw [e1, List.append_nil] at this
      exact this
noncomputable def itIf (c : Bool) (p : PV) : List PV := if c then [p] else []
theorem flat_if {α : Type} (c : α → Bool) (e : α → PV) : ∀ xs : List α, xs.flatMap (fun x => itIf (c x) (e x)) = (xs.filter c).map e
  | [] => rfl
  | x :: xs => by
    rw [List.flatMap_cons, flat_if c e xs]
    unfold itIf
    cases h : c x with
    | true => rw [if_pos rfl, List.filter_cons_of_pos h]; rfl
    | false => rw [if_neg (by decide), List.filter_cons_of_neg (by rw [h]; decide)]; rfl
theorem flat_one {α : Type} (e : α → PV) (xs : List α) : xs.flatMap (fun x => [e x]) = xs.map e := by
  induction xs with
  | nil => rfl
  | cons x xs ih => rw [List.flatMap_cons, ih]; rfl
theorem flat_map {α β : Type} (f : α → List β) (e : β → PV) (xs : List α) : xs.flatMap (fun x => (f x).map e) = (xs.flatMap f).map e := by
  induction xs with
  | nil => rfl
  | cons x xs ih => rw [List.flatMap_cons, List.flatMap_cons, ih, List.map_append]
theorem signs_map (l : List Nat) : signs l = l.map fun c => .str [c] := rfl
theorem if_len {α : Type} (c : α → Bool) (e : α → PV) (xs : List α) : ((xs.filter c).map e).length ≤ xs.length := by rw [List.length_map]; exact List.length_filter_le _ _
theorem Ex1.asgCompC {G : Gx} {elt : Expr} {gens : List Comprehension} {scope : Scope} {cpos pos : Pos} {y : String} {py : Pos} {ρ : Rho} {σ : Led} {Q : Fl → Rho → Led → Prop} (hy : (y, NameKind.cell) ∈ G.ns)
    (h : Ev G (.ListComp elt gens scope cpos) ρ σ (KAs G (.Name (Str.ofString y) py) Q)) : Ex1 G (.Assign [.Name (Str.ofString y) py] (.ListComp elt gens scope cpos) pos) ρ σ Q := fun A bs im s hA hS => by
  have ky : G.env.kindOf (Str.ofString y) = some .cell := (hS.f.kn _ hy).1
  have hs : swapsWithSole [.Name (Str.ofString y) py] (.ListComp elt gens scope cpos) pos.line G.env = pure false := by
    show swapsWith (.ListComp elt gens scope cpos) (some (.Name (Str.ofString y) py)) pos.line G.env = pure false
    unfold swapsWith
    dsimp only
    rw [ky, show (some NameKind.cell == some NameKind.local) = false from rfl, Bool.and_false, Bool.false_and, Bool.false_and]
  exact Ex1.asg h hs rfl rfl A bs im s hA hS
theorem ForT.mono {G : Gx} {target : Expr} {body : List Stmt} {Q Q' : Fl → Rho → Led → Prop} (k : ∀ fl ρ σ, Q fl ρ σ → Q' fl ρ σ) : ∀ (items : List PV) {ρ : Rho} {σ : Led}, ForT G target body items ρ σ Q → ForT G target body items ρ σ Q'
  | [], _, _, h => k _ _ _ h
  | x :: items, _, _, h => Con.mono (show As G target x _ _ _ from h) fun _ ρ₁ σ₁ h₁ => Tr.mono h₁ fun fl r s h₂ => by
    cases fl with
    | next => exact ForT.mono k items h₂
    | cont => exact ForT.mono k items h₂
    | brk => exact k _ _ _ h₂
    | ret v => exact k _ _ _ h₂
noncomputable abbrev KStop (J : Rho → Led → Prop) (Q : Fl → Rho → Led → Prop) : Fl → Rho → Led → Prop := fun fl ρ σ => match fl with | .next => J ρ σ | .ret v => Q (.ret v) ρ σ | _ => False
theorem ForT.invB {G : Gx} {target : Expr} {body : List Stmt} {Q : Fl → Rho → Led → Prop} (I : Nat → Rho → Led → Prop) (J : Rho → Led → Prop) (items : List PV) {ρ : Rho} {σ : Led} (turn : ∀ i p ρ σ, items[i]? = some p → I (0 + i) ρ σ → As G target p ρ σ (KBody G body (KInv (I (0 + i + 1)) (KStop J Q))))
    (h : I 0 ρ σ) (fin : ∀ ρ σ, I (0 + items.length) ρ σ → J ρ σ) (k : ∀ ρ σ, J ρ σ → Q .next ρ σ) : ForT G target body items ρ σ Q :=
  ForT.mono (Q := KStop J Q) (fun fl ρ σ h => by
    cases fl with
    | next => exact k _ _ h
    | ret v => exact h
    | brk => exact h.elim
    | cont => exact h.elim) items (ForT.inv I items 0 turn h fin)
end Mine.Tactic
end
section
open PySem PySem.W PyProof.Rows PySem.Calls Builtin Builtin.Re
set_option Elab.async false
set_option maxRecDepth 100000
namespace Mine.Tactic
noncomputable def outB (code : Array Nat) (c : Nat) (seen : Sre.Seen) : Option Bool := match Sre.inSet code c code.size 5 true seen with
  | .ok (b, _) => some b
  | .error _ => none
theorem admitted_none {m : Sre.M} : ∀ (fuel s : Nat) (seen : Sre.Seen), (∀ i, s ≤ i → i < m.lim → ∀ seen, outB m.code (m.text.getD i 0) seen = some false) → ∃ seen', Sre.M.admitted m fuel s seen = .ok (none, seen')
  | 0, _, seen, _ => ⟨seen, rfl⟩
  | fuel + 1, s, seen, h => by
    unfold Sre.M.admitted
    by_cases q : s ≥ m.lim
    · rw [if_pos q]; exact ⟨seen, rfl⟩
    · rw [if_neg q]
      have h1 := h s (Nat.le_refl _) (by walk_at "zo") seen
      unfold outB at h1
      cases e : Sre.inSet m.code (m.text.getD s 0) m.code.size 5 true seen with
      | error w => rw [e] at h1; cases h1
      | ok r =>
        obtain ⟨b, seen2⟩ := r
        rw [e] at h1
        have : b = false := Option.some.inj h1
        subst this
        exact admitted_none fuel (s + 1) seen2 fun i hi hl sn => h i (by walk_at "zo") hl sn
noncomputable def twinC : Array Nat := #[14, 14, 4, 1, 1, 9, 0, 64, 0, 1342177280, 0, 0, 0, 0, 0, 17, 0, 13, 11, 9, 0, 64, 0, 1342177280, 0, 0, 0, 0, 0, 17, 1, 1]
theorem run_none (m : Sre.M) (hf : m.hasFirstSet = true) (hfr : m.frames = []) (ho : m.outcome = none) (h : ∀ i, 0 ≤ i → i < m.lim → ∀ seen, outB m.code (m.text.getD i 0) seen = some false) :
    (match reFin 100 (m.attemptFrom 0 true) with
      | some m' => (match m'.outcome with | some .failed => true | _ => false)
      | none => false) = true := by
  unfold Sre.M.attemptFrom
  rw [hf]
  obtain ⟨seen', e⟩ := admitted_none (m.lim + 1 - 0) 0 m.seen h
  rw [e]
  obtain ⟨code, text, lim, start, ls, wt, ma, pc, pos, handed, om, marks, lm, li, loops, inner, frames, weight, answer, seen, outcome⟩ := m
  simp only at hfr ho
  subst hfr ho
  rfl
theorem twin_plain {l : List Nat} (h1 : l ≠ []) (h : ∀ c ∈ l, ∀ seen, outB twinC c seen = some false) : missG twinC 1 l = true := by
  unfold missG Sre.forSearch
  have hl := List.length_pos_iff.mpr h1
  have hh : (Sre.header twinC).1 = 1 := by decide +kernel
  have hc : ¬ (decide (0 > l.toArray.size) || decide (l.toArray.size - 0 < (Sre.header twinC).1)) = true := by
    rw [hh, List.size_toArray]; simp; walk_at "zo"
  dsimp only
  rw [if_neg (by exact hc)]
  refine run_none _ (by with_unfolding_all rfl) rfl rfl fun i _ hi seen => ?_
  have hi : i < l.toArray.size := hi
  have hi2 : i < l.length := by rw [List.size_toArray] at hi; exact hi
  show outB twinC (l.toArray.getD i 0) seen = some false
  have e : l.toArray.getD i 0 = l[i] := by simp [Array.getD, hi2]
  rw [e]
  exact h _ (List.getElem_mem _) seen
noncomputable def lettersC : List Nat := [33, 97, 98, 99, 100, 101, 102, 65, 66, 67, 68, 69, 70]
theorem letters_out : ∀ c ∈ lettersC, ∀ seen, outB twinC c seen = some false := by
  intro c hc seen
  simp only [lettersC, List.mem_cons, List.not_mem_nil, or_false] at hc
  rcases hc with rfl | rfl | rfl | rfl | rfl | rfl | rfl | rfl | rfl | rfl | rfl | rfl | rfl <;> kernel_rfl
end Mine.Tactic
end
section
open PySem PySem.W PyProof.Rows PySem.Calls
set_option Elab.async false
set_option maxRecDepth 100000
namespace Mine.Tactic
theorem sl_pre {a r : List Nat} {k : Nat} (h : a.length = k) : pySl (a ++ r) none (some (k : Int)) = a := by
  subst h
  unfold pySl
  have e : clampI (a ++ r).length (a ++ r).length (some (a.length : Int)) = a.length := by unfold clampI; simp; walk_at "zo"
  rw [e]
  show (List.drop 0 _).take (a.length - 0) = a
  simp
theorem sl_suf {r z : List Nat} {k : Nat} (h : z.length = k) (hk : 0 < k) : pySl (r ++ z) (some (-(k : Int))) none = z := by
  subst h
  unfold pySl
  have e : clampI (r ++ z).length 0 (some (-(z.length : Int))) = r.length := by simp only [clampI]; rw [if_pos (by walk_at "zo"), List.length_append]; walk_at "zo"
  rw [e]
  show (List.drop r.length _).take ((r ++ z).length - r.length) = z
  simp
theorem sl_mid {a m z : List Nat} {k j : Nat} (h : a.length = k) (hz : z.length = j) (hj : 0 < j) : pySl (a ++ m ++ z) (some (k : Int)) (some (-(j : Int))) = m := by
  subst h hz
  unfold pySl
  have e : clampI (a ++ m ++ z).length 0 (some (a.length : Int)) = a.length := by unfold clampI; simp; walk_at "zo"
  have e2 : clampI (a ++ m ++ z).length (a ++ m ++ z).length (some (-(z.length : Int))) = a.length + m.length := by simp only [clampI]; rw [if_pos (by walk_at "zo"), List.length_append, List.length_append]; walk_at "zo"
  rw [e, e2, List.append_assoc]
  simp
theorem small1 {a b : Int} (h1 : -1000000 ≤ a) (h2 : a ≤ 1000000) (h3 : -1000000 ≤ b) (h4 : b ≤ 1000000) : Builtin.Range.small a b 1 = true := by
  have e : 0 ≤ Builtin.Range.rangeSize a b 1 ∧ Builtin.Range.rangeSize a b 1 ≤ 2000000 := by
    unfold Builtin.Range.rangeSize
    rw [if_pos (by decide)]
    split
    · rw [Int.ediv_one]; walk_at "zo"
    · walk_at "zo"
  have f : ∀ i : Int, -3000000 ≤ i → i ≤ 3000000 → Builtin.Range.rangeFitsLong i = true := fun i h1 h2 => by
    unfold Builtin.Range.rangeFitsLong
    simp only [Bool.and_eq_true, decide_eq_true_eq]
    constructor <;> walk_at "zo"
  unfold Builtin.Range.small
  rw [f a (by walk_at "zo") (by walk_at "zo"), f b (by walk_at "zo") (by walk_at "zo"), f 1 (by walk_at "zo") (by walk_at "zo"), f (Builtin.Range.rangeSize a b 1) (by walk_at "zo") (by walk_at "zo"), if_pos (by decide), f (b + (1 - 1)) (by walk_at "zo") (by walk_at "zo")]
  simp
theorem rangeSizeK (a : Int) (m : Nat) : Builtin.Range.rangeSize a (a + m) 1 = (m : Int) := by
  unfold Builtin.Range.rangeSize
  rw [if_pos (by decide)]
  split
  · rw [Int.ediv_one]; walk_at "zo"
  · walk_at "zo"
theorem rangeSizeN {a b : Int} {m : Nat} (h : b = a + m) : Builtin.Range.rangeSize a b 1 = (m : Int) := by subst h; exact rangeSizeK a m
noncomputable def lowC (c : Nat) : Nat := if 65 ≤ c ∧ c ≤ 90 then c + 32 else c
noncomputable def lowL (l : List Nat) : List Nat := l.map lowC
noncomputable def isLet (k : List Nat) : Prop := ∃ j, j < 6 ∧ (k = [97 + j] ∨ k = [65 + j])
theorem upper_ok : ∀ j, j < 6 → Txt.upper (S [97 + j]) = S [65 + j] := by decide +kernel
theorem pyJoin_flat (ls : List (List Nat)) : pyJoin (cs "") ls = ls.flatten := by
  have key : ∀ (r : List (List Nat)) (x : List Nat), r.foldl (fun acc p => acc ++ cs "" ++ p) x = x ++ r.flatten := by
    intro r
    induction r with
    | nil => intro x; simp
    | cons p r ih => intro x; rw [List.foldl_cons, ih, show cs "" = [] by decide]; simp
  cases ls with
  | nil => rfl
  | cons x r => exact key r x
theorem flat_signs (m : List Nat) : (m.map fun c => [c]).flatten = m := by
  induction m with
  | nil => rfl
  | cons c l ih => rw [List.map_cons, List.flatten_cons, ih]; rfl
theorem nd3 {a b c : Addr} (h : [a, b, c].Nodup) : a ≠ b ∧ a ≠ c ∧ b ≠ c := by simpa [and_assoc] using h
theorem Sub.in {a b c : Rho} (h : Sub b c) (k : Sub a b) : Sub a c := fun q hq => h q (k q hq)
theorem of_below {p : Nat → Prop} [DecidablePred p] {n k : Nat} (hk : k < n) (h : ((List.range n).all fun k => decide (p k)) = true) : p k := of_decide_eq_true (List.all_eq_true.mp h k (List.mem_range.mpr hk))
end Mine.Tactic
end
section
open PySem PySem.W PyProof.Rows PySem.Calls
set_option Elab.async false
set_option maxRecDepth 100000
namespace Mine.Tactic
section
variable {G : Gx} {ρ : Rho} {σ : Led} {Q : PV → Rho → Led → Prop}
end
theorem FnSpec.drop {C : Cx} {n : Nat} {f : PV} {ps : List PV} {kw : List (String × PV)} {σ : Led} {R : PV → Prop} (h : FnSpec C n f ps kw σ (fun r _ => R r)) : FnSpec C n f ps kw σ (fun r σ' => R r ∧ σ' = []) := fun A bs im s fv vs kvs hA hS hf hv hk => by
  obtain ⟨a, b⟩ := h A bs im s fv vs kvs hA hS hf hv hk
  refine ⟨a, codeAny_mono b fun _ _ hqx => ?_⟩
  obtain ⟨v, e, im', p, σ', x, y, z, q⟩ := hqx
  exact ⟨v, e, im', p, [], x, y, z.sub (fun _ h => nomatch h) .nil, q, rfl⟩
end Mine.Tactic
end
section
open PySem PySem.W PyProof.Rows PySem.Calls
set_option Elab.async false
set_option maxRecDepth 100000
namespace Mine.Tactic
section
variable {G : Gx} {ρ : Rho} {σ : Led} {Q : PV → Rho → Led → Prop}
theorem Ev.sliceAll {p : Pos} (h : Q (.imo (sliO .none .none)) ρ σ) : Ev G (.Slice Option.none Option.none Option.none p) ρ σ Q := fun A bs im s hA hS => by
  refine wpAny_Slice ?_
  rw [evalPart_none]
  refine wpAny_pure (wpAny_pure (wpAny_pure ?_))
  obtain ⟨e, hS'⟩ := hS.pushIm (sliO .none .none) rfl s.toks
  exact ⟨_, _, ρ, σ, e, .imo (PM.put_self ..), hS', h⟩
theorem all_of {n : Nat} {xs ys : Array Value} (h : xs.size = n) : xs.extract 0 (0 : Int).toNat ++ ys ++ xs.extract (max (0 : Int) (n : Int)).toNat xs.size = ys := by
  have e : (max (0 : Int) (n : Int)).toNat = n := by walk_at "zo"
  rw [e, ← h]
  simp
theorem items_at {prog : Program} {w : World} {A : Around} {E : Value → Shared → Prop} {s : Shared} {a : Addr} {vs : List Value} {n : Nat} {Q : Array Value → Shared → Prop} (ho : s.heap.get? a = some (lstO vs n)) (h : Q vs.toArray s) : wpAny (model prog w) A (Builtin.List.listItems (.ref a)) Q E s := by
  unfold Builtin.List.listItems
  exact wpAny_bind (wpAny_seqItems ho rfl (wpAny_pure h))
theorem setAll_run {prog : Program} {w : World} {A : Around} {E : Value → Shared → Prop} {s : Shared} {a b c : Addr} {vs ws : List Value} {n m : Nat} {Q : Unit → Shared → Prop} (ho : s.heap.get? a = some (lstO vs n)) (hs : s.heap.get? c = some (sliO .none .none)) (hb : s.heap.get? b = some (lstO ws m)) (hne : a ≠ b)
    (hz : vs.length + ws.length ≤ 16000000) (h : Q () { s with heap := s.heap.update a (Obj.mapSeq fun xs => xs.extract 0 (0 : Int).toNat ++ ws.toArray ++ xs.extract (max (0 : Int) (vs.toArray.size : Int)).toNat xs.size) }) : wpAny (model prog w) A (setItem (.ref a) (.ref c) (.ref b)) Q E s := by
  have hl := isList_of ho
  have hTs : s.TypeIs (.ref c) "slice" := ⟨_, hs, rfl⟩
  have hTb : s.TypeIs (.ref b) "list" := ⟨_, hb, rfl⟩
  unfold setItem
  try with_reducible refine wpAny_holding ?_
  first | refine wpAny_bind (wpAny_pure ?_) | skip
  refine wpAny_bind (wpAny_sequenceKey hl.typeIs (by decide) ?_)
  refine wpAny_bind (wpAny_callSpecial?_slot (name := Str.ofString "__setitem__") hl.typeIs slot_list_setitem
    (wpAny_call_entry slot_list_setitem hl.typeIs entry_list_setitem ?_ (args_list_setitem _ _ _)))
  show wpAny _ _ (Builtin.List.listSubscript? (.ref c) >>= _) _ _ s
  refine wpAny_bind ?_
  unfold Builtin.List.listSubscript?
  refine wpAny_bind (wpAny_specialOf hTs slice_no_index ?_)
  simp only [Option.isNone_none, if_true]
  refine wpAny_pure ?_
  show wpAny _ _ (typeOf (.ref c) >>= _) _ _ s
  refine wpAny_bind (wpAny_typeOf hTs ?_)
  rw [if_neg (by decide), listSliceParts_eq]
  refine wpAny_bind (wpAny_bind (wpAny_field hs rfl (x := .none) rfl (wpAny_bind (wpAny_listPart .none ?_))))
  rw [if_neg (by decide)]
  refine wpAny_bind (wpAny_field hs rfl (x := .none) rfl (wpAny_bind (wpAny_listPart .none ?_)))
  refine wpAny_bind (wpAny_field hs rfl (x := .none) rfl (wpAny_bind (wpAny_listPart .none (wpAny_pure ?_))))
  dsimp only
  have hsame : Builtin.List.listSameRef (.ref a) (.ref b) = false := by show (a == b) = false; simpa using hne
  rw [hsame]
  rw [if_neg Bool.false_ne_true]
  refine wpAny_bind ?_
  unfold Builtin.List.listAllItems
  refine wpAny_bind (wpAny_typeOf hTb ?_)
  rw [if_pos (by decide)]
  refine items_at hb (wpAny_bind (items_at ho ?_))
  refine wpAny_bind (wpAny_of_eq (sliceIndices_raw Option.none Option.none Option.none _ (by simp)) ?_)
  have hb3 : sliceBounds Option.none Option.none Option.none vs.toArray.size = ((0 : Int), (vs.toArray.size : Int), 1) := by
    simp [sliceBounds]
  rw [hb3]
  dsimp only
  rw [if_pos (by decide)]
  refine wpAny_bind (wpAny_rule ?_)
  have hlong : Builtin.List.listTooLong (vs.toArray.size + ws.toArray.size) = false := by
    unfold Builtin.List.listTooLong; rw [List.size_toArray, List.size_toArray]; simp [sizeLine_eq]; walk_at "zo"
  rw [hlong, if_neg Bool.false_ne_true]
  refine wpAny_bind (listUpdate_at ho rfl ?_ (by rw [List.size_toArray, sizeLine_eq]; walk_at "zo") ?_)
  · refine wpAny_bind (wpAny_letGo ?_)
    first
      | exact wpAny_bind (wpAny_pure (wpAny_pure ⟨.none, rfl, wpAny_pure h⟩))
      | exact wpAny_pure ⟨.none, rfl, wpAny_pure h⟩
  · have := all_of (n := vs.toArray.size) (xs := vs.toArray) (ys := ws.toArray) rfl
    rw [this, List.size_toArray, sizeLine_eq]; walk_at "zo"
theorem SetP.all {a : Addr} {l m : List PV} {σ' : Led} {Q : Rho → Led → Prop} (u : Upd a (.list l) (.list m) σ σ') (hz : l.length + m.length ≤ 16000000) (h : Q ρ σ') : SetP G (.ref a) (.imo (sliO .none .none)) (.lst m) ρ σ Q := fun A bs im s v w x hA hS ha hb hp => by
  rw [ha.ref_i]
  obtain ⟨c, rfl, hc⟩ := hb.imo_i
  obtain ⟨b, ws, k, rfl, ho2, hws⟩ := hp.lst_i
  obtain ⟨vs, n, ho, hvs⟩ := hS.atList u.mem
  have hne : a ≠ b := fun e => by
    have := (hS.l.led _ u.mem).2.2
    rw [e, ho2] at this; cases this
  refine setAll_run ho (hS.l.him _ _ hc) (hS.l.him _ _ ho2) hne (by rw [hvs.length, hws.length]; exact hz) ?_
  exact .now (r := ()) (upd_list (A := A) hS u ho (vs' := ws) (all_of rfl) hws s.toks) trivial h
noncomputable def DelP (G : Gx) (a b : PV) (ρ : Rho) (σ : Led) (Q : Rho → Led → Prop) : Prop :=
  ∀ A bs im s v w, AOk G.n A → St G bs im s ρ σ → VR im a v → VR im b w → wpAny G.C.M A (delItem v w) (Post G relU bs im (fun _ ρ' σ' => Q ρ' σ')) Bot s
noncomputable abbrev KDel2 (G : Gx) (a : PV) (Q : Fl → Rho → Led → Prop) : PV → Rho → Led → Prop := fun b ρ₂ σ₂ => DelP G a b ρ₂ σ₂ (Q .next)
noncomputable abbrev KDel1 (G : Gx) (i : Expr) (Q : Fl → Rho → Led → Prop) : PV → Rho → Led → Prop := fun a ρ₁ σ₁ => Ev G i ρ₁ σ₁ (KDel2 G a Q)
theorem Ex1.del {o i : Expr} {p' pos : Pos} {Q : Fl → Rho → Led → Prop} (h : Ev G o ρ σ (KDel1 G i Q)) : Ex1 G (.Delete [.Subscript o i p'] pos) ρ σ Q := fun A bs im s hA hS => by
  refine wpAny_Delete (wpAny_deleteEach_cons ?_)
  rw [arm_delete_Subscript]
  refine wpAny_bind (wpAny_mono (h A bs im s hA hS) (fun v s₁ hqx => ?_) fun _ _ x => x)
  obtain ⟨im₁, a, ρ₁, σ₁, e₁, ha, hS₁, h1⟩ := hqx
  refine wpAny_bind (wpAny_holding (wpAny_mono (h1 A bs im₁ s₁ hA hS₁) (fun w s₂ hqx => ?_) fun _ _ x => x))
  obtain ⟨im₂, b, ρ₂, σ₂, e₂, hb, hS₂, h2⟩ := hqx
  refine wpAny_bind (wpAny_standAt (wpAny_bind (wpAny_holding (wpAny_mono (h2 A bs im₂ s₂ v w hA hS₂ (ha.mono e₂.1) hb) (fun _ s₃ hqx => ?_) fun _ _ x => x))))
  obtain ⟨im₃, _, ρ₃, σ₃, e₃, _, hS₃, hq⟩ := hqx
  exact wpAny_release (wpAny_deleteEach_nil ⟨im₃, Fl.next, ρ₃, σ₃, e₁.trans (e₂.trans e₃), rfl, hS₃, hq⟩)
theorem DelP.obj {C f : Addr} {l : List (String × PV)} {b : PV} {Q : Rho → Led → Prop} (hf : findIn G.C.K (.ref C) "__delitem__" = some (some (.ref f))) (ht : typeIn G.C.K (.ref f) = some (.type "function")) (hk : peek G.C.K ⟨G.C.prog, G.C.w.params⟩ (seqItemTypes.anyM fun n => isSubtype (.ref C) (.type n)) = some false)
    (h : CallP G (.ref f) [.obj C l, b] [] ρ σ (fun _ ρ' σ' => Q ρ' σ')) : DelP G (.obj C l) b ρ σ Q := fun A bs im s v w hA hS ha hb => by
  obtain ⟨x, d, es, n, rfl, hx, hd, he⟩ := ha.obj_i
  have hx' := hS.l.him _ _ hx
  have X := hS.l.K
  have I := ins_at hx' (hS.l.him _ _ hd)
  unfold delItem
  refine wpAny_holding (wpAny_bind ?_)
  unfold sequenceKey
  refine wpAny_bind (I.type.here ?_)
  dsimp only
  refine wpAny_bind ((Looks.of_peek X hk).here ?_)
  rw [if_pos (by decide)]
  refine wpAny_pure ?_
  refine wpAny_bind ?_
  unfold callSpecial? specialOf
  refine wpAny_bind (wpAny_bind (I.type.here ((looks_findIn X hf).here ?_)))
  dsimp only
  refine wpAny_holding (wpAny_bind ((bind_fn X (.ref x) ht).here ?_))
  obtain ⟨_, H⟩ := h A bs im s (.ref f) [.ref x, w] [] hA hS .ref (.cons (.obj hx hd he) (.cons hb .nil)) ⟨rfl, .nil⟩
  refine wpAny_bind (wpAny_mono H (fun r s₁ hqx => ?_) fun _ _ x => x)
  obtain ⟨im₁, p, ρ₁, σ₁, e₁, hr, hS₁, hq⟩ := hqx
  exact wpAny_pure (wpAny_pure ⟨im₁, (), ρ₁, σ₁, e₁, trivial, hS₁, hq⟩)
theorem MethP.ins {C f x d : Addr} {y : String} {q : PV} {name : Str} (hc : ClsOk G.C.K C) (hf : findIn G.C.K (.ref C) name = some (some (.ref f))) (ht : typeIn G.C.K (.ref f) = some (.type "function")) (hy : (Str.ofString y == name) = false) (hx : (x, LO.ins C d) ∈ σ) (hd : (d, LO.att [(y, q)]) ∈ σ) : MethP G (.ref x) name (.ref f) [.ref x] ρ σ := fun A bs im s v pl Qv hA hS hv k => by
  rw [hv.ref_i]
  have h1 : s.heap.get? x = some (insO C d) := (hS.l.led _ hx).1
  obtain ⟨es, n, h2, h3⟩ := (hS.l.led _ hd).1
  obtain ⟨hh, t, w, es', rfl, hw, h4⟩ := h3.cons_inv
  have e := h4.nil_inv
  subst e
  have I := ins_at h1 h2
  refine method_fn hS.l.K I hc.ga hc.gt hf ht ?_ (k _ _ s.toks .ref (.cons .ref .nil))
  have e : (Value.str (Str.ofString y) t).isStr name = false := hy
  unfold shadowIn lookIn
  simp only [dicO, List.find?_cons, e, List.find?_nil]
  rfl
theorem CallP.strI {i : Int} (hi : i.natAbs.log2 < 1920) (h : Q (.str (cs (toString i))) ρ σ) : CallP G (.con (.type "str")) [.int i] [] ρ σ Q := fun A bs im s fv vs kvs hA hS hf hv hk => by
  rw [hf.con_i]
  have : kvs = [] := by have := hk.1; simpa using this
  subst this
  obtain ⟨v, rfl, hv1⟩ := one_v hv
  obtain ⟨t, rfl⟩ := hv1.int_i
  exact ⟨keeps_type, PySem.P.str_of_int hi (.now (hS.toks _) VR.str' h)⟩
noncomputable abbrev KExprS (Q : Fl → Rho → Led → Prop) : PV → Rho → Led → Prop := fun p ρ₁ σ₁ => (∃ l, p = .str l) ∧ Q .next ρ₁ σ₁
theorem Ex1.exprS {e : Expr} {pos : Pos} {Q : Fl → Rho → Led → Prop} (h : Ev G e ρ σ (KExprS Q)) (hs : swapsWith e none pos.line G.env = pure false := by rfl) :
    Ex1 G (.Expr e pos) ρ σ Q := fun A bs im s hA hS => by
  have hi : interactive G.env = false := by unfold interactive; rw [hS.f.kind]; rfl
  refine wpAny_Expr (wpAny_mono (h A bs im s hA hS) (fun v s₁ p => ?_) fun _ _ x => x) hi hs
  obtain ⟨im₁, r, ρ₁, σ₁, e, hr, hS₁, ⟨l, rfl⟩, hC⟩ := p
  obtain ⟨t, rfl⟩ := hr.str_i
  exact ⟨im₁, .next, ρ₁, σ₁, e, rfl, hS₁, hC⟩
end
end Mine.Tactic
end
local macro_rules | `(tactic| walk_at "zm") => `(tactic| repeat (first | exact List.Mem.head _ | apply List.Mem.tail))
local macro_rules | `(tactic| walk_at "zs") => `(tactic| repeat (first | exact Mine.Tactic.SetR.head | exact Mine.Tactic.SetR.nil | (apply Mine.Tactic.SetR.tl; decide)))
section
open PySem PySem.W PyProof.Rows PySem.Calls
set_option Elab.async false
set_option maxRecDepth 100000
namespace Mine.Tactic
noncomputable def fdOf (p : Params) (a : Addr) : FuncData := (fdAt (Kp p) a).getD default

noncomputable def LtOk (C : Cx) (n : Nat) (D : PV → Prop) (lt : PV → PV → Bool) : Prop :=
  ∀ env κ ns cn ρ σ p q (Q : PV → Rho → Led → Prop), D p → D q → Q (.bool (lt p q)) ρ σ → Op2 ⟨C, env, κ, ns, cn, n⟩ (compareOp .Lt) p q ρ σ Q
noncomputable def siftD (lt : PV → PV → Bool) (start : Nat) (x : PV) : Nat → Nat → List PV → List PV
  | 0, pos, l => l.set pos x
  | f + 1, pos, l => if start < pos then
      if lt x (l.getD ((pos - 1) / 2) .none) then siftD lt start x f ((pos - 1) / 2) (l.set pos (l.getD ((pos - 1) / 2) .none)) else l.set pos x
    else l.set pos x
theorem siftD_done {lt : PV → PV → Bool} {start : Nat} {x : PV} {f pos : Nat} {l : List PV} (h : ¬ start < pos) : siftD lt start x f pos l = l.set pos x := by
  cases f with
  | zero => rfl
  | succ f => unfold siftD; rw [if_neg h]
theorem siftD_step {lt : PV → PV → Bool} {start : Nat} {x : PV} {f pos : Nat} {l : List PV} : siftD lt start x (f + 1) pos l = if start < pos then
      if lt x (l.getD ((pos - 1) / 2) .none) then siftD lt start x f ((pos - 1) / 2) (l.set pos (l.getD ((pos - 1) / 2) .none)) else l.set pos x
    else l.set pos x := rfl
theorem getD_mem {l : List PV} {k : Nat} (h : k < l.length) : l.getD k .none ∈ l := by
  rw [List.getD_eq_getElem?_getD, List.getElem?_eq_getElem h]; exact List.getElem_mem h
theorem set_all {D : PV → Prop} {l : List PV} {k : Nat} {x : PV} (h : ∀ y ∈ l, D y) (hx : D x) : ∀ y ∈ l.set k x, D y := fun y hy => by
  rcases List.mem_or_eq_of_mem_set hy with h' | rfl
  · exact h _ h'
  · exact hx
noncomputable abbrev nsSD : Names := [("heap", .local), ("startpos", .local), ("pos", .local), ("newitem", .local), ("parentpos", .local), ("parent", .local)]
set_option maxHeartbeats 4000000 in
theorem siftdown_spec {C : Cx} {p : Params} {n : Nat} {D : PV → Prop} {lt : PV → PV → Bool} (hf : FnAt C aG__siftdown (fdOf p aG__siftdown)) (hlt : LtOk C n D lt) {H : Addr} {l : List PV} {a b : Nat} (hb : b < l.length) (hz : l.length ≤ 1000) (hD : ∀ x ∈ l, D x) :
    FnSpec C (n + 1) (.ref aG__siftdown) [.ref H, .int a, .int b] [] [(H, .list l)] (fun r σ' => r = .none ∧ σ' = [(H, .list (siftD lt a (l.getD b .none) b b l))]) := by
  refine FnSpec.of (body := ?bd) ["heap", "startpos", "pos"] [.ref H, .int a, .int b] nsSD [] [] (sc := ?sc) hf ?hb ?hsc ?hgl ?hbi ?hcl ?hok (fun p hp => nomatch hp) rfl ?_ ?_
  case hb => with_unfolding_all rfl
  case hsc => with_unfolding_all rfl
  case hgl => with_unfolding_all rfl
  case hbi => with_unfolding_all rfl
  case hcl => with_unfolding_all rfl
  case hok => kernel_rfl
  · intro im s vs kvs hk hv hkw
    obtain ⟨v, w, x, rfl, h1, h2, h3⟩ := three_v hv
    have : kvs = [] := by have := hkw.1; simpa using this
    subst this
    have e : bindArgs (fdOf p aG__siftdown) ⟨[v, w, x], []⟩ = pure ((["heap", "startpos", "pos"].map Str.ofString).zip [v, w, x]) := by kernel_rfl
    refine ⟨[v, w, x], hv, ?_⟩
    intro M A E Q h
    rw [e]
    exact wpAny_pure h
  · intro env κ
    show Ex _ _ [("heap", .ref H), ("startpos", .int a), ("pos", .int b)] _ _
    refine Ex.cons (Ex1.asg (Ev.sub (Ev.name (by walk_at "zm") (Ev.name (by walk_at "zm") (Op2.itemMn (by walk_at "zm") hb (by walk_at "zo") (As.name (by walk_at "zm") (by walk_at "zs") ?_))))))
    refine Ex.cons (Ex1.while (fun k ρ σ => ∃ l' f, σ = [(H, LO.list l')] ∧ Sub [("heap", .ref H), ("startpos", .int a), ("pos", .int (k : Int)), ("newitem", l.getD b .none)] ρ ∧ k < l'.length ∧ l'.length = l.length ∧ (∀ x ∈ l', D x) ∧ k ≤ f ∧ siftD lt a (l.getD b .none) f k l' = siftD lt a (l.getD b .none) b b l) ?_ b ?_)
    · rintro k ρ σ ⟨l', f, rfl, hs, h1, h2, h3, hkf, h4⟩
      refine Tr.rho2 ["heap", "startpos", "pos", "newitem"] hs ?_
      refine Ts.compare (Ev.name (by walk_at "zm") (Ev.name (by walk_at "zm") (Op2.gt (TrueOf.bool ?_))))
      refine ite_dec (fun hak => ?_) (fun hak => ?_)
      · obtain ⟨f, rfl⟩ : ∃ f', f = f' + 1 := ⟨f - 1, by walk_at "zo"⟩
        rw [siftD_step, if_pos (by walk_at "zo")] at h4
        refine Ex.cons (Ex1.asg (Ev.binop (Ev.binop (Ev.name (by walk_at "zm") (Ev.int (Op2.sub (Ev.int (Op2.shr (by walk_at "zo") (As.nameN (j := ((k - 1) / 2 : Nat)) ?_ (by walk_at "zm") (by walk_at "zs") ?_)))))))))
        · show ((k : Int) - 1) / 2 ^ (1 : Nat) = _
          walk_at "zo"
        have hpar : (k - 1) / 2 < l'.length := by walk_at "zo"
        refine Ex.cons (Ex1.asg (Ev.sub (Ev.name (by walk_at "zm") (Ev.name (by walk_at "zm") (Op2.itemMn (by walk_at "zm") hpar (by walk_at "zo") (As.name (by walk_at "zm") (by walk_at "zs") ?_))))))
        refine Ex.cons (Ex1.if (Ts.compare (Ev.name (by walk_at "zm") (Ev.name (by walk_at "zm") (hlt _ _ _ _ _ _ _ _ _ (hD _ (getD_mem hb)) (h3 _ (getD_mem hpar)) (TrueOf.bool ?_))))))
        refine ite_b (fun hl => ?_) (fun hl => ?_)
        · rw [if_pos hl] at h4
          refine Ex.cons (Ex1.setItem (Ev.name (by walk_at "zm") (Ev.name (by walk_at "zm") (Ev.name (by walk_at "zm") (SetP.led .head h1 (by walk_at "zo") ?_)))))
          refine Ex.cons (Ex1.asg (Ev.name (by walk_at "zm") (As.name (by walk_at "zm") (by walk_at "zs") ?_)))
          refine Ex.cons (Ex1.cont ?_)
          exact ⟨(k - 1) / 2, by walk_at "zo", _, f, rfl, .cons (by walk_at "zm") (.cons (by walk_at "zm") (.cons (by walk_at "zm") (.cons (by walk_at "zm") .nil))), by rw [List.length_set]; walk_at "zo", by rw [List.length_set]; exact h2, set_all h3 (h3 _ (getD_mem hpar)), by walk_at "zo", h4⟩
        · rw [if_neg (by rw [hl]; decide)] at h4
          refine Ex.nil ?_
          refine Ex.cons (Ex1.brk ?_)
          refine Ex.cons (Ex1.setItem (Ev.name (by walk_at "zm") (Ev.name (by walk_at "zm") (Ev.name (by walk_at "zm") (SetP.led .head h1 (by walk_at "zo") ?_)))))
          refine Ex.nil ?_
          exact ⟨rfl, by rw [h4]⟩
      · rw [siftD_done (by walk_at "zo")] at h4
        refine Ex.cons (Ex1.setItem (Ev.name (by walk_at "zm") (Ev.name (by walk_at "zm") (Ev.name (by walk_at "zm") (SetP.led .head h1 (by walk_at "zo") ?_)))))
        refine Ex.nil ?_
        exact ⟨rfl, by rw [h4]⟩
    · exact ⟨l, b, rfl, .cons (by walk_at "zm") (.cons (by walk_at "zm") (.cons (by walk_at "zm") (.cons (by walk_at "zm") .nil))), hb, rfl, hD, Nat.le_refl _, rfl⟩
end Mine.Tactic
end
section
open PySem PySem.W PyProof.Rows PySem.Calls
set_option Elab.async false
set_option maxRecDepth 100000
namespace Mine.Tactic

noncomputable def childP (lt : PV → PV → Bool) (c : Nat) (l : List PV) : Nat := if c + 1 < l.length ∧ lt (l.getD c .none) (l.getD (c + 1) .none) = false then c + 1 else c
noncomputable def siftU (lt : PV → PV → Bool) : Nat → Nat → List PV → Nat × List PV
  | 0, pos, l => (pos, l)
  | f + 1, pos, l => if 2 * pos + 1 < l.length then siftU lt f (childP lt (2 * pos + 1) l) (l.set pos (l.getD (childP lt (2 * pos + 1) l) .none)) else (pos, l)
noncomputable def siftUp (lt : PV → PV → Bool) (pos : Nat) (l : List PV) : List PV :=
  siftD lt pos (l.getD pos .none) (siftU lt l.length pos l).1 (siftU lt l.length pos l).1 ((siftU lt l.length pos l).2.set (siftU lt l.length pos l).1 (l.getD pos .none))
theorem siftU_done {lt : PV → PV → Bool} {f pos : Nat} {l : List PV} (h : ¬ 2 * pos + 1 < l.length) : siftU lt f pos l = (pos, l) := by
  cases f with
  | zero => rfl
  | succ f => unfold siftU; rw [if_neg h]
theorem siftU_step {lt : PV → PV → Bool} {f pos : Nat} {l : List PV} : siftU lt (f + 1) pos l = if 2 * pos + 1 < l.length then siftU lt f (childP lt (2 * pos + 1) l) (l.set pos (l.getD (childP lt (2 * pos + 1) l) .none)) else (pos, l) := rfl
theorem childP_lt {lt : PV → PV → Bool} {c : Nat} {l : List PV} (h : c < l.length) : c ≤ childP lt c l ∧ childP lt c l < l.length := by
  unfold childP; split <;> walk_at "zo"
noncomputable abbrev nsSU : Names := [("heap", .local), ("pos", .local), ("endpos", .local), ("startpos", .local), ("newitem", .local), ("childpos", .local), ("rightpos", .local)]
set_option maxHeartbeats 4000000 in
theorem siftup_spec {C : Cx} {p : Params} {n : Nat} {D : PV → Prop} {lt : PV → PV → Bool} (hf : FnAt C aG__siftup (fdOf p aG__siftup)) (hf' : FnAt C aG__siftdown (fdOf p aG__siftdown)) (hg : Sub [("_siftdown", .ref aG__siftdown), ("len", .con (.builtin "len"))] C.gl) (hlt : LtOk C n D lt) (hlt' : LtOk C (n + 1) D lt) {H : Addr} {l : List PV} {a : Nat} (ha : a < l.length) (hz : l.length ≤ 1000) (hD : ∀ x ∈ l, D x) :
    FnSpec C (n + 2) (.ref aG__siftup) [.ref H, .int a] [] [(H, .list l)] (fun r σ' => r = .none ∧ σ' = [(H, .list (siftUp lt a l))]) := by
  refine FnSpec.of (body := ?bd) ["heap", "pos"] [.ref H, .int a] nsSU [] [("_siftdown", .ref aG__siftdown), ("len", .con (.builtin "len"))] (sc := ?sc) hf ?hb ?hsc ?hgl ?hbi ?hcl ?hok hg rfl ?_ ?_
  case hb => with_unfolding_all rfl
  case hsc => with_unfolding_all rfl
  case hgl => with_unfolding_all rfl
  case hbi => with_unfolding_all rfl
  case hcl => with_unfolding_all rfl
  case hok => kernel_rfl
  · intro im s vs kvs hk hv hkw
    obtain ⟨v, w, rfl, h1, h2⟩ := two_v hv
    have : kvs = [] := by have := hkw.1; simpa using this
    subst this
    have e : bindArgs (fdOf p aG__siftup) ⟨[v, w], []⟩ = pure ((["heap", "pos"].map Str.ofString).zip [v, w]) := by kernel_rfl
    refine ⟨[v, w], hv, ?_⟩
    intro M A E Q h
    rw [e]
    exact wpAny_pure h
  · intro env κ
    show Ex _ _ [("_siftdown", .ref aG__siftdown), ("len", .con (.builtin "len")), ("heap", .ref H), ("pos", .int a)] _ _
    refine Ex.cons (Ex1.asg (Ev.call (by walk_at "zm") (EvL.cons (Ev.name (by walk_at "zm") (EvL.nil (CallP.lenM (by walk_at "zm") (by walk_at "zo") (As.name (by walk_at "zm") (by walk_at "zs") ?_)))))))
    refine Ex.cons (Ex1.asg (Ev.name (by walk_at "zm") (As.name (by walk_at "zm") (by walk_at "zs") ?_)))
    refine Ex.cons (Ex1.asg (Ev.sub (Ev.name (by walk_at "zm") (Ev.name (by walk_at "zm") (Op2.itemMn (by walk_at "zm") ha (by walk_at "zo") (As.name (by walk_at "zm") (by walk_at "zs") ?_))))))
    refine Ex.cons (Ex1.asg (Ev.binop (Ev.binop (Ev.int (Ev.name (by walk_at "zm") (Op2.mul (Ev.int (Op2.add (As.nameN (j := ((2 * a + 1 : Nat) : Int)) (by walk_at "zo") (by walk_at "zm") (by walk_at "zs") ?_))) ?_))))))
    refine Ex.cons (Ex1.while (fun k ρ σ => ∃ l' f pos, k = l.length - pos ∧ σ = [(H, LO.list l')] ∧ Sub [("_siftdown", .ref aG__siftdown), ("heap", .ref H), ("pos", .int (pos : Int)), ("endpos", .int l.length), ("startpos", .int a), ("newitem", l.getD a .none), ("childpos", .int ((2 * pos + 1 : Nat) : Int))] ρ ∧ pos < l.length ∧ l'.length = l.length ∧ (∀ x ∈ l', D x) ∧ l.length ≤ pos + f ∧ siftU lt f pos l' = siftU lt l.length a l) ?_ (l.length - a) ?_)
    · rintro k ρ σ ⟨l', f, pos, rfl, rfl, hs, h1, h2, h3, hkf, h4⟩
      refine Tr.rho2 ["_siftdown", "heap", "pos", "endpos", "startpos", "newitem", "childpos"] hs ?_
      refine Ts.compare (Ev.name (by walk_at "zm") (Ev.name (by walk_at "zm") (Op2.lt (TrueOf.bool ?_))))
      refine ite_dec (fun hak => ?_) (fun hak => ?_)
      · obtain ⟨f, rfl⟩ : ∃ f', f = f' + 1 := ⟨f - 1, by walk_at "zo"⟩
        rw [siftU_step, if_pos (by walk_at "zo")] at h4
        have hc := childP_lt (lt := lt) (c := 2 * pos + 1) (l := l') (by walk_at "zo")
        refine Ex.cons (Ex1.asg (Ev.binop (Ev.name (by walk_at "zm") (Ev.int (Op2.add (As.nameN (j := ((2 * pos + 1 + 1 : Nat) : Int)) (by walk_at "zo") (by walk_at "zm") (by walk_at "zs") ?_))))))
        refine Ex.cons (Tr.mono (Q := fun fl ρ₁ σ₁ => fl = Fl.next ∧ σ₁ = [(H, LO.list l')] ∧ ρ₁ = [("_siftdown", .ref aG__siftdown), ("heap", .ref H), ("pos", .int (pos : Int)), ("endpos", .int l.length), ("startpos", .int a), ("newitem", l.getD a .none), ("childpos", .int ((childP lt (2 * pos + 1) l' : Nat) : Int)), ("rightpos", .int ((2 * pos + 1 + 1 : Nat) : Int))]) (Ex1.if (Ts.bool (TsAll.and (Ts.compare (Ev.name (by walk_at "zm") (Ev.name (by walk_at "zm") (Op2.lt (TrueOf.bool ?_)))))))) ?_)
        · refine ite_dec (fun hr => ?_) (fun hr => ?_)
          · refine TsAll.and (Ts.not (Ts.compare (Ev.sub (Ev.name (by walk_at "zm") (Ev.name (by walk_at "zm") (Op2.itemMn (by walk_at "zm") (by walk_at "zo") (by walk_at "zo") (Ev.sub (Ev.name (by walk_at "zm") (Ev.name (by walk_at "zm") (Op2.itemMn (by walk_at "zm") (by walk_at "zo") (by walk_at "zo") (hlt' _ _ _ _ _ _ _ _ _ (h3 _ (getD_mem (by walk_at "zo"))) (h3 _ (getD_mem (by walk_at "zo"))) (TrueOf.bool ?_))))))))))))
            refine ite_not (ite_b (fun hl => ?_) (fun hl => ?_))
            · refine Ex.nil ⟨rfl, rfl, ?_⟩
              rw [show childP lt (2 * pos + 1) l' = 2 * pos + 1 from if_neg (by rw [hl]; simp)]
            · refine TsAll.nilAnd ?_
              refine Ex.cons (Ex1.asg (Ev.name (by walk_at "zm") (As.name (by walk_at "zm") (by walk_at "zs") ?_)))
              refine Ex.nil ⟨rfl, rfl, ?_⟩
              rw [show childP lt (2 * pos + 1) l' = 2 * pos + 1 + 1 from if_pos ⟨by walk_at "zo", hl⟩]
          · refine Ex.nil ⟨rfl, rfl, ?_⟩
            rw [show childP lt (2 * pos + 1) l' = 2 * pos + 1 from if_neg (by walk_at "zo")]
        · rintro _ _ _ ⟨rfl, rfl, rfl⟩
          refine Ex.cons (Ex1.setItem (Ev.sub (Ev.name (by walk_at "zm") (Ev.name (by walk_at "zm") (Op2.itemMn (by walk_at "zm") hc.2 (by walk_at "zo") (Ev.name (by walk_at "zm") (Ev.name (by walk_at "zm") (SetP.led .head (by walk_at "zo") (by walk_at "zo") ?_))))))))
          refine Ex.cons (Ex1.asg (Ev.name (by walk_at "zm") (As.name (by walk_at "zm") (by walk_at "zs") ?_)))
          refine Ex.cons (Ex1.asg (Ev.binop (Ev.binop (Ev.int (Ev.name (by walk_at "zm") (Op2.mul (Ev.int (Op2.add (As.nameN (j := ((2 * childP lt (2 * pos + 1) l' + 1 : Nat) : Int)) (by walk_at "zo") (by walk_at "zm") (by walk_at "zs") ?_))) ?_))))))
          · refine Ex.nil ?_
            exact ⟨l.length - childP lt (2 * pos + 1) l', by walk_at "zo", _, f, _, rfl, rfl, .cons (by walk_at "zm") (.cons (by walk_at "zm") (.cons (by walk_at "zm") (.cons (by walk_at "zm") (.cons (by walk_at "zm") (.cons (by walk_at "zm") (.cons (by walk_at "zm") .nil)))))), by walk_at "zo", by rw [List.length_set]; exact h2, set_all h3 (h3 _ (getD_mem hc.2)), by walk_at "zo", h4⟩
          · exact IntMulOk.of_left (by decide)
      · rw [siftU_done (by walk_at "zo")] at h4
        refine Ex.cons (Ex1.setItem (Ev.name (by walk_at "zm") (Ev.name (by walk_at "zm") (Ev.name (by walk_at "zm") (SetP.led .head (by walk_at "zo") (by walk_at "zo") ?_)))))
        have hx : (l'.set pos (l.getD a .none)).getD pos .none = l.getD a .none := by
          rw [List.getD_eq_getElem?_getD, List.getElem?_set_self (by walk_at "zo")]; rfl
        refine Ex.cons (Ex1.expr (Ev.call (by walk_at "zm") (EvL.cons (Ev.name (by walk_at "zm") (EvL.cons (Ev.name (by walk_at "zm") (EvL.cons (Ev.name (by walk_at "zm") (EvL.nil (CallP.of (φ := []) (siftdown_spec (p := p) hf' hlt (by rw [List.length_set]; walk_at "zo") (by rw [List.length_set]; walk_at "zo") (set_all h3 (hD _ (getD_mem ha)))) (fun _ h => h) (.inr rfl) ?_))))))))))
        rintro r σ' ⟨rfl, rfl⟩
        refine ⟨rfl, Ex.nil ⟨rfl, ?_⟩⟩
        rw [hx]
        unfold siftUp
        rw [← h4]
        rfl
    · exact ⟨l, l.length, a, rfl, rfl, .cons (by walk_at "zm") (.cons (by walk_at "zm") (.cons (by walk_at "zm") (.cons (by walk_at "zm") (.cons (by walk_at "zm") (.cons (by walk_at "zm") (.cons (by walk_at "zm") .nil)))))), ha, rfl, hD, by walk_at "zo", rfl⟩
    · exact IntMulOk.of_left (by decide)
end Mine.Tactic
end
section
open PySem PySem.W PyProof.Rows PySem.Calls
set_option Elab.async false
set_option maxRecDepth 100000
namespace Mine.Tactic

theorem siftD_len {lt : PV → PV → Bool} {start : Nat} {x : PV} : ∀ (f pos : Nat) (l : List PV), (siftD lt start x f pos l).length = l.length
  | 0, pos, l => by unfold siftD; rw [List.length_set]
  | f + 1, pos, l => by
    rw [siftD_step]
    split
    · split
      · rw [siftD_len f, List.length_set]
      · rw [List.length_set]
    · rw [List.length_set]
theorem siftU_len {lt : PV → PV → Bool} : ∀ (f pos : Nat) (l : List PV), (siftU lt f pos l).2.length = l.length
  | 0, pos, l => rfl
  | f + 1, pos, l => by
    rw [siftU_step]
    split
    · rw [siftU_len f, List.length_set]
    · rfl
theorem siftUp_len {lt : PV → PV → Bool} {pos : Nat} {l : List PV} : (siftUp lt pos l).length = l.length := by
  unfold siftUp; rw [siftD_len, List.length_set, siftU_len]
theorem siftD_all {lt : PV → PV → Bool} {start : Nat} {x : PV} {D : PV → Prop} (hx : D x) : ∀ (f pos : Nat) (l : List PV), pos < l.length → (∀ y ∈ l, D y) → ∀ y ∈ siftD lt start x f pos l, D y
  | 0, pos, l, _, h => by unfold siftD; exact set_all h hx
  | f + 1, pos, l, hp, h => by
    rw [siftD_step]
    split
    · split
      · exact siftD_all hx f _ _ (by rw [List.length_set]; walk_at "zo") (set_all h (h _ (getD_mem (by walk_at "zo"))))
      · exact set_all h hx
    · exact set_all h hx
theorem siftU_all {lt : PV → PV → Bool} {D : PV → Prop} : ∀ (f pos : Nat) (l : List PV), pos < l.length → (∀ y ∈ l, D y) → (∀ y ∈ (siftU lt f pos l).2, D y) ∧ (siftU lt f pos l).1 < l.length
  | 0, pos, l, hp, h => ⟨h, hp⟩
  | f + 1, pos, l, hp, h => by
    rw [siftU_step]
    split
    · rename_i hc
      have := childP_lt (lt := lt) hc
      have r := siftU_all (lt := lt) f (childP lt (2 * pos + 1) l) (l.set pos (l.getD (childP lt (2 * pos + 1) l) .none)) (by rw [List.length_set]; exact this.2) (set_all h (h _ (getD_mem this.2)))
      rw [List.length_set] at r
      exact r
    · exact ⟨h, hp⟩
theorem siftUp_all {lt : PV → PV → Bool} {D : PV → Prop} {pos : Nat} {l : List PV} (hp : pos < l.length) (h : ∀ y ∈ l, D y) : ∀ y ∈ siftUp lt pos l, D y := by
  obtain ⟨a, b⟩ := siftU_all (lt := lt) l.length pos l hp h
  unfold siftUp
  exact siftD_all (h _ (getD_mem hp)) _ _ _ (by rw [List.length_set, siftU_len]; exact b) (set_all a (h _ (getD_mem hp)))
noncomputable def heapifyP (lt : PV → PV → Bool) : Nat → List PV → List PV
  | 0, l => l
  | k + 1, l => heapifyP lt k (siftUp lt k l)
noncomputable def heappopP (lt : PV → PV → Bool) (l : List PV) : PV × List PV :=
  if l.length ≤ 1 then (l.getD (l.length - 1) .none, []) else (l.getD 0 .none, siftUp lt 0 (l.dropLast.set 0 (l.getD (l.length - 1) .none)))
noncomputable abbrev glH : Rho := [("_siftup", .ref aG__siftup), ("_siftdown", .ref aG__siftdown), ("len", .con (.builtin "len")), ("range", .con (.type "range")), ("reversed", .con (.type "reversed"))]
noncomputable abbrev nsHP : Names := [("heap", .local), ("lastelt", .local), ("returnitem", .local)]
set_option maxHeartbeats 4000000 in
theorem heappop_spec {C : Cx} {p : Params} {n : Nat} {D : PV → Prop} {lt : PV → PV → Bool} (hf : FnAt C aG_heappop (fdOf p aG_heappop)) (hf1 : FnAt C aG__siftup (fdOf p aG__siftup)) (hf' : FnAt C aG__siftdown (fdOf p aG__siftdown)) (hg : Sub glH C.gl) (hlt : LtOk C n D lt) (hlt' : LtOk C (n + 1) D lt) {H : Addr} {l : List PV} (ha : 0 < l.length) (hz : l.length ≤ 1000) (hD : ∀ x ∈ l, D x) :
    FnSpec C (n + 3) (.ref aG_heappop) [.ref H] [] [(H, .list l)] (fun r σ' => r = (heappopP lt l).1 ∧ σ' = [(H, .list (heappopP lt l).2)]) := by
  have hg1 : Sub [("_siftup", .ref aG__siftup)] C.gl := .cons (hg _ (by walk_at "zm")) .nil
  have hg2 : Sub [("_siftdown", .ref aG__siftdown), ("len", .con (.builtin "len"))] C.gl := .cons (hg _ (by walk_at "zm")) (.cons (hg _ (by walk_at "zm")) .nil)
  refine FnSpec.of (body := ?bd) ["heap"] [.ref H] nsHP [] [("_siftup", .ref aG__siftup)] (sc := ?sc) hf ?hb ?hsc ?hgl ?hbi ?hcl ?hok hg1 rfl ?_ ?_
  case hb => with_unfolding_all rfl
  case hsc => with_unfolding_all rfl
  case hgl => with_unfolding_all rfl
  case hbi => with_unfolding_all rfl
  case hcl => with_unfolding_all rfl
  case hok => kernel_rfl
  · intro im s vs kvs hk hv hkw
    obtain ⟨v, rfl, h1⟩ := one_v hv
    have : kvs = [] := by have := hkw.1; simpa using this
    subst this
    have e : bindArgs (fdOf p aG_heappop) ⟨[v], []⟩ = pure ((["heap"].map Str.ofString).zip [v]) := by kernel_rfl
    refine ⟨[v], hv, ?_⟩
    intro M A E Q h
    rw [e]
    exact wpAny_pure h
  · intro env κ
    have hlast : l[l.length - 1]? = some (l.getD (l.length - 1) .none) := by rw [List.getD_eq_getElem?_getD, List.getElem?_eq_getElem (by walk_at "zo")]; rfl
    have hdl : l.dropLast.length = l.length - 1 := List.length_dropLast
    have hdD : ∀ x ∈ l.dropLast, D x := fun x hx => hD x (List.dropLast_subset l hx)
    show Ex _ _ [("_siftup", .ref aG__siftup), ("heap", .ref H)] _ _
    refine Ex.cons <| Ex1.asg <| Ev.meth <| Ev.name (by walk_at "zm") ⟨_, _, MethP.led (by walk_at "zm") F.slot_list_pop F.type_list_pop, EvL.nil <| CallP.pop hlast .head (by walk_at "zo") <| As.name (by walk_at "zm") (by walk_at "zs") ?_⟩
    refine Ex.cons <| Ex1.if <| Ts.plain <| Ev.name (by walk_at "zm") <| TrueOf.led (by walk_at "zm") (by walk_at "zo") ?_
    by_cases h1 : l.length ≤ 1
    · have : l.dropLast = [] := List.length_eq_zero_iff.mp (by walk_at "zo")
      rw [this]
      show Ex _ _ _ _ _
      refine Ex.nil ?_
      refine Ex.cons <| Ex1.ret <| Ev.name (by walk_at "zm") ?_
      unfold heappopP
      rw [if_pos h1]
      exact ⟨rfl, rfl⟩
    · have hne : (!l.dropLast.isEmpty) = true := by
        cases e : l.dropLast with
        | nil => rw [e] at hdl; simp at hdl; walk_at "zo"
        | cons a r => rfl
      rw [hne]
      show Ex _ _ _ _ _
      have h0 : l.dropLast.getD 0 .none = l.getD 0 .none := by
        rw [List.getD_eq_getElem?_getD, List.getD_eq_getElem?_getD, List.getElem?_dropLast, if_pos (by walk_at "zo")]
      refine Ex.cons <| Ex1.asg <| Ev.sub <| Ev.name (by walk_at "zm") <| Ev.int <| Op2.itemMn (k := 0) (by walk_at "zm") (by walk_at "zo") (by walk_at "zo") <| As.name (by walk_at "zm") (by walk_at "zs") ?_
      refine Ex.cons <| Ex1.setItem <| Ev.name (by walk_at "zm") <| Ev.name (by walk_at "zm") <| Ev.int <| SetP.led (k := 0) .head (by walk_at "zo") (by walk_at "zo") ?_
      refine Ex.cons <| Ex1.expr <| Ev.call (by walk_at "zm") <| EvL.cons <| Ev.name (by walk_at "zm") <| EvL.cons <| Ev.int <| EvL.nil <| CallP.of (φ := []) (siftup_spec (a := 0) (p := p) hf1 hf' hg2 hlt hlt' (by rw [List.length_set]; walk_at "zo") (by rw [List.length_set]; walk_at "zo") (set_all hdD (hD _ (getD_mem (by walk_at "zo"))))) (fun _ h => h) (.inr rfl) ?_
      rintro r σ' ⟨rfl, rfl⟩
      refine ⟨rfl, ?_⟩
      refine Ex.cons <| Ex1.ret <| Ev.name (by walk_at "zm") ?_
      unfold heappopP
      rw [if_neg h1, h0]
      exact ⟨rfl, rfl⟩
end Mine.Tactic
end
section
open PySem PySem.W PyProof.Rows PySem.Calls
set_option Elab.async false
set_option maxRecDepth 100000
namespace Mine.Tactic
open Builtin.Range (rangeSize rangeFitsLong)
theorem rangeSize1 (a : Int) (m : Nat) : rangeSize a (a + m) 1 = (m : Int) := by
  unfold rangeSize
  rw [if_pos (by decide)]
  split
  · rw [Int.ediv_one]; walk_at "zo"
  · walk_at "zo"
theorem fitsLong {i : Int} (h1 : -1000000 ≤ i) (h2 : i ≤ 1000000) : rangeFitsLong i = true := by
  unfold rangeFitsLong
  simp only [Bool.and_eq_true, decide_eq_true_eq]
  constructor <;> walk_at "zo"
theorem revSmall1 {m : Nat} (h : m ≤ 1000) : revSmall 0 m 1 = true := by
  have e := rangeSize1 0 m
  rw [Int.zero_add] at e
  unfold revSmall
  rw [e, fitsLong, fitsLong, fitsLong, fitsLong, fitsLong]
  · rfl
  all_goals walk_at "zo"
theorem rints_get {a c : Int} {n i : Nat} {q : PV} (h : (rints a c n)[i]? = some q) : i < n ∧ q = .int (a + i * c) := by
  unfold rints at h
  rw [List.getElem?_map] at h
  cases e : (List.range n)[i]? with
  | none => rw [e] at h; cases h
  | some k =>
    rw [e] at h
    have hk := List.getElem?_eq_some_iff.mp e
    obtain ⟨h1, h2⟩ := hk
    rw [List.length_range] at h1
    rw [List.getElem_range] at h2
    subst h2
    cases h
    exact ⟨h1, rfl⟩
theorem rints_len {a c : Int} {n : Nat} : (rints a c n).length = n := by unfold rints; rw [List.length_map, List.length_range]
noncomputable abbrev nsHF : Names := [("x", .local), ("n", .local), ("i", .local)]
set_option maxHeartbeats 4000000 in
theorem heapify_spec {C : Cx} {p : Params} {n : Nat} {D : PV → Prop} {lt : PV → PV → Bool} (hf : FnAt C aG_heapify (fdOf p aG_heapify)) (hf1 : FnAt C aG__siftup (fdOf p aG__siftup)) (hf' : FnAt C aG__siftdown (fdOf p aG__siftdown)) (hg : Sub glH C.gl) (hlt : LtOk C n D lt) (hlt' : LtOk C (n + 1) D lt) {H : Addr} {l : List PV} (hz : l.length ≤ 1000) (hD : ∀ x ∈ l, D x) :
    FnSpec C (n + 3) (.ref aG_heapify) [.ref H] [] [(H, .list l)] (fun r σ' => r = .none ∧ σ' = [(H, .list (heapifyP lt (l.length / 2) l))]) := by
  have hg1 : Sub [("_siftup", .ref aG__siftup), ("len", .con (.builtin "len")), ("range", .con (.type "range")), ("reversed", .con (.type "reversed"))] C.gl := .cons (hg _ (by walk_at "zm")) (.cons (hg _ (by walk_at "zm")) (.cons (hg _ (by walk_at "zm")) (.cons (hg _ (by walk_at "zm")) .nil)))
  have hg2 : Sub [("_siftdown", .ref aG__siftdown), ("len", .con (.builtin "len"))] C.gl := .cons (hg _ (by walk_at "zm")) (.cons (hg _ (by walk_at "zm")) .nil)
  refine FnSpec.of (body := ?bd) ["x"] [.ref H] nsHF [] [("_siftup", .ref aG__siftup), ("len", .con (.builtin "len")), ("range", .con (.type "range")), ("reversed", .con (.type "reversed"))] (sc := ?sc) hf ?hb ?hsc ?hgl ?hbi ?hcl ?hok hg1 rfl ?_ ?_
  case hb => with_unfolding_all rfl
  case hsc => with_unfolding_all rfl
  case hgl => with_unfolding_all rfl
  case hbi => with_unfolding_all rfl
  case hcl => with_unfolding_all rfl
  case hok => kernel_rfl
  · intro im s vs kvs hk hv hkw
    obtain ⟨v, rfl, h1⟩ := one_v hv
    have : kvs = [] := by have := hkw.1; simpa using this
    subst this
    have e : bindArgs (fdOf p aG_heapify) ⟨[v], []⟩ = pure ((["x"].map Str.ofString).zip [v]) := by kernel_rfl
    refine ⟨[v], hv, ?_⟩
    intro M A E Q h
    rw [e]
    exact wpAny_pure h
  · intro env κ
    have hm : ((l.length : Int) / 2) = ((l.length / 2 : Nat) : Int) := by walk_at "zo"
    show Ex _ _ [("_siftup", .ref aG__siftup), ("len", .con (.builtin "len")), ("range", .con (.type "range")), ("reversed", .con (.type "reversed")), ("x", .ref H)] _ _
    refine Ex.cons <| Ex1.asg <| Ev.call (by walk_at "zm") <| EvL.cons <| Ev.name (by walk_at "zm") <| EvL.nil <| CallP.lenM (by walk_at "zm") (by walk_at "zo") <| As.name (by walk_at "zm") (by walk_at "zs") ?_
    refine Ex.cons <| Ex1.for <| Ev.call (by walk_at "zm") <| EvL.cons <| Ev.call (by walk_at "zm") <| EvL.cons <| Ev.binop <| Ev.name (by walk_at "zm") <| Ev.int <| Op2.fdiv (by walk_at "zo") (by walk_at "zo") <| EvL.nil <| CallP.range1 <| EvL.nil <| CallP.reversed (n := l.length / 2) (by rw [hm]; exact revSmall1 (by walk_at "zo")) (by rw [hm]; have := rangeSize1 0 (l.length / 2); rw [Int.zero_add] at this; exact this) fun I => ⟨_, [], [(H, .list l)], _, ItSrc.rit, fun _ h => h, .inr rfl, List.nodup_nil, ?_⟩
    refine ForT.inv (fun k ρ σ => ∃ l', σ = [(H, LO.list l')] ∧ Sub [("_siftup", .ref aG__siftup), ("x", .ref H)] ρ ∧ l'.length = l.length ∧ (∀ x ∈ l', D x) ∧ heapifyP lt (l.length / 2 - k) l' = heapifyP lt (l.length / 2) l) _ 0 ?_ ?_ ?_
    · rintro i q ρ σ hq ⟨l', rfl, hs, h1, h2, h3⟩
      obtain ⟨hi, rfl⟩ := rints_get hq
      obtain ⟨j, hj⟩ : ∃ j, l.length / 2 - (0 + i) = j + 1 := ⟨l.length / 2 - i - 1, by walk_at "zo"⟩
      rw [hj] at h3
      refine Con.rho2 ["_siftup", "x"] hs ?_
      refine As.nameN (j := (j : Int)) (by walk_at "zo") (by walk_at "zm") (by walk_at "zs") ?_
      refine Ex.cons <| Ex1.expr <| Ev.call (by walk_at "zm") <| EvL.cons <| Ev.name (by walk_at "zm") <| EvL.cons <| Ev.name (by walk_at "zm") <| EvL.nil <| CallP.of (φ := []) (siftup_spec (p := p) hf1 hf' hg2 hlt hlt' (by walk_at "zo") (by walk_at "zo") h2) (fun _ h => h) (.inr rfl) ?_
      rintro r σ' ⟨rfl, rfl⟩
      refine ⟨rfl, Ex.nil ?_⟩
      refine ⟨_, rfl, .cons (by walk_at "zm") (.cons (by walk_at "zm") .nil), by rw [siftUp_len]; exact h1, siftUp_all (by walk_at "zo") h2, ?_⟩
      rw [← h3, show l.length / 2 - (0 + i + 1) = j by walk_at "zo"]; rfl
    · exact ⟨l, rfl, .cons (by walk_at "zm") (.cons (by walk_at "zm") .nil), rfl, hD, rfl⟩
    · rintro ρ σ ⟨l', rfl, hs, h1, h2, h3⟩
      rw [rints_len, show l.length / 2 - (0 + l.length / 2) = 0 by walk_at "zo"] at h3
      refine Ex.nil ⟨rfl, ?_⟩
      rw [← h3]; rfl
end Mine.Tactic
end
section
open PySem PySem.W PyProof.Rows PySem.Calls
set_option Elab.async false
set_option maxRecDepth 100000
namespace Mine.Tactic

structure HdrK (C : Cx) (p : Params) (cN cV : Array Nat) : Prop where
  cls : ClsOk C.K aG_Headers
  fall : findIn C.K (.ref aG_Headers) (Str.ofString "get_all") = some (some (.ref aM_get_all))
  fitems : findIn C.K (.ref aG_Headers) (Str.ofString "items") = some (some (.ref aM_items))
  fadd : findIn C.K (.ref aG_Headers) (Str.ofString "add_header") = some (some (.ref aM_add_header))
  fconv : findIn C.K (.ref aG_Headers) (Str.ofString "_convert_string_type") = some (some (.ref aM__convert_string_type))
  finit : findIn C.K (.ref aG_Headers) (Str.ofString "__init__") = some (some (.ref aM___init__))
  fhd : findIn C.K (.ref aG_Headers) (Str.ofString "_headers") = some none
  ftk : takerIn C.K aG_Headers (Str.ofString "_headers") = some none
  tall : typeIn C.K (.ref aM_get_all) = some (.type "function")
  titems : typeIn C.K (.ref aM_items) = some (.type "function")
  tadd : typeIn C.K (.ref aM_add_header) = some (.type "function")
  tconv : typeIn C.K (.ref aM__convert_string_type) = some (.type "function")
  tinit : typeIn C.K (.ref aM___init__) = some (.type "function")
  keep : keepIn C.K (.ref aG_Headers) = true
  reN : ReAt C.K aG__name_disallowed_re cN
  reV : ReAt C.K aG__value_disallowed_re cV
  conv : FnAt C aM__convert_string_type (fdOf p aM__convert_string_type)
  all : FnAt C aM_get_all (fdOf p aM_get_all)
  items : FnAt C aM_items (fdOf p aM_items)
  add : FnAt C aM_add_header (fdOf p aM_add_header)
  init : FnAt C aM___init__ (fdOf p aM___init__)
  o3 : ∃ o, C.base.f 3 = some o
  gl : Sub [("type", .con (.type "type")), ("str", .con (.type "str")), ("list", .con (.type "list")), ("_name_disallowed_re", .con (.ref aG__name_disallowed_re)), ("_value_disallowed_re", .con (.ref aG__value_disallowed_re))] C.gl
noncomputable abbrev nsCV : Names := [("self", .local), ("value", .local), ("name", .local), ("regex", .local)]
theorem kw1 {im : PM} {x : String} {q : PV} {kvs : List (Str × Value)} (h : KwR im [(x, q)] kvs) : ∃ v, kvs = [(Str.ofString x, v)] ∧ VR im q v := by
  obtain ⟨h1, h2⟩ := h
  obtain ⟨v, rfl⟩ := kvs1 h1
  obtain ⟨v', e, hv⟩ := one_v h2
  injection e with e _
  subst e
  exact ⟨v, rfl, hv⟩
set_option maxHeartbeats 4000000 in
theorem conv_spec {C : Cx} {p : Params} {n : Nat} {cN cV : Array Nat} (K : HdrK C p cN cV) {me : PV} {l : List Nat} {b : Bool} (hm : missB (if b then cN else cV) l = true) (hz : l.length ≤ 1000) :
    FnSpec C (n + 1) (.ref aM__convert_string_type) [me, .str l] [("name", .bool b)] [] (fun r σ' => r = .str l ∧ σ' = []) := by
  have hg : Sub [("type", .con (.type "type")), ("str", .con (.type "str")), ("_name_disallowed_re", .con (.ref aG__name_disallowed_re)), ("_value_disallowed_re", .con (.ref aG__value_disallowed_re))] C.gl :=
    .cons (K.gl _ (by walk_at "zm")) (.cons (K.gl _ (by walk_at "zm")) (.cons (K.gl _ (by walk_at "zm")) (.cons (K.gl _ (by walk_at "zm")) .nil)))
  refine FnSpec.of (body := ?bd) ["self", "value", "name"] [me, .str l, .bool b] nsCV [] [("type", .con (.type "type")), ("str", .con (.type "str")), ("_name_disallowed_re", .con (.ref aG__name_disallowed_re)), ("_value_disallowed_re", .con (.ref aG__value_disallowed_re))] (sc := ?sc) K.conv ?hb ?hsc ?hgl ?hbi ?hcl ?hok hg rfl ?_ ?_
  case hb => with_unfolding_all rfl
  case hsc => with_unfolding_all rfl
  case hgl => with_unfolding_all rfl
  case hbi => with_unfolding_all rfl
  case hcl => with_unfolding_all rfl
  case hok => kernel_rfl
  · intro im s vs kvs hk hv hkw
    obtain ⟨v, w, rfl, h1, h2⟩ := two_v hv
    obtain ⟨x, rfl, h3⟩ := kw1 hkw
    have e : bindArgs (fdOf p aM__convert_string_type) ⟨[v, w], [(Str.ofString "name", x)]⟩ = pure ((["self", "value", "name"].map Str.ofString).zip [v, w, x]) := by kernel_rfl
    refine ⟨[v, w, x], .cons h1 (.cons h2 (.cons h3 .nil)), ?_⟩
    intro M A E Q h
    rw [e]
    exact wpAny_pure h
  · intro env κ
    show Ex _ _ [("type", .con (.type "type")), ("str", .con (.type "str")), ("_name_disallowed_re", .con (.ref aG__name_disallowed_re)), ("_value_disallowed_re", .con (.ref aG__value_disallowed_re)), ("self", me), ("value", .str l), ("name", .bool b)] _ _
    refine Ex.cons <| Ex1.if <| Ts.compare <| Ev.call (by walk_at "zm") <| EvL.cons <| Ev.name (by walk_at "zm") <| EvL.nil <| CallP.typeStr <| Ev.name (by walk_at "zm") <| Op2.isType <| TrueOf.bool ?_
    rw [show (Value.type "str" == Value.type "str") = true from by decide]
    show Ex _ _ _ _ _
    cases b with
    | true =>
      refine Ex.cons <| Ex1.asg <| Ev.ifexp <| Ts.plain <| Ev.name (by walk_at "zm") <| TrueOf.bool ?_
      show Ev _ _ _ _ _
      refine Ev.name (by walk_at "zm") <| As.name (by walk_at "zm") (by walk_at "zs") ?_
      refine Ex.cons <| Ex1.if <| Ts.plain <| Ev.meth <| Ev.name (by walk_at "zm") ⟨_, _, MethP.search K.reN, EvL.cons <| Ev.name (by walk_at "zm") <| EvL.nil <| CallP.search K.reN hm (by walk_at "zo") <| TrueOf.none ?_⟩
      show Ex _ _ _ _ _
      refine Ex.nil ?_
      refine Ex.cons <| Ex1.ret <| Ev.name (by walk_at "zm") ⟨rfl, rfl⟩
    | false =>
      refine Ex.cons <| Ex1.asg <| Ev.ifexp <| Ts.plain <| Ev.name (by walk_at "zm") <| TrueOf.bool ?_
      show Ev _ _ _ _ _
      refine Ev.name (by walk_at "zm") <| As.name (by walk_at "zm") (by walk_at "zs") ?_
      refine Ex.cons <| Ex1.if <| Ts.plain <| Ev.meth <| Ev.name (by walk_at "zm") ⟨_, _, MethP.search K.reV, EvL.cons <| Ev.name (by walk_at "zm") <| EvL.nil <| CallP.search K.reV hm (by walk_at "zo") <| TrueOf.none ?_⟩
      show Ex _ _ _ _ _
      refine Ex.nil ?_
      refine Ex.cons <| Ex1.ret <| Ev.name (by walk_at "zm") ⟨rfl, rfl⟩
end Mine.Tactic
end
section
open PySem PySem.W PyProof.Rows PySem.Calls
set_option Elab.async false
set_option maxRecDepth 100000
namespace Mine.Tactic
theorem binds_lit {s : Shared} {fd lit : FuncData} {args : Args} {b : List (Str × Value)} (e : fd = lit) (h : BindsTo s lit args b) : BindsTo s fd args b := e ▸ h

noncomputable abbrev Hdrs := List (List Nat × List Nat)
noncomputable def hdrP (h : List Nat × List Nat) : PV := .tup [.str h.1, .str h.2]
structure NamesOk (cN cV : Array Nat) (N V : List Nat → Prop) (low : List Nat → List Nat) : Prop where
  low : ∀ k, N k → Txt.lower (S k) = S (low k) ∧ k.length ≤ 1000 ∧ (low k).length ≤ 1000 ∧ missB cN k = true ∧ missB cN (low k) = true
  val : ∀ v, V v → v.length ≤ 1000 ∧ missB cV v = true
noncomputable abbrev hdO (L : Addr) : PV := .obj aG_Headers [("_headers", .ref L)]
noncomputable def getAll (low : List Nat → List Nat) (hs : Hdrs) (key : List Nat) : List (List Nat) := (hs.filter fun h => low h.1 == key).map (·.2)
noncomputable def allF (low : List Nat → List Nat) (key : List Nat) : PV → List PV
  | .tup [.str a, .str b] => if low a == key then [.str b] else []
  | _ => []
theorem allF_eq (low : List Nat → List Nat) (key : List Nat) : ∀ hs : Hdrs, (hs.map hdrP).flatMap (allF low key) = (getAll low hs key).map .str
  | [] => rfl
  | h :: hs => by
    rw [List.map_cons, List.flatMap_cons, allF_eq low key hs]
    show (if low h.1 == key then [PV.str h.2] else []) ++ _ = _
    unfold getAll
    cases e : low h.1 == key with
    | true => rw [List.filter_cons_of_pos (by rw [e])]; rfl
    | false => rw [List.filter_cons_of_neg (by rw [e]; decide)]; rfl
theorem getAll_len (low : List Nat → List Nat) (hs : Hdrs) (key : List Nat) : (getAll low hs key).length ≤ hs.length := by unfold getAll; rw [List.length_map]; exact List.length_filter_le _ _
noncomputable abbrev nsGA : Names := [("self", .local), ("name", .cell)]
set_option maxHeartbeats 4000000 in
theorem all_spec {C : Cx} {p : Params} {n : Nat} {cN cV : Array Nat} {N V : List Nat → Prop} {low : List Nat → List Nat} (K : HdrK C p cN cV) (O : NamesOk cN cV N V low) {L : Addr} {hs : Hdrs} {x : List Nat} (hx : N x) (hN : ∀ h ∈ hs, N h.1) (hz : hs.length ≤ 1000) :
    FnSpec C (n + 2) (.ref aM_get_all) [hdO L, .str x] [] [(L, .list (hs.map hdrP))] (fun r σ' => r = .lst ((getAll low hs (low x)).map .str) ∧ σ' = [(L, .list (hs.map hdrP))]) := by
  refine FnSpec.of (body := ?bd) ["self", "name"] [hdO L, .str x] nsGA ["name"] [] (sc := ?sc) K.all ?hb ?hsc ?hgl ?hbi ?hcl ?hok (fun p hp => nomatch hp) rfl ?_ ?_
  case hb => with_unfolding_all rfl
  case hsc => with_unfolding_all rfl
  case hgl => with_unfolding_all rfl
  case hbi => with_unfolding_all rfl
  case hcl => with_unfolding_all rfl
  case hok => kernel_rfl
  · intro im s vs kvs hk hv hkw
    obtain ⟨v, w, rfl, h1, h2⟩ := two_v hv
    have : kvs = [] := by have := hkw.1; simpa using this
    subst this
    have e : bindArgs (fdOf p aM_get_all) ⟨[v, w], []⟩ = pure ((["self", "name"].map Str.ofString).zip [v, w]) := by kernel_rfl
    refine ⟨[v, w], hv, ?_⟩
    intro M A E Q h
    rw [e]
    exact wpAny_pure h
  · intro env κ
    obtain ⟨o1, o2, o3, o4, o5⟩ := O.low x hx
    show Ex _ _ [("self", hdO L), ("name", .str x)] _ _
    refine Ex.cons <| Ex1.asg <| Ev.methK ["name"] <| Ev.name (by walk_at "zm") ⟨_, _, MethP.obj K.cls K.fconv K.tconv (by decide), EvL.cons <| Ev.meth <| Ev.name (by walk_at "zm") ⟨_, _, MethP.str F.slot_str_lower F.type_str_lower, EvL.nil <| CallP.lower o1 (by walk_at "zo") <| EvL.nil <| EvK.cons <| Ev.bool <| EvK.nil ⟨rfl, CallP.of (φ := [(L, .list (hs.map hdrP))]) (conv_spec K (b := true) o5 (by walk_at "zo")) (by simp) (.inr (by simp)) ?_⟩⟩⟩
    rintro r σ' ⟨rfl, rfl⟩
    refine As.nameC (by walk_at "zm") (by walk_at "zs") ?_
    refine Ex.cons <| Ex1.ret <| Ev.comp (hsc := ?hsc) <| Ev.attr <| Ev.name (by walk_at "zm") <| Op1.field K.cls K.fhd rfl ⟨[(L, .list (hs.map hdrP))], [(L, .list (hs.map hdrP))], [], _, [("kv", .local)], [], [("name", .str (low x))], [], ItSrc.led, fun _ h => h, .inr rfl, by simp, ?hck, ?hrc, (fun _ h => nomatch h), ?_⟩
    case hsc => kernel_rfl
    case hck => kernel_rfl
    case hrc => exact Sub.cons (by walk_at "zm") .nil
    intro env' κ'
    refine compItems.fm (compInner_mono []) [("name", .str (low x))] (allF low (low x)) 1000 _ [] _ ?_ (.cons (by walk_at "zm") .nil) ?_ ?_
    · intro q hq acc ρ hacc hs'
      obtain ⟨h, hh, rfl⟩ := List.mem_map.mp hq
      obtain ⟨l1, l2, l3, l4, l5⟩ := O.low h.1 (hN h hh)
      refine Con.rho2 ["name"] hs' ?_
      refine As.name (p := .tup [.str h.1, .str h.2]) (by walk_at "zm") (by walk_at "zs") ?_
      refine Ts.compare <| Ev.meth <| Ev.sub <| Ev.name (by walk_at "zm") <| Ev.int <| Op2.fst ⟨_, _, MethP.str F.slot_str_lower F.type_str_lower, EvL.nil <| CallP.lower l1 (by walk_at "zo") <| Ev.name (by walk_at "zm") <| Op2.eqS <| TrueOf.bool ?_⟩
      have ef : allF low (low x) (hdrP h) = if low h.1 == low x then [.str h.2] else [] := rfl
      refine ite_b (fun hl => ?_) (fun hl => ?_)
      · rw [hl, if_pos rfl] at ef
        show compInner _ _ _ _ _ _ _
        refine Ev.sub <| Ev.name (by walk_at "zm") <| Ev.int <| Op2.snd ⟨by walk_at "zo", by rw [ef], rfl, .cons (by walk_at "zm") .nil⟩
      · rw [hl, if_neg (by decide)] at ef
        exact ⟨ef, rfl, .cons (by walk_at "zm") .nil⟩
    · rw [allF_eq, List.nil_append, List.length_map]; exact Nat.le_trans (getAll_len ..) hz
    · intro ρ _
      exact ⟨by rw [allF_eq]; rfl, rfl⟩
noncomputable abbrev nsIT : Names := [("self", .local)]
set_option maxHeartbeats 4000000 in
theorem items_spec {C : Cx} {p : Params} {n : Nat} {cN cV : Array Nat} (K : HdrK C p cN cV) {L : Addr} {l : List PV} (hz : l.length ≤ 1000) :
    FnSpec C (n + 1) (.ref aM_items) [hdO L] [] [(L, .list l)] (fun r σ' => r = .lst l ∧ σ' = [(L, .list l)]) := by
  refine FnSpec.of (body := ?bd) ["self"] [hdO L] nsIT [] [] (sc := ?sc) K.items ?hb ?hsc ?hgl ?hbi ?hcl ?hok (fun p hp => nomatch hp) rfl ?_ ?_
  case hb => with_unfolding_all rfl
  case hsc => with_unfolding_all rfl
  case hgl => with_unfolding_all rfl
  case hbi => with_unfolding_all rfl
  case hcl => with_unfolding_all rfl
  case hok => kernel_rfl
  · intro im s vs kvs hk hv hkw
    obtain ⟨v, rfl, h1⟩ := one_v hv
    have : kvs = [] := by have := hkw.1; simpa using this
    subst this
    have e : bindArgs (fdOf p aM_items) ⟨[v], []⟩ = pure ((["self"].map Str.ofString).zip [v]) := by kernel_rfl
    refine ⟨[v], hv, ?_⟩
    intro M A E Q h
    rw [e]
    exact wpAny_pure h
  · intro env κ
    show Ex _ _ [("self", hdO L)] _ _
    have e : Mine.Tactic.pySl l none none = l := by
      unfold Mine.Tactic.pySl
      show (List.drop 0 l).take (l.length - 0) = l
      simp
    refine Ex.cons <| Ex1.ret <| Ev.slice <| Ev.attr <| Ev.name (by walk_at "zm") <| Op1.field K.cls K.fhd rfl <| SliceP.led (by walk_at "zm") (by walk_at "zo") ?_
    exact ⟨by rw [e], rfl⟩
end Mine.Tactic
end
section
open PySem PySem.W PyProof.Rows PySem.Calls
set_option Elab.async false
set_option maxRecDepth 100000
namespace Mine.Tactic
noncomputable abbrev nsIN : Names := [("self", .local), ("headers", .local), ("k", .local), ("v", .local)]
set_option maxHeartbeats 4000000 in
theorem init_spec {C : Cx} {p : Params} {n : Nat} {cN cV : Array Nat} (K : HdrK C p cN cV) (hd : C.K.lookup aD___init__ = some (tupO [.none] 0)) {x d : Addr} :
    FnSpec C (n + 1) (.ref aM___init__) [.ref x] [] [(x, .ins aG_Headers d), (d, .att [])] (fun r σ' => r = .none ∧ ∃ l σ'', σ' = (x, .ins aG_Headers d) :: (d, .att l) :: σ'' ∧ ∃ D, l = [("_headers", .ref D)] ∧ σ'' = [(D, .list [])]) := by
  have hg : Sub [("type", .con (.type "type")), ("list", .con (.type "list"))] C.gl := .cons (K.gl _ (by walk_at "zm")) (.cons (K.gl _ (by walk_at "zm")) .nil)
  refine FnSpec.of (body := ?bd) ["self", "headers"] [.ref x, .none] nsIN [] [("type", .con (.type "type")), ("list", .con (.type "list"))] (sc := ?sc) K.init ?hb ?hsc ?hgl ?hbi ?hcl ?hok hg rfl ?_ ?_
  case hb => with_unfolding_all rfl
  case hsc => with_unfolding_all rfl
  case hgl => with_unfolding_all rfl
  case hbi => with_unfolding_all rfl
  case hcl => with_unfolding_all rfl
  case hok => kernel_rfl
  · intro im s vs kvs hk hv hkw
    obtain ⟨v, rfl, h1⟩ := one_v hv
    have : kvs = [] := by have := hkw.1; simpa using this
    subst this
    refine ⟨[v, .none], .cons h1 (.cons .none .nil), ?_⟩
    refine binds_lit (lit := ?lit) ?e ?_
    case e => with_unfolding_all rfl
    refine BindsTo.of_defaults (k := ?k) rfl (hk _ _ hd) rfl ?h1 ?h2
    case h1 => rfl
    case h2 => kernel_rfl
  · intro env κ
    show Ex _ _ [("type", .con (.type "type")), ("list", .con (.type "list")), ("self", .ref x), ("headers", .none)] _ _
    refine Ex.cons <| Ex1.asg <| Ev.ifexp <| Ts.compare <| Ev.name (by walk_at "zm") <| Ev.none <| Op2.isNotNone nn_none <| TrueOf.bool ?_
    show Ev _ _ _ _ _
    refine Ev.listM <| EvL.nil ⟨by simp, fun D => As.name (by walk_at "zm") (by walk_at "zs") ?_⟩
    refine Ex.cons <| Ex1.if <| Ts.compare <| Ev.call (by walk_at "zm") <| EvL.cons <| Ev.name (by walk_at "zm") <| EvL.nil <| CallP.typeLed (by walk_at "zm") <| Ev.name (by walk_at "zm") <| Op2.isNotType <| TrueOf.bool ?_
    rw [show (!(Value.type "list" == Value.type "list")) = false from by decide]
    show Ex _ _ _ _ _
    refine Ex.nil ?_
    refine Ex.cons <| Ex1.setField <| Ev.name (by walk_at "zm") <| Ev.name (by walk_at "zm") ⟨aG_Headers, x, d, _, rfl, K.cls, K.ftk, by walk_at "zm", .tail (.tail .head), ?_⟩
    refine Ex.cons <| Ex1.if <| Ts.plain <| Ev.bool <| TrueOf.bool ?_
    show Ex _ _ _ _ _
    refine Ex.cons <| Ex1.for <| Ev.name (by walk_at "zm") ⟨[(D, .list [])], [(D, .list [])], [(x, .ins aG_Headers d), (d, .att [("_headers", .ref D)])], [], ItSrc.led, fun _ h => h, .inr rfl, by simp, ?_⟩
    refine Ex.nil ?_
    refine Tr.led (σ' := [(x, .ins aG_Headers d), (d, .att [("_headers", .ref D)]), (D, .list [])]) (by intro q hq; simp at hq ⊢; rcases hq with h | h | h <;> simp [h]) (fun hn => ?_) ?_
    · have e : ([(x, LO.ins aG_Headers d), (d, .att [("_headers", .ref D)]), (D, .list [])].map (·.1)) = [x, d, D] := rfl
      have e2 : (([(D, LO.list [])] ++ [(x, LO.ins aG_Headers d), (d, .att [("_headers", .ref D)])]).map (·.1)) = [D, x, d] := rfl
      rw [e2] at hn
      rw [e]
      simp at hn ⊢
      exact ⟨⟨hn.2, Ne.symm hn.1.1⟩, Ne.symm hn.1.2⟩
    · exact Ex.nil ⟨rfl, _, _, rfl, D, rfl, rfl⟩
theorem new_spec {C : Cx} {p : Params} {n : Nat} {cN cV : Array Nat} (K : HdrK C p cN cV) (hd : C.K.lookup aD___init__ = some (tupO [.none] 0)) :
    FnSpec C (n + 2) (.ref aG_Headers) [] [] [] (fun r σ' => ∃ D, r = hdO D ∧ σ' = [(D, .list [])]) :=
  FnSpec.make K.cls K.finit K.tinit K.keep fun x d => FnSpec.mono (init_spec (n := n) K hd) fun r σ' ⟨h1, l, σ'', h2, D, h3, h4⟩ => ⟨h1, l, σ'', h2, D, by rw [h3], h4⟩
noncomputable abbrev nsAH : Names := [("self", .local), ("_name", .local), ("_value", .local), ("_params", .local), ("parts", .local), ("k", .local), ("v", .local)]
set_option maxHeartbeats 4000000 in
theorem add_spec {C : Cx} {p : Params} {n : Nat} {cN cV : Array Nat} {N V : List Nat → Prop} {low : List Nat → List Nat} (K : HdrK C p cN cV) (O : NamesOk cN cV N V low) {L : Addr} {hs : Hdrs} {x v : List Nat} (hx : N x) (hv : V v) (hz : hs.length ≤ 1000) :
    FnSpec C (n + 2) (.ref aM_add_header) [hdO L, .str x, .str v] [] [(L, .list (hs.map hdrP))] (fun r σ' => r = .none ∧ σ' = [(L, .list ((hs ++ [(x, v)]).map hdrP))]) := by
  obtain ⟨o1, o2, o3, o4, o5⟩ := O.low x hx
  obtain ⟨w1, w2⟩ := O.val v hv
  refine FnSpec.ofKw (body := ?bd) ["self", "_name", "_value"] "_params" nsAH [] [] (sc := ?sc) K.add ?hb ?hsc ?hgl ?hbi ?hcl ?hok (fun p hp => nomatch hp) rfl ?hbind K.o3 ?_
  case hb => with_unfolding_all rfl
  case hsc => with_unfolding_all rfl
  case hgl => with_unfolding_all rfl
  case hbi => with_unfolding_all rfl
  case hcl => with_unfolding_all rfl
  case hok => kernel_rfl
  case hbind =>
    intro vs hvs
    obtain ⟨a, b, c, rfl⟩ := len3 hvs
    kernel_rfl
  intro env κ D hD
  show Ex _ _ [("self", hdO L), ("_name", .str x), ("_value", .str v), ("_params", .ref D)] _ _
  refine Ex.cons <| Ex1.asg <| Ev.listM <| EvL.nil ⟨by simp, fun R => As.name (by walk_at "zm") (by walk_at "zs") ?_⟩
  refine Ex.cons <| Ex1.if <| Ts.compare <| Ev.name (by walk_at "zm") <| Ev.none <| Op2.isNotNone nn_str <| TrueOf.bool ?_
  show Ex _ _ _ _ _
  refine Ex.cons <| Ex1.asg <| Ev.methK ["name"] <| Ev.name (by walk_at "zm") ⟨_, _, MethP.obj K.cls K.fconv K.tconv (by decide), EvL.cons <| Ev.name (by walk_at "zm") <| EvL.nil <| EvK.cons <| Ev.bool <| EvK.nil ⟨rfl, CallP.of (φ := [(R, .list []), (D, .att []), (L, .list (hs.map hdrP))]) (conv_spec K (b := false) w2 (by walk_at "zo")) (by simp) (.inr (by simp)) ?_⟩⟩
  rintro r σ' ⟨rfl, rfl⟩
  refine As.name (by walk_at "zm") (by walk_at "zs") ?_
  refine Ex.cons <| Ex1.expr <| Ev.meth <| Ev.name (by walk_at "zm") ⟨_, _, MethP.led (by walk_at "zm") F.slot_list_append F.type_list_append, EvL.cons <| Ev.name (by walk_at "zm") <| EvL.nil <| CallP.append .head (by simp) ⟨rfl, ?_⟩⟩
  refine Ex.nil ?_
  have hjl : ([v].map List.length).sum + [v].length * (cs "; ").length ≤ 16777216 := by rw [show (cs "; ").length = 2 by decide]; simp; walk_at "zo"
  refine Tr.nd fun hnd => ?_
  have hnd' : R ≠ D ∧ R ≠ L ∧ D ≠ L := by simpa [and_assoc] using hnd
  refine Ex.cons <| Ex1.for <| Ev.meth <| Ev.name (by walk_at "zm") ⟨_, _, MethP.att (by walk_at "zm") F.slot_dict_items F.type_dict_items, EvL.nil <| CallP.items0 (by walk_at "zm") (h := ?_) (hD := hD)⟩
  refine ⟨[(D, .att [])], [(D, .att [])], [(R, .list [.str v]), (L, .list (hs.map hdrP))], [], ItSrc.items0, ?_, .inl ?_, by simp, ?_⟩
  · intro q hq; simp at hq ⊢; rcases hq with h | h | h <;> simp [h]
  · simpa [and_assoc] using ⟨Ne.symm hnd'.1, hnd'.2.2, hnd'.2.1⟩
  show Ex _ _ _ _ _
  refine Ex.cons <| Ex1.expr <| Ev.meth <| Ev.attr <| Ev.name (by walk_at "zm") <| Op1.field K.cls K.fhd rfl ⟨_, _, MethP.led (by walk_at "zm") F.slot_list_append F.type_list_append, EvL.cons <| Ev.tuple <| EvL.cons <| Ev.methK ["name"] <| Ev.name (by walk_at "zm") ⟨_, _, MethP.obj K.cls K.fconv K.tconv (by decide), EvL.cons <| Ev.name (by walk_at "zm") <| EvL.nil <| EvK.cons <| Ev.bool <| EvK.nil ⟨rfl, CallP.of (φ := [(D, .att []), (R, .list [.str v]), (L, .list (hs.map hdrP))]) (conv_spec K (b := true) o4 (by walk_at "zo")) (by simp) (.inr (by simp)) ?_⟩⟩⟩
  rintro r σ' ⟨rfl, rfl⟩
  refine EvL.cons <| Ev.meth <| Ev.str ⟨_, _, MethP.str F.slot_str_join F.type_str_join, EvL.cons <| Ev.name (by walk_at "zm") <| EvL.nil <| CallP.joinM (ls := [v]) (by walk_at "zm") rfl hjl ?_⟩
  refine EvL.nil ⟨by simp, EvL.nil <| CallP.append (.tail (.tail .head)) (by rw [List.length_map]; walk_at "zo") ⟨rfl, ?_⟩⟩
  refine Tr.led (σ' := [(L, .list (hs.map hdrP ++ [.tup [.str x, .str (pyJoin (cs "; ") [v])]]))]) (by intro q hq; simp at hq ⊢; simp [hq]) (fun _ => by simp) ?_
  refine Ex.nil ⟨rfl, ?_⟩
  rw [List.map_append]; rfl
end Mine.Tactic
end
local macro_rules | `(tactic| walk_at "zb") => `(tactic| repeat (first | exact Mine.Tactic.Sub.nil | refine Mine.Tactic.Sub.cons (by walk_at "zm") ?_))
local macro_rules | `(tactic| walk_at "zl") => `(tactic| repeat (first | exact List.forall_mem_nil _ | refine List.forall_mem_cons.mpr ⟨by walk_at "zm", ?_⟩))
local macro_rules | `(tactic| walk_at "ze") => `(tactic| repeat (first | exact List.not_mem_nil | refine List.not_mem_cons_of_ne_of_not_mem (by first | assumption | exact Ne.symm (by assumption)) ?_))
local macro_rules | `(tactic| walk_at "zn") => `(tactic| repeat (first | exact List.nodup_nil | refine List.nodup_cons.mpr ⟨by walk_at "ze", ?_⟩))
section
open PySem PySem.W PyProof.Rows PySem.Calls
set_option Elab.async false
set_option maxRecDepth 100000
namespace Mine.Tactic
structure HdrK2 (C : Cx) (p : Params) : Prop where
  fdel : findIn C.K (.ref aG_Headers) "__delitem__" = some (some (.ref aM___delitem__))
  tdel : typeIn C.K (.ref aM___delitem__) = some (.type "function")
  pdel : peek C.K ⟨C.prog, C.w.params⟩ (seqItemTypes.anyM fun n => isSubtype (.ref aG_Headers) (.type n)) = some false
  fkeys : findIn C.K (.ref aG_Headers) (Str.ofString "keys") = some (some (.ref aM_keys))
  tkeys : typeIn C.K (.ref aM_keys) = some (.type "function")
  del : FnAt C aM___delitem__ (fdOf p aM___delitem__)
  keys : FnAt C aM_keys (fdOf p aM_keys)
noncomputable def delH (low : List Nat → List Nat) (hs : Hdrs) (key : List Nat) : Hdrs := hs.filter fun h => low h.1 != key
noncomputable abbrev nsDE : Names := [("self", .local), ("name", .cell)]
set_option maxHeartbeats 4000000 in
theorem del_spec {C : Cx} {p : Params} {n : Nat} {cN cV : Array Nat} {N V : List Nat → Prop} {low : List Nat → List Nat} (K : HdrK C p cN cV) (K2 : HdrK2 C p) (O : NamesOk cN cV N V low) {L : Addr} {hs : Hdrs} {x : List Nat} (hx : N x) (hN : ∀ h ∈ hs, N h.1) (hz : hs.length ≤ 1000) :
    FnSpec C (n + 2) (.ref aM___delitem__) [hdO L, .str x] [] [(L, .list (hs.map hdrP))] (fun r σ' => σ' = [(L, .list ((delH low hs (low x)).map hdrP))]) := by
  refine FnSpec.of (body := ?bd) ["self", "name"] [hdO L, .str x] nsDE ["name"] [] (sc := ?sc) K2.del ?hb ?hsc ?hgl ?hbi ?hcl ?hok (fun p hp => nomatch hp) rfl ?_ ?_
  case hb => with_unfolding_all rfl
  case hsc => with_unfolding_all rfl
  case hgl => with_unfolding_all rfl
  case hbi => with_unfolding_all rfl
  case hcl => with_unfolding_all rfl
  case hok => kernel_rfl
  · intro im s vs kvs hk hv hkw
    obtain ⟨v, w, rfl, h1, h2⟩ := two_v hv
    have : kvs = [] := by have := hkw.1; simpa using this
    subst this
    have e : bindArgs (fdOf p aM___delitem__) ⟨[v, w], []⟩ = pure ((["self", "name"].map Str.ofString).zip [v, w]) := by kernel_rfl
    refine ⟨[v, w], hv, ?_⟩
    intro M A E Q h
    rw [e]
    exact wpAny_pure h
  · intro env κ
    obtain ⟨o1, o2, o3, o4, o5⟩ := O.low x hx
    show Ex _ _ [("self", hdO L), ("name", .str x)] _ _
    refine Ex.cons <| Ex1.asg <| Ev.methK ["name"] <| Ev.name (by walk_at "zm") ⟨_, _, MethP.obj K.cls K.fconv K.tconv (by decide), EvL.cons <| Ev.meth <| Ev.name (by walk_at "zm") ⟨_, _, MethP.str F.slot_str_lower F.type_str_lower, EvL.nil <| CallP.lower o1 (by walk_at "zo") <| EvL.nil <| EvK.cons <| Ev.bool <| EvK.nil ⟨rfl, CallP.of (φ := [(L, .list (hs.map hdrP))]) (conv_spec K (b := true) o5 (by walk_at "zo")) (by simp) (.inr (by simp)) ?_⟩⟩⟩
    rintro r σ' ⟨rfl, rfl⟩
    refine As.nameC (by walk_at "zm") (by walk_at "zs") ?_
    refine Ex.cons <| Ex1.setItem <| Ev.comp (hsc := ?hsc) <| Ev.attr <| Ev.name (by walk_at "zm") <| Op1.field K.cls K.fhd rfl ⟨[(L, .list (hs.map hdrP))], [(L, .list (hs.map hdrP))], [], _, [("kv", .local)], [], [("name", .str (low x))], [], ItSrc.led, fun _ h => h, .inr rfl, by simp, ?hck, ?hrc, (fun _ h => nomatch h), ?_⟩
    case hsc => kernel_rfl
    case hck => kernel_rfl
    case hrc => walk_at "zb"
    intro env' κ'
    refine compItems.fa (compInner_mono _) [("name", .str (low x))] hdrP (fun h => itIf (low h.1 != low x) (hdrP h)) 1000 hs [] _ ?_ (by walk_at "zb") ?_ ?_
    · intro h hh acc ρ hacc hs'
      obtain ⟨l1, l2, l3, l4, l5⟩ := O.low h.1 (hN h hh)
      refine Con.rho2 ["name"] hs' ?_
      refine As.name (p := .tup [.str h.1, .str h.2]) (by walk_at "zm") (by walk_at "zs") ?_
      refine Ts.compare <| Ev.meth <| Ev.sub <| Ev.name (by walk_at "zm") <| Ev.int <| Op2.fst ⟨_, _, MethP.str F.slot_str_lower F.type_str_lower, EvL.nil <| CallP.lower l1 (by walk_at "zo") <| Ev.name (by walk_at "zm") <| Op2.neS <| TrueOf.bool ?_⟩
      refine ite_b (fun hl => ?_) (fun hl => ?_)
      · show compInner _ _ _ _ _ _ _
        exact Ev.name (by walk_at "zm") ⟨by walk_at "zo", by rw [hl]; rfl, rfl, by walk_at "zb"⟩
      · exact ⟨by rw [hl]; rfl, rfl, by walk_at "zb"⟩
    · rw [flat_if, List.nil_append]; exact Nat.le_trans (if_len _ _ _) hz
    intro ρ _
    rw [flat_if, List.nil_append]
    have hfl := if_len (fun h => low h.1 != low x) hdrP hs
    refine Ev.attr <| Ev.name (by walk_at "zm") <| Op1.field K.cls K.fhd rfl <| Ev.sliceAll <| SetP.all .head (by rw [List.length_map]; walk_at "zo") ?_
    exact Ex.nil rfl
noncomputable abbrev nsKE : Names := [("self", .local)]
set_option maxHeartbeats 4000000 in
theorem keys_spec {C : Cx} {p : Params} {n : Nat} {cN cV : Array Nat} (K : HdrK C p cN cV) (K2 : HdrK2 C p) {L : Addr} {hs : Hdrs} (hz : hs.length ≤ 1000) :
    FnSpec C (n + 1) (.ref aM_keys) [hdO L] [] [(L, .list (hs.map hdrP))] (fun r σ' => r = .lst ((hs.map (·.1)).map .str) ∧ σ' = [(L, .list (hs.map hdrP))]) := by
  refine FnSpec.of (body := ?bd) ["self"] [hdO L] nsKE [] [] (sc := ?sc) K2.keys ?hb ?hsc ?hgl ?hbi ?hcl ?hok (fun p hp => nomatch hp) rfl ?_ ?_
  case hb => with_unfolding_all rfl
  case hsc => with_unfolding_all rfl
  case hgl => with_unfolding_all rfl
  case hbi => with_unfolding_all rfl
  case hcl => with_unfolding_all rfl
  case hok => kernel_rfl
  · intro im s vs kvs hk hv hkw
    obtain ⟨v, rfl, h1⟩ := one_v hv
    have : kvs = [] := by have := hkw.1; simpa using this
    subst this
    have e : bindArgs (fdOf p aM_keys) ⟨[v], []⟩ = pure ((["self"].map Str.ofString).zip [v]) := by kernel_rfl
    refine ⟨[v], hv, ?_⟩
    intro M A E Q h
    rw [e]
    exact wpAny_pure h
  · intro env κ
    show Ex _ _ [("self", hdO L)] _ _
    refine Ex.cons <| Ex1.ret <| Ev.comp (hsc := ?hsc) <| Ev.attr <| Ev.name (by walk_at "zm") <| Op1.field K.cls K.fhd rfl ⟨[(L, .list (hs.map hdrP))], [(L, .list (hs.map hdrP))], [], _, [("k", .local), ("v", .local)], [], [], [], ItSrc.led, fun _ h => h, .inr rfl, by simp, ?hck, (fun _ h => nomatch h), (fun _ h => nomatch h), ?_⟩
    case hsc => kernel_rfl
    case hck => kernel_rfl
    intro env' κ'
    refine compItems.fa (compInner_mono _) [] hdrP (fun h => [.str h.1]) 1000 hs [] _ ?_ Sub.nil ?_ ?_
    · intro h hh acc ρ hacc hs'
      refine Con.rho2 [] hs' ?_
      refine As.tup (ps := [.str h.1, .str h.2]) (As.name (by walk_at "zm") (by walk_at "zs") <| As.name (by walk_at "zm") (by walk_at "zs") ?_) rfl rfl
      show compInner _ _ _ _ _ _ _
      exact Ev.name (by walk_at "zm") ⟨by walk_at "zo", rfl, rfl, Sub.nil⟩
    · rw [flat_one, List.nil_append, List.length_map]; exact hz
    · intro ρ _
      rw [flat_one, List.nil_append]
      exact ⟨by rw [List.map_map]; rfl, rfl⟩
set_option maxHeartbeats 4000000 in
theorem init2_spec {C : Cx} {p : Params} {n : Nat} {cN cV : Array Nat} {N V : List Nat → Prop} {low : List Nat → List Nat} (K : HdrK C p cN cV) (O : NamesOk cN cV N V low) (hd : C.K.lookup aD___init__ = some (tupO [.none] 0)) {x d D : Addr} {hs : Hdrs} (hN : ∀ h ∈ hs, N h.1) (hV : ∀ h ∈ hs, V h.2) :
    FnSpec C (n + 2) (.ref aM___init__) [.ref x, .ref D] [] [(x, .ins aG_Headers d), (d, .att []), (D, .list (hs.map hdrP))] (fun r σ' => r = .none ∧ ∃ l σ'', σ' = (x, .ins aG_Headers d) :: (d, .att l) :: σ'' ∧ l = [("_headers", .ref D)] ∧ σ'' = [(D, .list (hs.map hdrP))]) := by
  have hg : Sub [("type", .con (.type "type")), ("list", .con (.type "list"))] C.gl := .cons (K.gl _ (by walk_at "zm")) (.cons (K.gl _ (by walk_at "zm")) .nil)
  refine FnSpec.of (body := ?bd) ["self", "headers"] [.ref x, .ref D] nsIN [] [("type", .con (.type "type")), ("list", .con (.type "list"))] (sc := ?sc) K.init ?hb ?hsc ?hgl ?hbi ?hcl ?hok hg rfl ?_ ?_
  case hb => with_unfolding_all rfl
  case hsc => with_unfolding_all rfl
  case hgl => with_unfolding_all rfl
  case hbi => with_unfolding_all rfl
  case hcl => with_unfolding_all rfl
  case hok => kernel_rfl
  · intro im s vs kvs hk hv hkw
    obtain ⟨v, w, rfl, h1, h2⟩ := two_v hv
    have : kvs = [] := by have := hkw.1; simpa using this
    subst this
    refine ⟨[v, w], hv, ?_⟩
    refine binds_lit (lit := ?lit) ?e ?_
    case e => with_unfolding_all rfl
    refine BindsTo.of_defaults (k := ?k) rfl (hk _ _ hd) rfl ?h1 ?h2
    case h1 => rfl
    case h2 => kernel_rfl
  · intro env κ
    show Ex _ _ [("type", .con (.type "type")), ("list", .con (.type "list")), ("self", .ref x), ("headers", .ref D)] _ _
    refine Ex.cons <| Ex1.asg <| Ev.ifexp <| Ts.compare <| Ev.name (by walk_at "zm") <| Ev.none <| Op2.isNotNone nn_ref <| TrueOf.bool ?_
    show Ev _ _ _ _ _
    refine Ev.name (by walk_at "zm") <| As.name (by walk_at "zm") (by walk_at "zs") ?_
    refine Ex.cons <| Ex1.if <| Ts.compare <| Ev.call (by walk_at "zm") <| EvL.cons <| Ev.name (by walk_at "zm") <| EvL.nil <| CallP.typeLed (by walk_at "zm") <| Ev.name (by walk_at "zm") <| Op2.isNotType <| TrueOf.bool ?_
    rw [show (!(Value.type "list" == Value.type "list")) = false from by decide]
    show Ex _ _ _ _ _
    refine Ex.nil ?_
    refine Ex.cons <| Ex1.setField <| Ev.name (by walk_at "zm") <| Ev.name (by walk_at "zm") ⟨aG_Headers, x, d, _, rfl, K.cls, K.ftk, by walk_at "zm", .tail .head, ?_⟩
    refine Ex.cons <| Ex1.if <| Ts.plain <| Ev.bool <| TrueOf.bool ?_
    show Ex _ _ _ _ _
    refine Tr.nd fun hnd => ?_
    have hnd' : (([(D, LO.list (hs.map hdrP))] ++ [(x, LO.ins aG_Headers d), (d, .att [("_headers", .ref D)])]).map (·.1)).Nodup := by
      obtain ⟨a1, a2, a3⟩ := nd3 hnd
      walk_at "zn"
    refine Ex.cons <| Ex1.for <| Ev.name (by walk_at "zm") ⟨[(D, .list (hs.map hdrP))], [(D, .list (hs.map hdrP))], [(x, .ins aG_Headers d), (d, .att [("_headers", .ref D)])], _, ItSrc.led, by walk_at "zl", .inl hnd', by simp, ?_⟩
    refine ForT.inv (fun _ ρ σ => σ = [(x, .ins aG_Headers d), (d, .att [("_headers", .ref D)])] ∧ Sub [("self", .ref x)] ρ) _ 0 ?_ ?_ ?_
    · rintro i q ρ _ hq ⟨rfl, hs'⟩
      rw [List.getElem?_map, Option.map_eq_some_iff] at hq
      obtain ⟨h, hh, rfl⟩ := hq
      have hm := List.mem_of_getElem? hh
      obtain ⟨l1, l2, l3, l4, l5⟩ := O.low h.1 (hN h hm)
      obtain ⟨w1, w2⟩ := O.val h.2 (hV h hm)
      refine Con.rho2 ["self"] hs' ?_
      refine As.tup (ps := [.str h.1, .str h.2]) (As.name (by walk_at "zm") (by walk_at "zs") <| As.name (by walk_at "zm") (by walk_at "zs") ?_) rfl rfl
      show Ex _ _ [("self", .ref x), ("k", .str h.1), ("v", .str h.2)] [(x, LO.ins aG_Headers d), (d, LO.att [("_headers", .ref D)])] _
      refine Ex.cons <| Ex1.exprS <| Ev.methK ["name"] <| Ev.name (by walk_at "zm") ⟨_, _, MethP.ins (y := "_headers") (q := .ref D) K.cls K.fconv K.tconv (by decide) (by walk_at "zm") (by walk_at "zm"), EvL.cons <| Ev.name (by walk_at "zm") <| EvL.nil <| EvK.cons <| Ev.bool <| EvK.nil ⟨rfl, CallP.of (φ := [(x, .ins aG_Headers d), (d, .att [("_headers", .ref D)])]) (conv_spec K (b := true) (l := h.1) l4 l2) (by simp) (.inr (by simp)) ?_⟩⟩
      rintro r σ' ⟨rfl, rfl⟩
      refine ⟨⟨_, rfl⟩, ?_⟩
      show Ex _ _ _ [(x, LO.ins aG_Headers d), (d, LO.att [("_headers", .ref D)])] _
      refine Ex.cons <| Ex1.exprS <| Ev.methK ["name"] <| Ev.name (by walk_at "zm") ⟨_, _, MethP.ins (y := "_headers") (q := .ref D) K.cls K.fconv K.tconv (by decide) (by walk_at "zm") (by walk_at "zm"), EvL.cons <| Ev.name (by walk_at "zm") <| EvL.nil <| EvK.cons <| Ev.bool <| EvK.nil ⟨rfl, CallP.of (φ := [(x, .ins aG_Headers d), (d, .att [("_headers", .ref D)])]) (conv_spec K (b := false) (l := h.2) w2 w1) (by simp) (.inr (by simp)) ?_⟩⟩
      rintro r σ' ⟨rfl, rfl⟩
      refine ⟨⟨_, rfl⟩, ?_⟩
      exact Ex.nil ⟨rfl, by walk_at "zb"⟩
    · exact ⟨rfl, by walk_at "zb"⟩
    rintro ρ _ ⟨rfl, _⟩
    refine Ex.nil ?_
    refine Tr.led (σ' := [(x, .ins aG_Headers d), (d, .att [("_headers", .ref D)]), (D, .list (hs.map hdrP))]) (by walk_at "zl") (fun hn => ?_) ?_
    · obtain ⟨a1, a2, a3⟩ := nd3 hn
      walk_at "zn"
    · exact Ex.nil ⟨rfl, _, _, rfl, rfl, rfl⟩
theorem new2_spec {C : Cx} {p : Params} {n : Nat} {cN cV : Array Nat} {N V : List Nat → Prop} {low : List Nat → List Nat} (K : HdrK C p cN cV) (O : NamesOk cN cV N V low) (hd : C.K.lookup aD___init__ = some (tupO [.none] 0)) {D : Addr} {hs : Hdrs} (hN : ∀ h ∈ hs, N h.1) (hV : ∀ h ∈ hs, V h.2) :
    FnSpec C (n + 3) (.ref aG_Headers) [.ref D] [] [(D, .list (hs.map hdrP))] (fun r σ' => r = hdO D ∧ σ' = [(D, .list (hs.map hdrP))]) :=
  FnSpec.make K.cls K.finit K.tinit K.keep fun x d => FnSpec.mono (init2_spec (n := n) K O hd hN hV) fun r σ' ⟨h1, l, σ'', h2, h3, h4⟩ => ⟨h1, l, σ'', h2, by rw [h3], h4⟩
end Mine.Tactic
end
section
open PySem PySem.W PyProof.Rows PySem.Calls
set_option Elab.async false
set_option maxRecDepth 100000
namespace Mine.Tactic
structure TrB (C : Cx) (p : Params) (cT : Array Nat) (mg mb : Str → Option Value) (c P : Addr) : Prop where
  tra : FnAt C aG__translate (fdOf p aG__translate)
  joi : FnAt C aG__join_translated_parts (fdOf p aG__join_translated_parts)
  top : FnAt C aG_translate (fdOf p aG_translate)
  T : TopC C.K mg mb
  ce : (fdOf p aG__translate).code = .ref c
  cd : ∀ h : Heap, C.K.In h → CodeHd h c P
  P4 : P ≠ 4
  P3 : mainGlobals ≠ P
  re : ReAtG C.K aG__twin_re_1 cT 1
  gl : Sub [("len", .con (.builtin "len")), ("_twin_re_1", .con (.ref aG__twin_re_1)), ("object", .con (.type "object")), ("_translate", .ref aG__translate), ("_join_translated_parts", .ref aG__join_translated_parts)] C.gl
noncomputable def plainL (c : Nat) : Bool := c != 93 && c != 33 && c != 45 && c != 92 && c != 94 && c != 91
structure BraOk (cT : Array Nat) (b : Bool) (ls : List Nat) : Prop where
  ne : ls ≠ []
  pl : ∀ c ∈ ls, plainL c = true
  len : ls.length ≤ 100
  miss : missG cT 1 (if b then 33 :: ls else ls) = true
noncomputable def braBody (b : Bool) (ls : List Nat) : List Nat := if b then 33 :: ls else ls
noncomputable def braPat (b : Bool) (ls : List Nat) : List Nat := 91 :: (braBody b ls ++ [93])
noncomputable def braOut (b : Bool) (ls : List Nat) : List Nat := cs "[" ++ (if b then 94 :: ls else ls) ++ cs "]"
noncomputable abbrev nsTR : Names := [("pat", .local), ("STAR", .local), ("QUESTION_MARK", .local), ("res", .local), ("add", .local), ("i", .local), ("n", .local), ("c", .local), ("j", .local), ("stuff", .local)]
noncomputable abbrev glTR : Rho := [("len", .con (.builtin "len")), ("_twin_re_1", .con (.ref aG__twin_re_1))]
theorem cs_bra : cs "[" = [91] ∧ cs "]" = [93] ∧ cs "!" = [33] ∧ cs "*" = [42] ∧ cs "?" = [63] ∧ cs "-" = [45] ∧ cs "\\" = [92] ∧ cs "^" = [94] := by decide
theorem bra_facts {cT : Array Nat} {b : Bool} {ls : List Nat} (h : BraOk cT b ls) : ∃ n j0 : Nat, (braPat b ls).length = n + 1 ∧ (braBody b ls).length + 1 = n ∧ n ≤ 102 ∧ (j0 = if b then 2 else 1) ∧ j0 < n ∧
    (∀ j, j0 ≤ j → j < n → ∃ c, (braPat b ls)[j]? = some c ∧ c ≠ 93) ∧ (braPat b ls)[n]? = some 93 ∧ (∃ c, (braPat b ls)[1]? = some c ∧ (c == 33) = b) ∧ pySl (braPat b ls) (some 1) (some (n : Int)) = braBody b ls ∧ braBody b ls ≠ [33] ∧ braBody b ls ≠ [] ∧ 92 ∉ braBody b ls ∧ 45 ∉ braBody b ls := by
  obtain ⟨h1, h2, h3, h4⟩ := h
  obtain ⟨l, r, rfl⟩ := List.exists_cons_of_ne_nil h1
  have pl : ∀ c ∈ l :: r, c ≠ 93 ∧ c ≠ 33 ∧ c ≠ 45 ∧ c ≠ 92 ∧ c ≠ 94 ∧ c ≠ 91 := fun c hc => by
    have := h2 c hc
    unfold plainL at this
    simp only [Bool.and_eq_true, bne_iff_ne, ne_eq] at this
    obtain ⟨⟨⟨⟨⟨a1, a2⟩, a3⟩, a4⟩, a5⟩, a6⟩ := this
    exact ⟨a1, a2, a3, a4, a5, a6⟩
  have sl : pySl (braPat b (l :: r)) (some 1) (some (((braBody b (l :: r)).length + 1 : Nat) : Int)) = braBody b (l :: r) := by
    unfold pySl braPat
    rw [show (91 :: (braBody b (l :: r) ++ [93])).length = (braBody b (l :: r)).length + 2 by simp]
    have e1 : clampI ((braBody b (l :: r)).length + 2) 0 (some 1) = 1 := by unfold clampI; simp
    have e2 : clampI ((braBody b (l :: r)).length + 2) ((braBody b (l :: r)).length + 2) (some (((braBody b (l :: r)).length + 1 : Nat) : Int)) = (braBody b (l :: r)).length + 1 := by unfold clampI; simp; walk_at "zo"
    rw [e1, e2]
    simp
  have nb : ∀ c ∈ braBody b (l :: r), c ≠ 93 ∧ c ≠ 92 ∧ c ≠ 45 := fun c hc => by
    unfold braBody at hc
    cases b with
    | true =>
      rcases List.mem_cons.mp hc with rfl | hc
      · decide
      · have := pl c hc; exact ⟨this.1, this.2.2.2.1, this.2.2.1⟩
    | false => have := pl c hc; exact ⟨this.1, this.2.2.2.1, this.2.2.1⟩
  have bl : (braBody b (l :: r)).length ≤ 101 ∧ (if b then 2 else 1) < (braBody b (l :: r)).length + 1 := by
    unfold braBody; rw [List.length_cons] at h3; cases b <;> simp <;> walk_at "zo"
  refine ⟨(braBody b (l :: r)).length + 1, if b then 2 else 1, by unfold braPat; simp, rfl, by walk_at "zo", rfl, bl.2, fun j hj hj2 => ?_, ?_, ?_, sl, ?_, ?_, fun hm => (nb _ hm).2.1 rfl, fun hm => (nb _ hm).2.2 rfl⟩
  · obtain ⟨j', rfl⟩ : ∃ j', j = j' + 1 := ⟨j - 1, by cases b <;> simp at hj <;> walk_at "zo"⟩
    have hlt : j' < (braBody b (l :: r)).length := by walk_at "zo"
    refine ⟨(braBody b (l :: r))[j'], ?_, (nb _ (List.getElem_mem hlt)).1⟩
    unfold braPat
    rw [List.getElem?_cons_succ, List.getElem?_append_left hlt, List.getElem?_eq_getElem hlt]
  · unfold braPat
    rw [List.getElem?_cons_succ, List.getElem?_append_right (Nat.le_refl _)]
    simp
  · cases b with
    | true => exact ⟨33, rfl, rfl⟩
    | false => exact ⟨l, rfl, by simpa using (pl l (.head _)).2.1⟩
  · cases b with
    | true => intro e; cases e
    | false => intro e; have : l = 33 := by injection e
               exact (pl l (.head _)).2.1 this
  · cases b with
    | true => intro e; cases e
    | false => intro e; cases e
end Mine.Tactic
end
section
open PySem PySem.W PyProof.Rows PySem.Calls
set_option Elab.async false
set_option maxRecDepth 100000
namespace Mine.Tactic
noncomputable def traR (P : Addr) (out : List Nat) (r : PV) (σ' : Led) : Prop := ∃ (R : Addr) (qs : Array Value), r = .ref R ∧ TriplesOk qs.toList ∧ σ' = [(R, .list [.str out]), (P, .obj (tabObj qs))]
noncomputable def TbW (R P : Addr) (ps : Array Value) (pat : List Nat) (j0 m : Nat) : Nat → Rho → Led → Prop := fun k ρ₁ σ₁ => ∃ j : Nat, k = m - j ∧ j0 ≤ j ∧ j ≤ m ∧ σ₁ = [(R, .list []), (P, .obj (tabObj ps))] ∧ Sub [("len", .con (.builtin "len")), ("_twin_re_1", .con (.ref aG__twin_re_1)), ("pat", .str pat), ("res", .ref R), ("add", .bm "list.append" R), ("i", .int 1), ("n", .int pat.length), ("j", .int (j : Int))] ρ₁
set_option maxHeartbeats 8000000 in
theorem tra_bra {C : Cx} {p : Params} {n : Nat} {cT : Array Nat} {mg mb : Str → Option Value} {cd P : Addr} (T : TrB C p cT mg mb cd P) {b : Bool} {ls : List Nat} (hB : BraOk cT b ls) {Z : Addr} {ps : Array Value} (ht : TriplesOk ps.toList) :
    FnSpec C (n + 1) (.ref aG__translate) [.str (braPat b ls), .ref Z, .str (cs ".")] [] [(P, .obj (tabObj ps))] (traR P (braOut b ls)) := by
  have hg : Sub glTR C.gl := .cons (T.gl _ (by walk_at "zm")) (.cons (T.gl _ (by walk_at "zm")) .nil)
  refine FnSpec.ofC (body := ?bd) ["pat", "STAR", "QUESTION_MARK"] [.str (braPat b ls), .ref Z, .str (cs ".")] nsTR [] glTR (sc := ?sc) T.tra ?hb ?hsc ?hgl ?hbi ?hcl ?hok hg rfl ?_ ?_
  case hb => with_unfolding_all rfl
  case hsc => with_unfolding_all rfl
  case hgl => with_unfolding_all rfl
  case hbi => with_unfolding_all rfl
  case hcl => with_unfolding_all rfl
  case hok => kernel_rfl
  · intro im s vs kvs hk hv hkw
    obtain ⟨v, w, x, rfl, h1, h2, h3⟩ := three_v hv
    have : kvs = [] := by have := hkw.1; simpa using this
    subst this
    have e : bindArgs (fdOf p aG__translate) ⟨[v, w, x], []⟩ = pure ((["pat", "STAR", "QUESTION_MARK"].map Str.ofString).zip [v, w, x]) := by kernel_rfl
    refine ⟨[v, w, x], hv, ?_⟩
    intro M A E Q h
    rw [e]
    exact wpAny_pure h
  · intro env κ hcode
    obtain ⟨m, j0, f1, f2, f3, f4, f5, f6, f7, ⟨c1, f8, f9⟩, f10, f11, f12, f13, f14⟩ := bra_facts hB
    have hmiss : missG cT 1 (braBody b ls) = true := hB.miss
    have f0 : (braPat b ls)[0]? = some 91 := rfl
    have hout : braOut b ls = cs "[" ++ (if b then 94 :: ls else ls) ++ cs "]" := rfl
    have hbody : braBody b ls = if b then 33 :: ls else ls := rfl
    generalize braPat b ls = pat at f0 f1 f6 f7 f8 f10 ⊢
    show Ex _ _ [("len", .con (.builtin "len")), ("_twin_re_1", .con (.ref aG__twin_re_1)), ("pat", .str pat), ("STAR", .ref Z), ("QUESTION_MARK", .str (cs "."))] _ _
    refine Ex.cons <| Ex1.asg <| Ev.listM <| EvL.nil ⟨by simp, fun R => As.name (by walk_at "zm") (by walk_at "zs") ?_⟩
    refine Ex.cons <| Ex1.asg <| Ev.attr <| Ev.name (by walk_at "zm") <| Op1.boundAppend (by walk_at "zm") <| As.name (by walk_at "zm") (by walk_at "zs") ?_
    refine Ex.cons <| Ex1.asgSwap (by walk_at "zm") (by walk_at "zm") (ok := ?ok) <| Ev.tuple <| EvL.cons <| Ev.int <| EvL.cons <| Ev.call (by walk_at "zm") <| EvL.cons <| Ev.name (by walk_at "zm") <| EvL.nil <| CallP.lenS (by walk_at "zo") <| EvL.nil ⟨by simp, _, _, _, _, rfl, (by walk_at "zs"), (by walk_at "zs"), ?_⟩
    case ok => kernel_rfl
    refine Ex.cons <| Ex1.whileT 2 ?_
    refine Ts.compare <| Ev.name (by walk_at "zm") <| Ev.name (by walk_at "zm") <| Op2.lt <| TrueOf.bool ?_
    refine ite_dec (fun _ => ?_) (fun h => absurd (by walk_at "zo") h)
    refine Ex.cons <| Ex1.asg <| Ev.sub <| Ev.name (by walk_at "zm") <| Ev.name (by walk_at "zm") <| Op2.itemS (c := 91) (by walk_at "zo") (by walk_at "zo") (by walk_at "zo") (by unfold pyIx; rw [if_neg (by walk_at "zo")]; exact f0) <| As.name (by walk_at "zm") (by walk_at "zs") ?_
    refine Ex.cons <| Ex1.asg <| Ev.binop <| Ev.name (by walk_at "zm") <| Ev.int <| Op2.add <| As.nameN (j := 1) (by walk_at "zo") (by walk_at "zm") (by walk_at "zs") ?_
    refine Ex.cons <| Ex1.if <| Ts.compare <| Ev.name (by walk_at "zm") <| Ev.str <| Op2.eqS <| TrueOf.bool ?_
    rw [show ([91] == cs "*") = false by decide]
    show Ex _ _ _ _ _
    refine Ex.cons <| Ex1.if <| Ts.compare <| Ev.name (by walk_at "zm") <| Ev.str <| Op2.eqS <| TrueOf.bool ?_
    rw [show ([91] == cs "?") = false by decide]
    show Ex _ _ _ _ _
    refine Ex.cons <| Ex1.if <| Ts.compare <| Ev.name (by walk_at "zm") <| Ev.str <| Op2.eqS <| TrueOf.bool ?_
    rw [show ([91] == cs "[") = true by decide]
    show Ex _ _ _ _ _
    refine Ex.cons <| Ex1.asg <| Ev.name (by walk_at "zm") <| As.name (by walk_at "zm") (by walk_at "zs") ?_
    refine Ex.cons (Tr.mono (Q := fun fl ρ₁ σ₁ => fl = Fl.next ∧ σ₁ = [(R, .list []), (P, .obj (tabObj ps))] ∧ Sub [("len", .con (.builtin "len")), ("_twin_re_1", .con (.ref aG__twin_re_1)), ("pat", .str pat), ("res", .ref R), ("add", .bm "list.append" R), ("i", .int 1), ("n", .int pat.length), ("j", .int (j0 : Int))] ρ₁) ?_ ?_)
    · refine Ex1.if <| Ts.bool <| TsAll.and <| Ts.compare <| Ev.name (by walk_at "zm") <| Ev.name (by walk_at "zm") <| Op2.lt <| TrueOf.bool ?_
      refine ite_dec (fun _ => ?_) (fun h => absurd (by walk_at "zo") h)
      refine TsAll.and <| Ts.compare <| Ev.sub <| Ev.name (by walk_at "zm") <| Ev.name (by walk_at "zm") <| Op2.itemS (c := c1) (by walk_at "zo") (by walk_at "zo") (by walk_at "zo") (by unfold pyIx; rw [if_neg (by walk_at "zo")]; exact f8) <| Ev.str <| Op2.eqS <| TrueOf.bool ?_
      rw [show ([c1] == cs "!") = b by rw [← f9, cs_bra.2.2.1]; simp]
      refine ite_b (fun hb => ?_) (fun hb => ?_)
      · refine TsAll.nilAnd ?_
        show Ex _ _ _ _ _
        rw [hb, if_pos rfl] at f4
        subst f4
        refine Ex.cons <| Ex1.asg <| Ev.binop <| Ev.name (by walk_at "zm") <| Ev.int <| Op2.add <| As.nameN (j := 2) (by walk_at "zo") (by walk_at "zm") (by walk_at "zs") ?_
        exact Ex.nil ⟨rfl, rfl, .cons (by walk_at "zm") (.cons (by walk_at "zm") (.cons (by walk_at "zm") (.cons (by walk_at "zm") (.cons (by walk_at "zm") (.cons (by walk_at "zm") (.cons (by walk_at "zm") (.cons (by walk_at "zm") .nil)))))))⟩
      · show Ex _ _ _ _ _
        rw [hb, if_neg (by decide)] at f4
        subst f4
        exact Ex.nil ⟨rfl, rfl, .cons (by walk_at "zm") (.cons (by walk_at "zm") (.cons (by walk_at "zm") (.cons (by walk_at "zm") (.cons (by walk_at "zm") (.cons (by walk_at "zm") (.cons (by walk_at "zm") (.cons (by walk_at "zm") .nil)))))))⟩
    rintro _ ρ₁ _ ⟨rfl, rfl, hs⟩
    show Ex _ _ _ _ _
    refine Tr.rho2 ["len", "_twin_re_1", "pat", "res", "add", "i", "n", "j"] hs ?_
    obtain ⟨c2, g1, g2⟩ := f6 j0 (Nat.le_refl _) f5
    refine Ex.cons <| Ex1.if <| Ts.bool <| TsAll.and <| Ts.compare <| Ev.name (by walk_at "zm") <| Ev.name (by walk_at "zm") <| Op2.lt <| TrueOf.bool ?_
    refine ite_dec (fun _ => ?_) (fun h => absurd (by walk_at "zo") h)
    refine TsAll.and <| Ts.compare <| Ev.sub <| Ev.name (by walk_at "zm") <| Ev.name (by walk_at "zm") <| Op2.itemS (c := c2) (by walk_at "zo") (by walk_at "zo") (by walk_at "zo") (by unfold pyIx; rw [if_neg (by walk_at "zo")]; exact g1) <| Ev.str <| Op2.eqS <| TrueOf.bool ?_
    rw [show ([c2] == cs "]") = false by rw [cs_bra.2.1]; simpa using g2]
    show Ex _ _ _ _ _
    refine Ex.nil ?_
    refine Ex.cons (Tr.mono (Q := fun fl ρ₁ σ₁ => fl = Fl.next ∧ σ₁ = [(R, .list []), (P, .obj (tabObj ps))] ∧ Sub [("len", .con (.builtin "len")), ("_twin_re_1", .con (.ref aG__twin_re_1)), ("pat", .str pat), ("res", .ref R), ("add", .bm "list.append" R), ("i", .int 1), ("n", .int pat.length), ("j", .int (m : Int))] ρ₁) (Ex1.while (TbW R P ps pat j0 m) ?_ (m - j0) ?_) ?_)
    · rintro k ρ₂ _ ⟨j, rfl, h1, h2, rfl, hs⟩
      refine Tr.rho2 ["len", "_twin_re_1", "pat", "res", "add", "i", "n", "j"] hs ?_
      refine Ts.bool <| TsAll.and <| Ts.compare <| Ev.name (by walk_at "zm") <| Ev.name (by walk_at "zm") <| Op2.lt <| TrueOf.bool ?_
      refine ite_dec (fun _ => ?_) (fun h => absurd (by walk_at "zo") h)
      by_cases hj : j < m
      · obtain ⟨c3, k1, k2⟩ := f6 j h1 hj
        refine TsAll.and <| Ts.compare <| Ev.sub <| Ev.name (by walk_at "zm") <| Ev.name (by walk_at "zm") <| Op2.itemS (c := c3) (by walk_at "zo") (by walk_at "zo") (by walk_at "zo") (by unfold pyIx; rw [if_neg (by walk_at "zo")]; exact k1) <| Ev.str <| Op2.neS <| TrueOf.bool ?_
        rw [show ([c3] != cs "]") = true by rw [cs_bra.2.1]; simpa using k2]
        refine TsAll.nilAnd ?_
        show Ex _ _ _ _ _
        refine Ex.cons <| Ex1.asg <| Ev.binop <| Ev.name (by walk_at "zm") <| Ev.int <| Op2.add <| As.nameN (j := ((j + 1 : Nat) : Int)) (by walk_at "zo") (by walk_at "zm") (by walk_at "zs") ?_
        exact Ex.nil ⟨m - (j + 1), by walk_at "zo", j + 1, rfl, by walk_at "zo", by walk_at "zo", rfl, .cons (by walk_at "zm") (.cons (by walk_at "zm") (.cons (by walk_at "zm") (.cons (by walk_at "zm") (.cons (by walk_at "zm") (.cons (by walk_at "zm") (.cons (by walk_at "zm") (.cons (by walk_at "zm") .nil)))))))⟩
      · have : j = m := by walk_at "zo"
        subst this
        refine TsAll.and <| Ts.compare <| Ev.sub <| Ev.name (by walk_at "zm") <| Ev.name (by walk_at "zm") <| Op2.itemS (c := 93) (by walk_at "zo") (by walk_at "zo") (by walk_at "zo") (by unfold pyIx; rw [if_neg (by walk_at "zo")]; exact f7) <| Ev.str <| Op2.neS <| TrueOf.bool ?_
        rw [show ([93] != cs "]") = false by decide]
        exact ⟨rfl, rfl, .cons (by walk_at "zm") (.cons (by walk_at "zm") (.cons (by walk_at "zm") (.cons (by walk_at "zm") (.cons (by walk_at "zm") (.cons (by walk_at "zm") (.cons (by walk_at "zm") (.cons (by walk_at "zm") .nil)))))))⟩
    · exact ⟨j0, rfl, Nat.le_refl _, by walk_at "zo", rfl, .cons (by walk_at "zm") (.cons (by walk_at "zm") (.cons (by walk_at "zm") (.cons (by walk_at "zm") (.cons (by walk_at "zm") (.cons (by walk_at "zm") (.cons (by walk_at "zm") (.cons (by walk_at "zm") .nil)))))))⟩
    rintro _ ρ₂ _ ⟨rfl, rfl, hs⟩
    show Ex _ _ _ _ _
    refine Tr.rho2 ["len", "_twin_re_1", "pat", "res", "add", "i", "n", "j"] hs ?_
    refine Ex.cons <| Ex1.if <| Ts.compare <| Ev.name (by walk_at "zm") <| Ev.name (by walk_at "zm") <| Op2.ge <| TrueOf.bool ?_
    refine ite_dec (fun h => absurd h (by walk_at "zo")) (fun _ => ?_)
    refine Ex.cons <| Ex1.asg <| Ev.slice <| Ev.name (by walk_at "zm") <| Ev.name (by walk_at "zm") ⟨_, rfl, Ev.name (by walk_at "zm") ⟨_, rfl, SliceP.str (by walk_at "zo") ?_⟩⟩
    rw [f10]
    have hbl : (braBody b ls).length ≤ 101 := by walk_at "zo"
    generalize braBody b ls = body at *
    refine As.name (by walk_at "zm") (by walk_at "zs") ?_
    refine Ex.cons <| Ex1.if <| Ts.compare <| Ev.str <| Ev.name (by walk_at "zm") <| Op2.notInS <| TrueOf.bool ?_
    rw [show cs "-" = [45] by decide, contains_sign, decide_eq_false f14]
    show Ex _ _ _ _ _
    refine Ex.cons <| Ex1.asg <| Ev.meth <| Ev.name (by walk_at "zm") ⟨_, _, MethP.str F.slot_str_replace F.type_str_replace, EvL.cons <| Ev.str <| EvL.cons <| Ev.str <| EvL.nil <| ?_⟩
    rw [show cs "\\" = [92] by decide]
    refine CallP.replace0 f13 <| As.name (by walk_at "zm") (by walk_at "zs") ?_
    refine Ex.nil ?_
    refine Ex.cons <| Ex1.asg <| Ev.meth <| Ev.name (by walk_at "zm") ⟨_, _, MethP.sub T.re, EvL.cons <| Ev.lambda (ps := ps) (σ' := fun qs => [(R, .list []), (P, .obj (tabObj qs))]) T.T (hcode.trans T.ce) T.cd ht (fun qs => .tail .head) T.P4 T.P3 rfl rfl fun qs fo hfo hqs => EvL.cons <| Ev.name (by walk_at "zm") <| EvL.nil <| CallP.sub T.re hfo hmiss (by walk_at "zo") f12 <| As.name (by walk_at "zm") (by walk_at "zs") ?_⟩
    refine Ex.cons <| Ex1.asg <| Ev.binop <| Ev.name (by walk_at "zm") <| Ev.int <| Op2.add <| As.nameN (j := (pat.length : Int)) (by walk_at "zo") (by walk_at "zm") (by walk_at "zs") ?_
    have hbl0 : 0 < body.length := List.length_pos_iff.mpr f12
    refine Ex.cons <| Ex1.if <| Ts.not <| Ts.plain <| Ev.name (by walk_at "zm") <| TrueOf.str (by walk_at "zo") ?_
    rw [show (!((body.length : Int) != 0)) = false by simp; walk_at "zo"]
    show Ex _ _ _ _ _
    refine Ex.cons <| Ex1.if <| Ts.compare <| Ev.name (by walk_at "zm") <| Ev.str <| Op2.eqS <| TrueOf.bool ?_
    rw [show (body == cs "!") = false by rw [cs_bra.2.2.1]; simpa using f11]
    show Ex _ _ _ _ _
    obtain ⟨h0, hh0, hh1⟩ : ∃ h0, body[0]? = some h0 ∧ (h0 == 33) = b ∧ h0 ≠ 94 ∧ h0 ≠ 91 := by
      rw [hbody]
      cases b with
      | true => exact ⟨33, rfl, rfl, by decide, by decide⟩
      | false =>
        obtain ⟨l, r, hlr⟩ := List.exists_cons_of_ne_nil hB.ne
        have := hB.pl l (by rw [hlr]; exact .head _)
        unfold plainL at this
        simp only [Bool.and_eq_true, bne_iff_ne, ne_eq] at this
        exact ⟨l, by rw [hlr]; rfl, by simpa using this.1.1.1.1.2, this.1.2, this.2⟩
    refine Ex.cons (Tr.mono (Q := fun fl ρ₁ σ₁ => fl = Fl.next ∧ σ₁ = [(R, .list []), (P, .obj (tabObj qs))] ∧ Sub [("res", .ref R), ("add", .bm "list.append" R), ("i", .int pat.length), ("n", .int pat.length), ("stuff", .str (if b then 94 :: ls else ls))] ρ₁) ?_ ?_)
    · refine Ex1.if <| Ts.compare <| Ev.sub <| Ev.name (by walk_at "zm") <| Ev.int <| Op2.itemS (c := h0) (by walk_at "zo") (by walk_at "zo") (by walk_at "zo") (by unfold pyIx; rw [if_neg (by walk_at "zo")]; exact hh0) <| Ev.str <| Op2.eqS <| TrueOf.bool ?_
      rw [show ([h0] == cs "!") = b by rw [← hh1.1, cs_bra.2.2.1]; simp]
      refine ite_b (fun hb => ?_) (fun hb => ?_)
      · rw [hb, if_pos rfl] at hbody
        rw [hb, if_pos rfl]
        subst hbody
        have e1 : pySl (33 :: ls) (some 1) none = ls := by
          unfold pySl
          rw [show clampI (33 :: ls).length 0 (some 1) = 1 by unfold clampI; simp]
          show (List.drop 1 (33 :: ls)).take ((33 :: ls).length - 1) = ls
          simp
        refine Ex.cons <| Ex1.asg <| Ev.binop <| Ev.str <| Ev.slice <| Ev.name (by walk_at "zm") <| Ev.int ⟨_, rfl, SliceP.str (by walk_at "zo") ?_⟩
        rw [e1, show cs "^" = [94] by decide]
        refine Op2.addS (by simp at hbl ⊢; walk_at "zo") <| As.name (by walk_at "zm") (by walk_at "zs") ?_
        exact Ex.nil ⟨rfl, rfl, .cons (by walk_at "zm") (.cons (by walk_at "zm") (.cons (by walk_at "zm") (.cons (by walk_at "zm") (.cons (by walk_at "zm") .nil))))⟩
      · rw [hb, if_neg (by decide)] at hbody
        rw [hb, if_neg (by decide)]
        subst hbody
        refine Ex.cons <| Ex1.if <| Ts.compare <| Ev.sub <| Ev.name (by walk_at "zm") <| Ev.int <| Op2.itemS (c := h0) (by walk_at "zo") (by walk_at "zo") (by walk_at "zo") (by unfold pyIx; rw [if_neg (by walk_at "zo")]; exact hh0) <| Ev.tuple <| EvL.cons <| Ev.str <| EvL.cons <| Ev.str <| EvL.nil ⟨by simp, Op2.inT (by intro p hp; simp at hp; rcases hp with rfl | rfl <;> rfl) <| TrueOf.bool ?_⟩
        rw [show hasP [.str (cs "^"), .str (cs "[")] (.str [h0]) = false by
          rw [cs_bra.1, show cs "^" = [94] by decide]
          simp [hasP, eqP, Ne.symm hh1.2.1, Ne.symm hh1.2.2]]
        show Ex _ _ _ _ _
        refine Ex.nil ?_
        exact Ex.nil ⟨rfl, rfl, .cons (by walk_at "zm") (.cons (by walk_at "zm") (.cons (by walk_at "zm") (.cons (by walk_at "zm") (.cons (by walk_at "zm") .nil))))⟩
    rintro _ ρ₃ _ ⟨rfl, rfl, hs⟩
    show Ex _ _ _ _ _
    refine Tr.rho2 ["res", "add", "i", "n", "stuff"] hs ?_
    have hl : (if b then 94 :: ls else ls).length ≤ 101 := by
      have := hB.len; cases b <;> simp <;> walk_at "zo"
    have c1 : (cs "[").length = 1 := by decide
    have c2 : (cs "]").length = 1 := by decide
    refine Ex.cons <| Ex1.expr <| Ev.call (by walk_at "zm") <| EvL.cons <| Ev.fstr <| JP.cons <| Ev.str ⟨_, rfl, by simp [c1], JP.cons <| Ev.fval <| Ev.name (by walk_at "zm") ⟨_, rfl, by walk_at "zo", _, rfl, by simp only [List.nil_append, c1]; walk_at "zo", JP.cons <| Ev.str ⟨_, rfl, by simp only [List.nil_append, List.length_append, c1, c2]; walk_at "zo", JP.nil (by simp only [List.nil_append, List.length_append, c1, c2]; walk_at "zo") ?_⟩⟩⟩
    refine EvL.nil <| CallP.appendB .head (by simp) ⟨rfl, ?_⟩
    refine Ex.nil ?_
    refine Ex.nil ?_
    refine Ex.nil ?_
    refine Ex.nil ?_
    refine Ex.nil ?_
    refine Ex.nil ?_
    refine Ex.nil ?_
    refine Ts.compare <| Ev.name (by walk_at "zm") <| Ev.name (by walk_at "zm") <| Op2.lt <| TrueOf.bool ?_
    refine ite_dec (fun h => absurd h (by walk_at "zo")) (fun _ => ?_)
    show Ex _ _ _ _ _
    refine Ex.cons <| Ex1.assert <| Ts.compare <| Ev.name (by walk_at "zm") <| Ev.name (by walk_at "zm") <| Op2.eq <| TrueOf.bool ⟨by simp, ?_⟩
    refine Ex.cons <| Ex1.ret <| Ev.name (by walk_at "zm") ⟨R, qs, rfl, hqs, ?_⟩
    rw [hout]; rfl
end Mine.Tactic
end
section
open PySem PySem.W PyProof.Rows PySem.Calls
set_option Elab.async false
set_option maxRecDepth 100000
namespace Mine.Tactic
set_option maxHeartbeats 8000000 in
theorem tra_q {C : Cx} {p : Params} {n : Nat} {cT : Array Nat} {mg mb : Str → Option Value} {cd P : Addr} (T : TrB C p cT mg mb cd P) {Z : Addr} {ps : Array Value} (ht : TriplesOk ps.toList) :
    FnSpec C (n + 1) (.ref aG__translate) [.str [63], .ref Z, .str (cs ".")] [] [(P, .obj (tabObj ps))] (traR P (cs ".")) := by
  have hg : Sub glTR C.gl := .cons (T.gl _ (by walk_at "zm")) (.cons (T.gl _ (by walk_at "zm")) .nil)
  refine FnSpec.of (body := ?bd) ["pat", "STAR", "QUESTION_MARK"] [.str [63], .ref Z, .str (cs ".")] nsTR [] glTR (sc := ?sc) T.tra ?hb ?hsc ?hgl ?hbi ?hcl ?hok hg rfl ?_ ?_
  case hb => with_unfolding_all rfl
  case hsc => with_unfolding_all rfl
  case hgl => with_unfolding_all rfl
  case hbi => with_unfolding_all rfl
  case hcl => with_unfolding_all rfl
  case hok => kernel_rfl
  · intro im s vs kvs hk hv hkw
    obtain ⟨v, w, x, rfl, h1, h2, h3⟩ := three_v hv
    have : kvs = [] := by have := hkw.1; simpa using this
    subst this
    have e : bindArgs (fdOf p aG__translate) ⟨[v, w, x], []⟩ = pure ((["pat", "STAR", "QUESTION_MARK"].map Str.ofString).zip [v, w, x]) := by kernel_rfl
    refine ⟨[v, w, x], hv, ?_⟩
    intro M A E Q h
    rw [e]
    exact wpAny_pure h
  · intro env κ
    show Ex _ _ [("len", .con (.builtin "len")), ("_twin_re_1", .con (.ref aG__twin_re_1)), ("pat", .str [63]), ("STAR", .ref Z), ("QUESTION_MARK", .str (cs "."))] _ _
    refine Ex.cons <| Ex1.asg <| Ev.listM <| EvL.nil ⟨by simp, fun R => As.name (by walk_at "zm") (by walk_at "zs") ?_⟩
    refine Ex.cons <| Ex1.asg <| Ev.attr <| Ev.name (by walk_at "zm") <| Op1.boundAppend (by walk_at "zm") <| As.name (by walk_at "zm") (by walk_at "zs") ?_
    refine Ex.cons <| Ex1.asgSwap (by walk_at "zm") (by walk_at "zm") (ok := ?ok) <| Ev.tuple <| EvL.cons <| Ev.int <| EvL.cons <| Ev.call (by walk_at "zm") <| EvL.cons <| Ev.name (by walk_at "zm") <| EvL.nil <| CallP.lenS (by decide) <| EvL.nil ⟨by simp, _, _, _, _, rfl, (by walk_at "zs"), (by walk_at "zs"), ?_⟩
    case ok => kernel_rfl
    refine Ex.cons <| Ex1.whileT 2 ?_
    refine Ts.compare <| Ev.name (by walk_at "zm") <| Ev.name (by walk_at "zm") <| Op2.lt <| TrueOf.bool ?_
    refine ite_dec (fun _ => ?_) (fun h => absurd (by decide) h)
    refine Ex.cons <| Ex1.asg <| Ev.sub <| Ev.name (by walk_at "zm") <| Ev.name (by walk_at "zm") <| Op2.itemS (c := 63) (by decide) (by decide) (by decide) rfl <| As.name (by walk_at "zm") (by walk_at "zs") ?_
    refine Ex.cons <| Ex1.asg <| Ev.binop <| Ev.name (by walk_at "zm") <| Ev.int <| Op2.add <| As.nameN (j := 1) (by decide) (by walk_at "zm") (by walk_at "zs") ?_
    refine Ex.cons <| Ex1.if <| Ts.compare <| Ev.name (by walk_at "zm") <| Ev.str <| Op2.eqS <| TrueOf.bool ?_
    rw [show ([63] == cs "*") = false by decide]
    show Ex _ _ _ _ _
    refine Ex.cons <| Ex1.if <| Ts.compare <| Ev.name (by walk_at "zm") <| Ev.str <| Op2.eqS <| TrueOf.bool ?_
    rw [show ([63] == cs "?") = true by decide]
    show Ex _ _ _ _ _
    refine Ex.cons <| Ex1.expr <| Ev.call (by walk_at "zm") <| EvL.cons <| Ev.name (by walk_at "zm") <| EvL.nil <| CallP.appendB .head (by simp) ⟨rfl, ?_⟩
    refine Ex.nil ?_
    refine Ex.nil ?_
    refine Ex.nil ?_
    refine Ts.compare <| Ev.name (by walk_at "zm") <| Ev.name (by walk_at "zm") <| Op2.lt <| TrueOf.bool ?_
    refine ite_dec (fun h => absurd h (by decide)) (fun _ => ?_)
    show Ex _ _ _ _ _
    refine Ex.cons <| Ex1.assert <| Ts.compare <| Ev.name (by walk_at "zm") <| Ev.name (by walk_at "zm") <| Op2.eq <| TrueOf.bool ⟨by decide, ?_⟩
    exact Ex.cons <| Ex1.ret <| Ev.name (by walk_at "zm") ⟨R, ps, rfl, ht, rfl⟩
noncomputable abbrev nsJO : Names := [("inp", .local), ("STAR", .local), ("res", .local), ("add", .local), ("i", .local), ("n", .local), ("fixed", .local)]
noncomputable def oneP (l : List Nat) : List Nat := cs "(?s:" ++ l ++ cs ")\\Z"
set_option maxHeartbeats 8000000 in
theorem join_one {C : Cx} {p : Params} {n : Nat} {cT : Array Nat} {mg mb : Str → Option Value} {cd P : Addr} (T : TrB C p cT mg mb cd P) {l : List Nat} {Z I : Addr} (hl : l.length ≤ 1000) :
    FnSpec C (n + 1) (.ref aG__join_translated_parts) [.ref I, .ref Z] [] [(I, .list [.str l])] (fun r σ' => r = .str (oneP l) ∧ σ' = []) := by
  have hg : Sub [("len", .con (.builtin "len"))] C.gl := .cons (T.gl _ (by walk_at "zm")) .nil
  refine FnSpec.of (body := ?bd) ["inp", "STAR"] [.ref I, .ref Z] nsJO [] [("len", .con (.builtin "len"))] (sc := ?sc) T.joi ?hb ?hsc ?hgl ?hbi ?hcl ?hok hg rfl ?_ ?_
  case hb => with_unfolding_all rfl
  case hsc => with_unfolding_all rfl
  case hgl => with_unfolding_all rfl
  case hbi => with_unfolding_all rfl
  case hcl => with_unfolding_all rfl
  case hok => kernel_rfl
  · intro im s vs kvs hk hv hkw
    obtain ⟨v, w, rfl, h1, h2⟩ := two_v hv
    have : kvs = [] := by have := hkw.1; simpa using this
    subst this
    have e : bindArgs (fdOf p aG__join_translated_parts) ⟨[v, w], []⟩ = pure ((["inp", "STAR"].map Str.ofString).zip [v, w]) := by kernel_rfl
    refine ⟨[v, w], hv, ?_⟩
    intro M A E Q h
    rw [e]
    exact wpAny_pure h
  · intro env κ
    show Ex _ _ [("len", .con (.builtin "len")), ("inp", .ref I), ("STAR", .ref Z)] _ _
    refine Ex.cons <| Ex1.asg <| Ev.listM <| EvL.nil ⟨by simp, fun R => As.name (by walk_at "zm") (by walk_at "zs") ?_⟩
    refine Ex.cons <| Ex1.asg <| Ev.attr <| Ev.name (by walk_at "zm") <| Op1.boundAppend (by walk_at "zm") <| As.name (by walk_at "zm") (by walk_at "zs") ?_
    refine Ex.cons <| Ex1.asgSwap (by walk_at "zm") (by walk_at "zm") (ok := ?ok) <| Ev.tuple <| EvL.cons <| Ev.int <| EvL.cons <| Ev.call (by walk_at "zm") <| EvL.cons <| Ev.name (by walk_at "zm") <| EvL.nil <| CallP.lenM (by walk_at "zm") (by simp) <| EvL.nil ⟨by simp, _, _, _, _, rfl, (by walk_at "zs"), (by walk_at "zs"), ?_⟩
    case ok => kernel_rfl
    refine Ex.cons <| Ex1.whileT 2 ?_
    refine Ts.bool <| TsAll.and <| Ts.compare <| Ev.name (by walk_at "zm") <| Ev.name (by walk_at "zm") <| Op2.lt <| TrueOf.bool ?_
    refine ite_dec (fun _ => ?_) (fun h => absurd (by simp) h)
    refine TsAll.and <| Ts.compare <| Ev.sub <| Ev.name (by walk_at "zm") <| Ev.name (by walk_at "zm") <| Op2.itemM (p := .str l) (by walk_at "zm") (by simp) (by simp) (by simp) rfl <| Ev.name (by walk_at "zm") <| Op2.isNotStrRef <| TrueOf.bool ?_
    refine TsAll.nilAnd ?_
    show Ex _ _ _ _ _
    refine Ex.cons <| Ex1.expr <| Ev.call (by walk_at "zm") <| EvL.cons <| Ev.sub <| Ev.name (by walk_at "zm") <| Ev.name (by walk_at "zm") <| Op2.itemM (p := .str l) (by walk_at "zm") (by simp) (by simp) (by simp) rfl <| EvL.nil <| CallP.appendB .head (by simp) ⟨rfl, ?_⟩
    refine Ex.cons <| Ex1.aug (by walk_at "zm") <| Ev.int <| Op2.iadd (c := 1) (by decide) <| store_con (by walk_at "zm") (by walk_at "zs") ?_
    refine Ex.nil ?_
    refine Ts.bool <| TsAll.and <| Ts.compare <| Ev.name (by walk_at "zm") <| Ev.name (by walk_at "zm") <| Op2.lt <| TrueOf.bool ?_
    refine ite_dec (fun h => absurd h (by simp)) (fun _ => ?_)
    show Ex _ _ _ _ _
    refine Ex.cons <| Ex1.whileT 1 ?_
    refine Ts.compare <| Ev.name (by walk_at "zm") <| Ev.name (by walk_at "zm") <| Op2.lt <| TrueOf.bool ?_
    refine ite_dec (fun h => absurd h (by simp)) (fun _ => ?_)
    show Ex _ _ _ _ _
    refine Ex.cons <| Ex1.assert <| Ts.compare <| Ev.name (by walk_at "zm") <| Ev.name (by walk_at "zm") <| Op2.eq <| TrueOf.bool ⟨by simp, ?_⟩
    refine Ex.cons <| Ex1.asg <| Ev.meth <| Ev.str ⟨_, _, MethP.str F.slot_str_join F.type_str_join, EvL.cons <| Ev.name (by walk_at "zm") <| EvL.nil <| CallP.joinM (ls := [l]) (by walk_at "zm") rfl (by rw [show (cs "").length = 0 by decide]; simp; walk_at "zo") <| As.name (by walk_at "zm") (by walk_at "zs") ?_⟩
    have e1 : pyJoin (cs "") [l] = l := rfl
    rw [e1]
    have c1 : (cs "(?s:").length = 4 := by decide
    have c2 : (cs ")\\Z").length = 3 := by decide
    refine Tr.led (σ' := []) (fun _ h => nomatch h) (fun _ => List.nodup_nil) ?_
    exact Ex.cons <| Ex1.ret <| Ev.fstr <| JP.cons <| Ev.str ⟨_, rfl, by simp [c1], JP.cons <| Ev.fval <| Ev.name (by walk_at "zm") ⟨_, rfl, by walk_at "zo", _, rfl, by simp [c1]; walk_at "zo", JP.cons <| Ev.str ⟨_, rfl, by simp [c1, c2]; walk_at "zo", JP.nil (by simp [c1, c2]; walk_at "zo") ⟨rfl, rfl⟩⟩⟩⟩
noncomputable abbrev nsTP : Names := [("pat", .local), ("STAR", .local), ("parts", .local)]
noncomputable abbrev glTP : Rho := [("object", .con (.type "object")), ("_translate", .ref aG__translate), ("_join_translated_parts", .ref aG__join_translated_parts)]
noncomputable def setPat (b : Bool) (ls : List Nat) : List Nat := if ls = [] then [63] else braPat b ls
noncomputable def setOut (b : Bool) (ls : List Nat) : List Nat := oneP (if ls = [] then cs "." else braOut b ls)
set_option maxHeartbeats 4000000 in
theorem translate_spec {C : Cx} {p : Params} {n : Nat} {cT : Array Nat} {mg mb : Str → Option Value} {cd P : Addr} (T : TrB C p cT mg mb cd P) {b : Bool} {ls : List Nat} (hB : ls ≠ [] → BraOk cT b ls) {ps : Array Value} (ht : TriplesOk ps.toList) :
    FnSpec C (n + 2) (.ref aG_translate) [.str (setPat b ls)] [] [(P, .obj (tabObj ps))] (fun r σ' => r = .str (setOut b ls) ∧ ∃ qs : Array Value, TriplesOk qs.toList ∧ σ' = [(P, .obj (tabObj qs))]) := by
  have hg : Sub glTP C.gl := .cons (T.gl _ (by walk_at "zm")) (.cons (T.gl _ (by walk_at "zm")) (.cons (T.gl _ (by walk_at "zm")) .nil))
  refine FnSpec.of (body := ?bd) ["pat"] [.str (setPat b ls)] nsTP [] glTP (sc := ?sc) T.top ?hb ?hsc ?hgl ?hbi ?hcl ?hok hg rfl ?_ ?_
  case hb => with_unfolding_all rfl
  case hsc => with_unfolding_all rfl
  case hgl => with_unfolding_all rfl
  case hbi => with_unfolding_all rfl
  case hcl => with_unfolding_all rfl
  case hok => kernel_rfl
  · intro im s vs kvs hk hv hkw
    obtain ⟨v, rfl, h1⟩ := one_v hv
    have : kvs = [] := by have := hkw.1; simpa using this
    subst this
    have e : bindArgs (fdOf p aG_translate) ⟨[v], []⟩ = pure ((["pat"].map Str.ofString).zip [v]) := by kernel_rfl
    refine ⟨[v], hv, ?_⟩
    intro M A E Q h
    rw [e]
    exact wpAny_pure h
  · intro env κ
    have tr : ∀ Z : Addr, FnSpec C (n + 1) (.ref aG__translate) [.str (setPat b ls), .ref Z, .str (cs ".")] [] [(P, .obj (tabObj ps))] (traR P (if ls = [] then cs "." else braOut b ls)) := fun Z => by
      unfold setPat
      split
      · exact tra_q T ht
      · rename_i h; exact tra_bra T (hB h) ht
    have hl : (if ls = [] then cs "." else braOut b ls).length ≤ 1000 := by
      split
      · decide
      · rename_i h
        have := (hB h).len
        unfold braOut
        rw [List.length_append, List.length_append, show (cs "[").length = 1 by decide, show (cs "]").length = 1 by decide]
        cases b <;> simp <;> walk_at "zo"
    have ho : setOut b ls = oneP (if ls = [] then cs "." else braOut b ls) := rfl
    generalize (if ls = [] then cs "." else braOut b ls) = out at *
    show Ex _ _ [("object", .con (.type "object")), ("_translate", .ref aG__translate), ("_join_translated_parts", .ref aG__join_translated_parts), ("pat", .str (setPat b ls))] _ _
    refine Ex.cons <| Ex1.asg <| Ev.call (by walk_at "zm") <| EvL.nil <| CallP.object fun Z => As.name (by walk_at "zm") (by walk_at "zs") ?_
    refine Ex.cons <| Ex1.asg <| Ev.call (by walk_at "zm") <| EvL.cons <| Ev.name (by walk_at "zm") <| EvL.cons <| Ev.name (by walk_at "zm") <| EvL.cons <| Ev.str <| EvL.nil <| CallP.of (φ := []) (tr Z) (fun _ h => h) (.inr rfl) ?_
    rintro r σ' ⟨R, qs, rfl, hqs, rfl⟩
    refine As.name (by walk_at "zm") (by walk_at "zs") ?_
    refine Tr.nd fun hnd => ?_
    have hnd' : R ≠ P := by simpa using hnd
    refine Ex.cons <| Ex1.ret <| Ev.call (by walk_at "zm") <| EvL.cons <| Ev.name (by walk_at "zm") <| EvL.cons <| Ev.name (by walk_at "zm") <| EvL.nil <| CallP.of (φ := [(P, .obj (tabObj qs))]) (join_one (n := n) T hl) (by intro q hq; simp at hq ⊢; rcases hq with h | h <;> simp [h]) (.inl (by simpa using Ne.symm hnd')) ?_
    rintro r σ' ⟨rfl, rfl⟩
    exact ⟨by rw [ho], qs, hqs, rfl⟩
end Mine.Tactic
end
section
open PySem PySem.W PyProof.Rows PySem.Calls
set_option Elab.async false
set_option maxRecDepth 100000
namespace Mine.Tactic
noncomputable abbrev gp (l : List PV) (i : Nat) : PV := l.getD i .none
theorem gp_set {l : List PV} {i j : Nat} {x : PV} (hi : i < l.length) : gp (l.set i x) j = if i = j then x else gp l j := by
  unfold gp
  rw [List.getD_eq_getElem?_getD, List.getElem?_set, List.getD_eq_getElem?_getD]
  by_cases h : i = j
  · rw [if_pos h, if_pos h, if_pos hi]; rfl
  · rw [if_neg h, if_neg h]
noncomputable def Kid (i c : Nat) : Prop := c = 2 * i + 1 ∨ c = 2 * i + 2
structure OrdOn (D : PV → Prop) (lt : PV → PV → Bool) : Prop where
  tr : ∀ a b c, D a → D b → D c → lt b a = false → lt c b = false → lt c a = false
  tot : ∀ a b, D a → D b → lt a b = true → lt b a = false
section
variable {D : PV → Prop} {lt : PV → PV → Bool}
noncomputable def HP (lt : PV → PV → Bool) (s : Nat) (l : List PV) : Prop := ∀ i c, s ≤ i → Kid i c → c < l.length → lt (gp l c) (gp l i) = false
inductive Below (s : Nat) : Nat → Prop
  | refl : Below s s
  | kid {i c : Nat} : Below s i → Kid i c → Below s c
theorem Below.le {s p : Nat} (h : Below s p) : s ≤ p := by
  induction h with
  | refl => exact Nat.le_refl _
  | kid _ hk ih => unfold Kid at hk; walk_at "zo"
theorem Below.up {s p : Nat} (h : Below s p) (hs : s < p) : Below s ((p - 1) / 2) := by
  cases h with
  | refl => exact absurd hs (Nat.lt_irrefl _)
  | @kid i c hb hk =>
    have : (p - 1) / 2 = i := by unfold Kid at hk; walk_at "zo"
    rw [this]; exact hb
structure Hole (lt : PV → PV → Bool) (s p : Nat) (l : List PV) : Prop where
  d : Below s p
  h2 : p < l.length
  a : ∀ i c, s ≤ i → Kid i c → c < l.length → i ≠ p → c ≠ p → lt (gp l c) (gp l i) = false
  b : ∀ q c, s ≤ q → Kid q p → Kid p c → c < l.length → lt (gp l c) (gp l q) = false
theorem gp_D {l : List PV} (hD : ∀ x ∈ l, D x) {i : Nat} (h : i < l.length) : D (gp l i) := hD _ (getD_mem h)
theorem set_swap {l : List PV} {p q : Nat} {x : PV} (hp : p < l.length) (hq : q < l.length) (hne : p ≠ q) : ((l.set p (gp l q)).set q x).Perm (l.set p x) := by
  have hp' : p < (l.set p x).length := by rw [List.length_set]; exact hp
  have hq' : q < (l.set p x).length := by rw [List.length_set]; exact hq
  have := List.set_set_perm (as := l.set p x) hp' hq'
  have e1 : (l.set p x)[q] = gp l q := by
    rw [List.getElem_set_ne hne]; unfold gp; rw [List.getD_eq_getElem?_getD, List.getElem?_eq_getElem hq]; rfl
  have e2 : (l.set p x)[p] = x := List.getElem_set_self _
  rw [e1, e2, List.set_set] at this
  exact this
theorem siftU_ok (O : OrdOn D lt) {s : Nat} {x : PV} (_hx : D x) : ∀ (f p : Nat) (l : List PV), (∀ y ∈ l, D y) → Hole lt s p l → l.length ≤ p + f →
    Hole lt s (siftU lt f p l).1 (siftU lt f p l).2 ∧ (∀ y ∈ (siftU lt f p l).2, D y) ∧ ¬ 2 * (siftU lt f p l).1 + 1 < (siftU lt f p l).2.length ∧ ((siftU lt f p l).2.set (siftU lt f p l).1 x).Perm (l.set p x)
  | 0, p, l, hD, H, hf => absurd H.h2 (by walk_at "zo")
  | f + 1, p, l, hD, H, hf => by
    rw [siftU_step]
    split
    · rename_i hc
      have hk := childP_lt (lt := lt) hc
      have hck : Kid p (childP lt (2 * p + 1) l) := by unfold Kid childP; split <;> walk_at "zo"
      have hbest : ∀ c, Kid p c → c < l.length → lt (gp l c) (gp l (childP lt (2 * p + 1) l)) = false := by
        intro c hkc hcl
        have irr : ∀ y, D y → lt y y = false := fun y hy => by
          cases e : lt y y with
          | false => rfl
          | true => rw [← e]; exact O.tot y y hy hy e
        unfold childP
        split
        · rename_i h
          rcases hkc with rfl | rfl
          · exact h.2
          · exact irr _ (gp_D hD hcl)
        · rename_i h
          rcases hkc with rfl | rfl
          · exact irr _ (gp_D hD hcl)
          · have : lt (gp l (2 * p + 1)) (gp l (2 * p + 1 + 1)) = true := by
              cases e : lt (gp l (2 * p + 1)) (gp l (2 * p + 1 + 1)) with
              | true => rfl
              | false => exact absurd ⟨hcl, e⟩ h
            exact O.tot _ _ (gp_D hD hc) (gp_D hD hcl) this
      generalize childP lt (2 * p + 1) l = c' at hk hck hbest ⊢
      have hpc : p ≠ c' := by unfold Kid at hck; walk_at "zo"
      have H' : Hole lt s c' (l.set p (gp l c')) := by
        refine ⟨H.d.kid hck, by rw [List.length_set]; exact hk.2, ?_, ?_⟩
        · intro i c hi hkid hcl hic hcc
          rw [List.length_set] at hcl
          rw [gp_set H.h2, gp_set H.h2]
          by_cases e1 : p = c
          · rw [if_pos e1]
            subst e1
            by_cases e2 : p = i
            · unfold Kid at hkid; walk_at "zo"
            · rw [if_neg e2]; exact H.b i c' hi hkid hck hk.2
          · rw [if_neg e1]
            by_cases e2 : p = i
            · rw [if_pos e2]; subst e2; exact hbest c hkid hcl
            · rw [if_neg e2]; exact H.a i c hi hkid hcl (fun e => e2 e.symm) (fun e => e1 e.symm)
        · intro q d hq hkq hkd hdl
          rw [List.length_set] at hdl
          have hqp : q = p := by unfold Kid at hkq hck; walk_at "zo"
          subst hqp
          rw [gp_set H.h2, gp_set H.h2, if_pos rfl, if_neg (by unfold Kid at hkd hck; walk_at "zo")]
          exact H.a c' d (by have := H.d.le; unfold Kid at hck; walk_at "zo") hkd hdl (fun e => hpc e.symm) (by unfold Kid at hkd hck; walk_at "zo")
      obtain ⟨k1, k2, k3, k4⟩ := siftU_ok O _hx f c' (l.set p (gp l c')) (set_all hD (gp_D hD hk.2)) H' (by rw [List.length_set]; unfold Kid at hck; walk_at "zo")
      exact ⟨k1, k2, k3, k4.trans (set_swap H.h2 hk.2 hpc)⟩
    · rename_i hc
      exact ⟨H, hD, hc, .refl _⟩
theorem siftD_ok (O : OrdOn D lt) {s : Nat} {x : PV} (hx : D x) : ∀ (f p : Nat) (l : List PV), (∀ y ∈ l, D y) → Hole lt s p l → (∀ c, Kid p c → c < l.length → lt (gp l c) x = false) → p ≤ f →
    HP lt s (siftD lt s x f p l) ∧ (siftD lt s x f p l).Perm (l.set p x) := by
  have done : ∀ (p : Nat) (l : List PV), Hole lt s p l → (∀ c, Kid p c → c < l.length → lt (gp l c) x = false) → (∀ q, s ≤ q → Kid q p → lt x (gp l q) = false) → HP lt s (l.set p x) := by
    intro p l H hb hq i c hi hk hc
    rw [List.length_set] at hc
    rw [gp_set H.h2, gp_set H.h2]
    by_cases e1 : p = c
    · subst e1
      rw [if_pos rfl, if_neg (by unfold Kid at hk; walk_at "zo")]
      exact hq i hi hk
    · rw [if_neg e1]
      by_cases e2 : p = i
      · rw [if_pos e2]; subst e2; exact hb c hk hc
      · rw [if_neg e2]; exact H.a i c hi hk hc (fun e => e2 e.symm) (fun e => e1 e.symm)
  intro f
  induction f with
  | zero =>
    intro p l hD H hb hf
    have : p = 0 := by walk_at "zo"
    subst this
    exact ⟨done 0 l H hb fun q _ hk => by unfold Kid at hk; walk_at "zo", .refl _⟩
  | succ f ih =>
    intro p l hD H hb hf
    rw [siftD_step]
    split
    · rename_i hs
      have hkp : Kid ((p - 1) / 2) p := by unfold Kid; walk_at "zo"
      have hql : (p - 1) / 2 < l.length := by have := H.h2; walk_at "zo"
      split
      · rename_i hlt
        have hne : p ≠ (p - 1) / 2 := by walk_at "zo"
        have hbel := H.d.up hs
        generalize hq : (p - 1) / 2 = q at *
        have hDq := gp_D hD hql
        have hsq := hbel.le
        · have H' : Hole lt s q (l.set p (gp l q)) := by
            refine ⟨hbel, by rw [List.length_set]; exact hql, ?_, ?_⟩
            · intro i c hi hk hc hiq hcq
              rw [List.length_set] at hc
              rw [gp_set H.h2, gp_set H.h2]
              by_cases e1 : p = c
              · subst e1
                exact absurd (show i = q by unfold Kid at hk hkp; walk_at "zo") hiq
              · rw [if_neg e1]
                by_cases e2 : p = i
                · rw [if_pos e2]; subst e2; exact H.b q c hsq hkp hk hc
                · rw [if_neg e2]; exact H.a i c hi hk hc (fun e => e2 e.symm) (fun e => e1 e.symm)
            · intro r c hr hkr hkc hc
              rw [List.length_set] at hc
              rw [gp_set H.h2, gp_set H.h2]
              have hrp : ¬ p = r := by unfold Kid at hkr hkp; walk_at "zo"
              rw [if_neg hrp]
              have h1 := H.a r q hr hkr hql (fun e => hrp e.symm) (fun e => hne e.symm)
              by_cases e1 : p = c
              · rw [if_pos e1]; exact h1
              · rw [if_neg e1]
                have h2 := H.a q c hsq hkc hc (fun e => hne e.symm) (fun e => e1 e.symm)
                exact O.tr _ _ _ (gp_D hD (by unfold Kid at hkr; walk_at "zo")) hDq (gp_D hD hc) h1 h2
          have hb' : ∀ c, Kid q c → c < (l.set p (gp l q)).length → lt (gp (l.set p (gp l q)) c) x = false := by
            intro c hk hc
            rw [List.length_set] at hc
            rw [gp_set H.h2]
            have h1 := O.tot _ _ hx hDq hlt
            by_cases e1 : p = c
            · rw [if_pos e1]; exact h1
            · rw [if_neg e1]
              exact O.tr _ _ _ hx hDq (gp_D hD hc) h1 (H.a q c hsq hk hc (fun e => hne e.symm) (fun e => e1 e.symm))
          obtain ⟨k1, k2⟩ := ih q (l.set p (gp l q)) (set_all hD hDq) H' hb' (by walk_at "zo")
          exact ⟨k1, k2.trans (set_swap H.h2 hql hne)⟩
      · rename_i hlt
        refine ⟨done p l H hb fun q' hq' hk => ?_, .refl _⟩
        have : q' = (p - 1) / 2 := by unfold Kid at hk; walk_at "zo"
        rw [this]; simpa using hlt
    · rename_i hs
      exact ⟨done p l H hb fun q' hq' hk => absurd hs (by have := H.d.le; unfold Kid at hk; walk_at "zo"), .refl _⟩
theorem siftUp_ok (O : OrdOn D lt) {s : Nat} {l : List PV} (hs : s < l.length) (hD : ∀ y ∈ l, D y) (h : HP lt (s + 1) l) : HP lt s (siftUp lt s l) ∧ (siftUp lt s l).Perm l := by
  have hx : D (gp l s) := gp_D hD hs
  have H0 : Hole lt s s l := ⟨.refl, hs, fun i c hi hk hc hi' _ => h i c (by walk_at "zo") hk hc, fun q c hq hk _ _ => absurd hq (by unfold Kid at hk; walk_at "zo")⟩
  obtain ⟨k1, k2, k3, k4⟩ := siftU_ok O hx l.length s l hD H0 (by walk_at "zo")
  unfold siftUp
  have e0 : l.set s (gp l s) = l := by
    apply List.ext_getElem?
    intro j
    rw [List.getElem?_set]
    by_cases e : s = j
    · subst e
      rw [if_pos rfl, if_pos hs, List.getElem?_eq_getElem hs]; unfold gp; rw [List.getD_eq_getElem?_getD, List.getElem?_eq_getElem hs]; rfl
    · rw [if_neg e]
  generalize hp : (siftU lt l.length s l).1 = p at *
  generalize hl : (siftU lt l.length s l).2 = m at *
  have hset : ∀ j, gp (m.set p (gp l s)) j = if p = j then gp l s else gp m j := fun j => gp_set k1.h2
  have H1 : Hole lt s p (m.set p (gp l s)) := by
    refine ⟨k1.d, by rw [List.length_set]; exact k1.h2, fun i c hi hk hc hip hcp => ?_, fun q c hq hk1 hk2 hc => ?_⟩
    · rw [List.length_set] at hc
      rw [hset, hset, if_neg (fun e => hcp e.symm), if_neg (fun e => hip e.symm)]
      exact k1.a i c hi hk hc hip hcp
    · rw [List.length_set] at hc
      exact absurd hc (by unfold Kid at hk2; walk_at "zo")
  obtain ⟨j1, j2⟩ := siftD_ok O hx p p (m.set p (gp l s)) (set_all k2 hx) H1 (fun c hk hc => by rw [List.length_set] at hc; exact absurd hc (by unfold Kid at hk; walk_at "zo")) (Nat.le_refl _)
  refine ⟨j1, j2.trans ?_⟩
  rw [List.set_set]
  exact k4.trans (by rw [e0])
theorem perm_D {l m : List PV} (h : m.Perm l) (hD : ∀ y ∈ l, D y) : ∀ y ∈ m, D y := fun y hy => hD y (h.mem_iff.mp hy)
theorem heapify_ok (O : OrdOn D lt) : ∀ (k : Nat) (l : List PV), k ≤ l.length → (∀ y ∈ l, D y) → HP lt k l → HP lt 0 (heapifyP lt k l) ∧ (heapifyP lt k l).Perm l
  | 0, l, _, _, h => ⟨h, .refl _⟩
  | k + 1, l, hk, hD, h => by
    obtain ⟨h1, h2⟩ := siftUp_ok O (by walk_at "zo") hD h
    obtain ⟨h3, h4⟩ := heapify_ok O k (siftUp lt k l) (by rw [h2.length_eq]; walk_at "zo") (perm_D h2 hD) h1
    exact ⟨h3, h4.trans h2⟩
theorem heapify_half (O : OrdOn D lt) {l : List PV} (hD : ∀ y ∈ l, D y) : HP lt 0 (heapifyP lt (l.length / 2) l) ∧ (heapifyP lt (l.length / 2) l).Perm l :=
  heapify_ok O _ l (by walk_at "zo") hD fun i c hi hk hc => by unfold Kid at hk; walk_at "zo"
theorem heap_least (O : OrdOn D lt) {l : List PV} (hD : ∀ y ∈ l, D y) (h : HP lt 0 l) : ∀ i, i < l.length → lt (gp l i) (gp l 0) = false := by
  intro i
  induction i using Nat.strongRecOn with
  | _ i ih =>
    intro hi
    by_cases h0 : i = 0
    · subst h0
      cases e : lt (gp l 0) (gp l 0) with
      | false => rfl
      | true => rw [← e]; exact O.tot _ _ (gp_D hD hi) (gp_D hD hi) e
    · have hk : Kid ((i - 1) / 2) i := by unfold Kid; walk_at "zo"
      have hq : (i - 1) / 2 < l.length := by walk_at "zo"
      exact O.tr _ _ _ (gp_D hD (by walk_at "zo")) (gp_D hD hq) (gp_D hD hi) (ih ((i - 1) / 2) (by walk_at "zo") hq) (h _ i (Nat.zero_le _) hk hi)
theorem heappop_ok (O : OrdOn D lt) {l : List PV} (h0 : 0 < l.length) (hD : ∀ y ∈ l, D y) (h : HP lt 0 l) :
    HP lt 0 (heappopP lt l).2 ∧ ((heappopP lt l).1 :: (heappopP lt l).2).Perm l ∧ ∀ y ∈ (heappopP lt l).2, lt y (heappopP lt l).1 = false := by
  have mem : ∀ y ∈ l, lt y (gp l 0) = false := fun y hy => by
    obtain ⟨i, hi, rfl⟩ := List.mem_iff_getElem.mp hy
    have := heap_least O hD h i hi
    have e : gp l i = l[i] := by unfold gp; rw [List.getD_eq_getElem?_getD, List.getElem?_eq_getElem hi]; rfl
    rwa [e] at this
  unfold heappopP
  split
  · rename_i h1
    obtain ⟨x, rfl⟩ : ∃ x, l = [x] := by
      match l, h0, h1 with
      | [x], _, _ => exact ⟨x, rfl⟩
    exact ⟨fun i c _ _ hc => absurd hc (Nat.not_lt_zero _), .refl _, fun y hy => nomatch hy⟩
  · rename_i h1
    obtain ⟨x, r, rfl⟩ : ∃ x r, l = x :: r := by cases l with | nil => cases h0 | cons x r => exact ⟨x, r, rfl⟩
    have hr : r ≠ [] := by rintro rfl; exact h1 (Nat.le_refl _)
    obtain ⟨m, z, rfl⟩ : ∃ m z, r = m ++ [z] := ⟨_, _, (List.dropLast_concat_getLast hr).symm⟩
    have e1 : (x :: (m ++ [z])).dropLast = x :: m := by rw [← List.cons_append, List.dropLast_concat]
    have e2 : (x :: (m ++ [z])).getD ((x :: (m ++ [z])).length - 1) .none = z := by
      rw [← List.cons_append, List.length_append, List.getD_eq_getElem?_getD]
      simp
    rw [e1, e2]
    have e3 : (x :: m).set 0 z = z :: m := rfl
    rw [e3]
    have hp : (z :: m).Perm (m ++ [z]) := (List.perm_append_singleton z m).symm
    have hDz : ∀ y ∈ z :: m, D y := fun y hy => hD y (.tail _ (hp.mem_iff.mp hy))
    have gpm : ∀ i, 0 < i → i < m.length + 1 → gp (z :: m) i = gp (x :: (m ++ [z])) i := fun i hi hl => by
      obtain ⟨j, rfl⟩ : ∃ j, i = j + 1 := ⟨i - 1, by walk_at "zo"⟩
      unfold gp
      rw [List.getD_eq_getElem?_getD, List.getD_eq_getElem?_getD, List.getElem?_cons_succ, List.getElem?_cons_succ, List.getElem?_append_left (by walk_at "zo")]
    have hH : HP lt (0 + 1) (z :: m) := fun i c hi hk hc => by
      rw [List.length_cons] at hc
      have hci : i < c := by unfold Kid at hk; walk_at "zo"
      rw [gpm i (by walk_at "zo") (by walk_at "zo"), gpm c (by walk_at "zo") hc]
      exact h i c (Nat.zero_le _) hk (by rw [List.length_cons, List.length_append]; show c < m.length + 1 + 1; walk_at "zo")
    obtain ⟨k1, k2⟩ := siftUp_ok O (s := 0) (l := z :: m) (by simp) hDz hH
    refine ⟨k1, (k2.trans hp).cons x, fun y hy => mem y (.tail _ ((k2.trans hp).mem_iff.mp hy))⟩
end
end Mine.Tactic
end
section
open PySem PySem.W PyProof.Rows PySem.Calls
set_option Elab.async false
set_option maxRecDepth 100000
namespace Mine.Tactic
noncomputable def item3 (a b c : Int) : PV := .tup [.int a, .int b, .int c]
noncomputable def lt3 : PV → PV → Bool
  | .tup a, .tup b => ltPs a b
  | _, _ => false
noncomputable def isT3 (p : PV) : Prop := ∃ a b c : Int, p = item3 a b c
theorem lt3_ok {C : Cx} {n : Nat} : LtOk C n isT3 lt3 := fun env κ ns cn ρ σ p q Q ⟨a, b, c, ha⟩ ⟨d, e, f, hb⟩ h => by
  subst ha; subst hb
  exact Op2.ltT rfl h
theorem lt3_iff (a b c d e f : Int) : lt3 (item3 a b c) (item3 d e f) = true ↔ (a < d ∨ (a = d ∧ (b < e ∨ (b = e ∧ c < f)))) := by
  show (if (a == d) then (if (b == e) then (if (c == f) then false else decide (c < f)) else decide (b < e)) else decide (a < d)) = true ↔ _
  by_cases e1 : a = d
  · subst e1
    rw [beq_self_eq_true, if_pos rfl]
    by_cases e2 : b = e
    · subst e2
      rw [beq_self_eq_true, if_pos rfl]
      by_cases e3 : c = f
      · subst e3
        rw [beq_self_eq_true, if_pos rfl]
        constructor
        · intro h; cases h
        · intro h; walk_at "zo"
      · rw [beq_eq_false_iff_ne.mpr e3, if_neg (by decide), decide_eq_true_eq]; walk_at "zo"
    · rw [beq_eq_false_iff_ne.mpr e2, if_neg (by decide), decide_eq_true_eq]; walk_at "zo"
  · rw [beq_eq_false_iff_ne.mpr e1, if_neg (by decide), decide_eq_true_eq]; walk_at "zo"
theorem lx_neg {a d : Int} {P : Prop} : ¬ (a < d ∨ (a = d ∧ P)) ↔ (d < a ∨ (d = a ∧ ¬ P)) :=
  ⟨fun h => (Int.lt_or_eq_of_le (Int.not_lt.mp fun k => h (.inl k))).imp_right fun e => ⟨e, fun k => h (.inr ⟨e.symm, k⟩)⟩,
   fun h k => h.elim (fun h => k.elim (fun k => Int.lt_irrefl _ (Int.lt_trans h k)) fun k => Int.lt_irrefl a (k.1 ▸ h : a < a)) fun h => k.elim (fun k => Int.lt_irrefl a (h.1 ▸ k : a < a)) fun k => h.2 k.2⟩
theorem lx_tr {a b c : Int} {P Q R : Prop} (t : P → Q → R) (h : b < a ∨ (b = a ∧ P)) (k : c < b ∨ (c = b ∧ Q)) : c < a ∨ (c = a ∧ R) :=
  h.elim (fun h => .inl (k.elim (fun k => Int.lt_trans k h) fun k => k.1 ▸ h)) fun h => k.elim (fun k => .inl (h.1 ▸ k)) fun k => .inr ⟨k.1.trans h.1, t h.2 k.2⟩
theorem lt3_neg (a b c d e f : Int) : lt3 (item3 a b c) (item3 d e f) = false ↔ (d < a ∨ (d = a ∧ (e < b ∨ (e = b ∧ ¬ c < f)))) := by
  rw [← Bool.not_eq_true, lt3_iff, lx_neg, lx_neg]
theorem lt3_ord : OrdOn isT3 lt3 := by
  refine ⟨?_, ?_⟩
  · rintro _ _ _ ⟨a, b, c, rfl⟩ ⟨d, e, f, rfl⟩ ⟨g, h, i, rfl⟩ h1 h2
    rw [lt3_neg] at h1 h2 ⊢
    exact lx_tr (lx_tr fun p q k => q (Int.lt_of_le_of_lt (Int.not_lt.mp p) k)) h2 h1
  · rintro _ _ ⟨a, b, c, rfl⟩ ⟨d, e, f, rfl⟩ h
    rw [lt3_iff] at h
    rw [lt3_neg]
    exact h.imp_right fun h => ⟨h.1, h.2.imp_right fun h => ⟨h.1, Int.not_lt.mpr (Int.le_of_lt h.2)⟩⟩
theorem item3_le {a b c d e f : Int} (h : lt3 (item3 d e f) (item3 a b c) = false) : a ≤ d :=
  ((lt3_neg ..).mp h).elim Int.le_of_lt fun h => Int.le_of_eq h.1
theorem pop3 {α : Type} [BEq α] [LawfulBEq α] {f : α → PV} (hT : ∀ a, isT3 (f a)) (inj : ∀ a b, f a = f b → a = b) {R : List α} {hp : List PV} (hP : hp.Perm (R.map f)) (hH : HP lt3 0 hp) (h0 : 0 < hp.length) :
    ∃ q ∈ R, (heappopP lt3 hp).1 = f q ∧ (heappopP lt3 hp).2.Perm ((R.erase q).map f) ∧ HP lt3 0 (heappopP lt3 hp).2 ∧ (heappopP lt3 hp).2.length + 1 = hp.length ∧ ∀ r ∈ R.erase q, lt3 (f r) (f q) = false := by
  have hD : ∀ y ∈ hp, isT3 y := fun y hy => by
    obtain ⟨x, _, rfl⟩ := List.mem_map.mp (hP.mem_iff.mp hy)
    exact hT x
  obtain ⟨h1, h2, h3⟩ := heappop_ok lt3_ord h0 hD hH
  obtain ⟨q, hq, e⟩ := List.mem_map.mp (hP.mem_iff.mp (h2.mem_iff.mp (.head _)))
  have hpr : (heappopP lt3 hp).2.Perm ((R.erase q).map f) := by
    have a : ((heappopP lt3 hp).1 :: (heappopP lt3 hp).2).Perm (f q :: (R.erase q).map f) := (h2.trans hP).trans ((List.perm_cons_erase hq).map f)
    rw [← e] at a
    exact a.cons_inv
  refine ⟨q, hq, e.symm, hpr, h1, h2.length_eq, fun r hr => ?_⟩
  have := h3 (f r) (hpr.mem_iff.mpr (List.mem_map_of_mem hr))
  rw [← e] at this
  exact this
structure HeapK (C : Cx) (p : Params) : Prop where
  sd : FnAt C aG__siftdown (fdOf p aG__siftdown)
  su : FnAt C aG__siftup (fdOf p aG__siftup)
  hp : FnAt C aG_heappop (fdOf p aG_heappop)
  hf : FnAt C aG_heapify (fdOf p aG_heapify)
  gl : Sub glH C.gl
end Mine.Tactic
end
section
open PySem PySem.W PyProof.Rows PySem.Calls
set_option Elab.async false
set_option maxRecDepth 100000
namespace Mine.Tactic

noncomputable def AB5 : List Nat := [97, 98, 99, 100, 101]
theorem cs5 : cs "abcde" = AB5 := by decide
noncomputable def nums1 (l : List Int) : List Int := (l.take 5 ++ [2, 13, 20, 9, 6]).take 5
theorem nums1_len (l : List Int) : (nums1 l).length = 5 := by unfold nums1; rw [List.length_take, List.length_append]; show min 5 (_ + 5) = 5; walk_at "zo"
noncomputable def bitK (m : Int) (k : Nat) : Bool := m / 2 ^ k % 2 == 1
noncomputable def setB (m : Int) : List Nat := ((List.range 5).filter (bitK m)).map (97 + ·)
noncomputable def setsP (ns : List Int) : List (List Nat) := ns.map fun m => setB (m % 31 + 1)
theorem five {k : Nat} (h : k < 5) : k = 0 ∨ k = 1 ∨ k = 2 ∨ k = 3 ∨ k = 4 := of_below (p := fun k => k = 0 ∨ k = 1 ∨ k = 2 ∨ k = 3 ∨ k = 4) h (by decide)
theorem pow5 {k : Nat} (h : k < 5) : 0 < (2 : Int) ^ k ∧ (2 : Int) ^ k < 1073741824 := of_below (p := fun k => 0 < (2 : Int) ^ k ∧ (2 : Int) ^ k < 1073741824) h (by decide)
theorem at5 {k : Nat} (h : k < 5) : (cs "abcde")[pyIx (k : Int) (cs "abcde").length]? = some (97 + k) := of_below (p := fun k : Nat => (cs "abcde")[pyIx (k : Int) (cs "abcde").length]? = some (97 + k)) h (by decide)
theorem len5 : (cs "abcde").length = 5 := by decide
theorem setB_len (m : Int) : (setB m).length ≤ 5 := by unfold setB; rw [List.length_map]; exact Nat.le_trans (List.length_filter_le _ _) (by rw [List.length_range]; walk_at "zo")
theorem one_sum (l : List Nat) : ((l.map fun c => [c]).map List.length).sum = l.length := by rw [← List.length_flatten, flat_signs]
theorem one_str (l : List Nat) : (l.map fun c => PV.str [c]) = (l.map fun c => [c]).map PV.str := by rw [List.map_map]; rfl
theorem rng5 (n : Nat) (h : n ≤ 1000) : Builtin.Range.small 0 (n : Int) 1 = true := small1 (by decide) (by decide) (by walk_at "zo") (by walk_at "zo")
section
variable {G : Gx} {ρ : Rho} {σ : Led} {Q : PV → Rho → Led → Prop}
theorem CallP.joinC {l : List Nat} (hl : l.length ≤ 1000) (h : Q (.str l) ρ σ) : CallP G (.con (.builtin "str.join")) [.str (cs ""), .lst (l.map fun c => .str [c])] [] ρ σ Q := by
  rw [one_str]
  refine CallP.joinL (ls := l.map fun c => [c]) rfl ?_ ?_
  · rw [one_sum, show (cs "").length = 0 by decide]; walk_at "zo"
  · rw [pyJoin_flat, flat_signs]; exact h
end
noncomputable abbrev nsSE : Names := [("script", .local), ("numbers", .local)]
noncomputable abbrev glSE : Rho := [("range", .con (.type "range"))]
set_option maxHeartbeats 8000000 in
theorem sets_spec {C : Cx} {p : Params} {n : Nat} (hf : FnAt C aG__law_sets (fdOf p aG__law_sets)) (hgr : Sub glSE C.gl) {l : List Int} (hl : l.length ≤ 1000) :
    FnSpec C (n + 1) (.ref aG__law_sets) [.lst (l.map .int)] [] [] (fun r σ' => r = .lst ((setsP (nums1 l)).map .str) ∧ σ' = []) := by
  have hg : Sub [] C.gl := Sub.nil
  refine FnSpec.of (body := ?bd) ["script"] [.lst (l.map .int)] nsSE [] [] (sc := ?sc) hf ?hb ?hsc ?hgl ?hbi ?hcl ?hok hg rfl ?_ ?_
  case hb => with_unfolding_all rfl
  case hsc => with_unfolding_all rfl
  case hgl => with_unfolding_all rfl
  case hbi => with_unfolding_all rfl
  case hcl => with_unfolding_all rfl
  case hok => kernel_rfl
  · intro im s vs kvs hk hv hkw
    obtain ⟨v, rfl, h1⟩ := one_v hv
    have : kvs = [] := by have := hkw.1; simpa using this
    subst this
    have e : bindArgs (fdOf p aG__law_sets) ⟨[v], []⟩ = pure ((["script"].map Str.ofString).zip [v]) := by kernel_rfl
    refine ⟨[v], hv, ?_⟩
    intro M A E Q h
    rw [e]
    exact wpAny_pure h
  · intro env κ
    show Ex _ _ [("script", .lst (l.map .int))] _ _
    have s1 : pySl (l.map PV.int) none (some (5 : Int)) = (l.take 5).map PV.int := by
      unfold pySl
      show (List.drop 0 _).take ((clampI (l.map PV.int).length (l.map PV.int).length (some 5)) - 0) = _
      rw [List.drop_zero, List.length_map, List.map_take]
      show (l.map PV.int).take (min 5 l.length - 0) = _
      rw [Nat.sub_zero, ← List.length_map (f := PV.int), List.take_eq_take_iff]; walk_at "zo"
    have s2 : pySl ((l.take 5).map PV.int ++ [PV.int 2, PV.int 13, PV.int 20, PV.int 9, PV.int 6]) none (some (5 : Int)) = (nums1 l).map .int := by
      have e : (l.take 5).map PV.int ++ [PV.int 2, PV.int 13, PV.int 20, PV.int 9, PV.int 6] = (l.take 5 ++ [2, 13, 20, 9, 6]).map PV.int := by rw [List.map_append]; rfl
      rw [e]
      unfold nums1 pySl
      show (List.drop 0 _).take ((clampI _ _ (some 5)) - 0) = _
      rw [List.drop_zero, List.map_take]
      congr 1
      rw [List.length_map, List.length_append]
      show min 5 (_ + 5) - 0 = 5
      walk_at "zo"
    have h5 := nums1_len l
    refine Ex.cons <| Ex1.asgComp (hy := ?hy) (hsw := ?hsw) (hsc := ?hsc) <| Ev.slice <| Ev.binop <| Ev.slice <| Ev.name (by walk_at "zm") <| Ev.int ⟨_, rfl, SliceP.lst (by rw [List.length_map]; walk_at "zo") ?_⟩
    case hy => walk_at "zm"
    case hsw => kernel_rfl
    case hsc => kernel_rfl
    rw [s1]
    refine Ev.list <| EvL.cons <| Ev.int <| EvL.cons <| Ev.int <| EvL.cons <| Ev.int <| EvL.cons <| Ev.int <| EvL.cons <| Ev.int <| EvL.nil ⟨by simp, CallP.addL (by rw [List.length_map, List.length_take]; show _ + 5 ≤ _; walk_at "zo") ?_⟩
    refine Ev.int ⟨_, rfl, SliceP.lst (by rw [List.length_append, List.length_map, List.length_take]; show _ + 5 ≤ _; walk_at "zo") ?_⟩
    rw [s2]
    generalize nums1 l = ns at h5 ⊢
    refine ⟨[], [], [], _, [("x", .local)], [], [], [], ItSrc.lst, fun _ h => h, .inr rfl, List.nodup_nil, ?hck, (fun _ h => nomatch h), (fun _ h => nomatch h), ?_⟩
    case hck => kernel_rfl
    intro env1 κ1
    refine compItems.fa (compInner_mono _) [] PV.int (fun x : Int => [.int (x % 31 + 1)]) 1000 ns [] _ ?_ Sub.nil ?_ ?_
    · intro x hx acc ρ hacc hs'
      refine Con.rho2 [] hs' ?_
      refine As.name (by walk_at "zm") (by walk_at "zs") ?_
      show compInner _ _ _ _ _ _ _
      exact Ev.binop <| Ev.binop <| Ev.name (by walk_at "zm") <| Ev.int <| Op2.fmod (by decide) <| Ev.int <| Op2.add ⟨by walk_at "zo", rfl, rfl, Sub.nil⟩
    · rw [flat_one, List.nil_append, List.length_map]; walk_at "zo"
    intro ρ2 _
    rw [flat_one, List.nil_append]
    intro _
    refine As.name (by walk_at "zm") (by walk_at "zs") ?_
    show Ex _ _ _ _ _
    refine Ex.cons <| Ex1.ret <| Ev.comp (hsc := ?hsc) <| Ev.name (by walk_at "zm") ⟨[], [], [], _, [("x", .cell)], ["x"], [], [("range", .con (.type "range"))], ItSrc.lst, fun _ h => h, .inr rfl, List.nodup_nil, ?hck, (fun _ h => nomatch h), ?hgc, ?_⟩
    case hsc => kernel_rfl
    case hck => kernel_rfl
    case hgc => exact fun p hp => hgr p hp
    intro env3 κ3
    refine compItems.fa (compInner_mono _) [("range", .con (.type "range"))] (fun m : Int => .int (m % 31 + 1)) (fun m : Int => [.str (setB (m % 31 + 1))]) 1000 ns [] _ ?_ (by walk_at "zb") ?_ ?_
    · intro m hm acc ρ hacc hs'
      generalize m % 31 + 1 = x
      refine Con.rho2 ["range"] hs' ?_
      refine As.nameC (by walk_at "zm") (by walk_at "zs") ?_
      show compInner _ _ _ _ _ _ _
      refine Ev.meth <| Ev.str ⟨_, _, MethP.str F.slot_str_join F.type_str_join, EvL.cons <| Ev.comp (hsc := ?hsc) <| Ev.call (by walk_at "zm") <| EvL.cons <| Ev.int <| EvL.nil <| CallP.range1 ⟨[], [], [], _, [("k", .local)], [], [("x", .int x)], [], ItSrc.rng (n := 5) (rng5 5 (by decide)) (rangeSizeN (by decide)), fun _ h => h, .inr rfl, List.nodup_nil, ?hck, ?hrc, (fun _ h => nomatch h), ?_⟩⟩
      case hsc => kernel_rfl
      case hck => kernel_rfl
      case hrc => walk_at "zb"
      intro env4 κ4
      refine compItems.fa (compInner_mono _) [("x", .int x)] (fun k : Nat => .int (0 + k * 1)) (fun k => itIf (bitK x k) (.str [97 + k])) 1000 (List.range 5) [] _ ?_ (by walk_at "zb") ?_ ?_
      · intro k hk acc2 ρ2 hacc2 hs2
        have hk := List.mem_range.mp hk
        refine Con.rho2 ["x"] hs2 ?_
        refine As.nameN (j := (k : Int)) (by walk_at "zo") (by walk_at "zm") (by walk_at "zs") ?_
        have hp := pow5 hk
        refine Ts.compare <| Ev.binop <| Ev.binop <| Ev.name (by walk_at "zm") <| Ev.binop <| Ev.int <| Ev.name (by walk_at "zm") <| Op2.pow (by walk_at "zo") (by rcases five hk with rfl | rfl | rfl | rfl | rfl <;> decide) ?_
        rw [Int.toNat_natCast]
        refine Op2.fdiv hp.1 hp.2 <| Ev.int <| Op2.fmod (by decide) <| Ev.int <| Op2.eq <| TrueOf.bool ?_
        have hl5 := len5
        refine ite_b (fun h1 => ?_) (fun h1 => ?_)
        · show compInner _ _ _ _ _ _ _
          exact Ev.sub <| Ev.str <| Ev.name (by walk_at "zm") <| Op2.itemS (c := 97 + k) (by walk_at "zo") (by walk_at "zo") (by walk_at "zo") (at5 hk) ⟨by walk_at "zo", by rw [show bitK x k = true from h1]; rfl, rfl, by walk_at "zb"⟩
        · exact ⟨by rw [show bitK x k = false from h1]; rfl, rfl, by walk_at "zb"⟩
      · rw [flat_if, List.nil_append]; exact Nat.le_trans (if_len _ _ _) (by decide)
      intro ρ3 _
      rw [flat_if, List.nil_append]
      have e : ((List.range 5).filter (bitK x)).map (fun k => PV.str [97 + k]) = (setB x).map fun c => .str [c] := by unfold setB; rw [List.map_map]; rfl
      have hz := setB_len x
      rw [e]
      exact EvL.nil <| CallP.joinC (by walk_at "zo") ⟨by walk_at "zo", rfl, rfl, by walk_at "zb"⟩
    · rw [flat_one, List.nil_append, List.length_map]; walk_at "zo"
    intro ρ5 _
    rw [flat_one, List.nil_append]
    exact ⟨by unfold setsP; rw [List.map_map]; rfl, rfl⟩
end Mine.Tactic
end
section
open PySem PySem.W PyProof.Rows PySem.Calls
set_option Elab.async false
set_option maxRecDepth 100000
namespace Mine.Tactic

noncomputable def othersP (s : List Nat) : List Nat := AB5.filter fun x => !s.contains x
noncomputable def patB (s : List Nat) : Bool × List Nat := if (othersP s).length < 3 then (true, othersP s) else (false, s)
noncomputable def patP (s : List Nat) : List Nat := setPat (patB s).1 (patB s).2
noncomputable def takenP (b : Bool) (ls : List Nat) : List Nat := if ls = [] then AB5 else AB5.filter fun x => ls.contains x != b
theorem ite_ev {G : Gx} {e1 e2 : Expr} {ρ : Rho} {σ : Led} {K : PV → Rho → Led → Prop} {v : PV} {b : Bool} (h1 : b = true → ∀ K : PV → Rho → Led → Prop, K v ρ σ → Ev G e1 ρ σ K) (h2 : b = false → ∀ K : PV → Rho → Led → Prop, K v ρ σ → Ev G e2 ρ σ K) (h : K v ρ σ) : if b = true then Ev G e1 ρ σ K else Ev G e2 ρ σ K :=
  ite_b (fun e => h1 e K h) (fun e => h2 e K h)
noncomputable abbrev nsPA : Names := [("letters", .cell), ("others", .local)]
noncomputable abbrev glPA : Rho := [("len", .con (.builtin "len"))]
set_option maxHeartbeats 8000000 in
theorem pattern_spec {C : Cx} {p : Params} {n : Nat} (hf : FnAt C aG__law_pattern (fdOf p aG__law_pattern)) (hg : Sub glPA C.gl) {s : List Nat} (hs : s.length ≤ 5) (hne : s ≠ []) :
    FnSpec C (n + 1) (.ref aG__law_pattern) [.str s] [] [] (fun r σ' => r = .str (patP s) ∧ σ' = []) := by
  refine FnSpec.of (body := ?bd) ["letters"] [.str s] nsPA ["letters"] glPA (sc := ?sc) hf ?hb ?hsc ?hgl ?hbi ?hcl ?hok hg rfl ?_ ?_
  case hb => with_unfolding_all rfl
  case hsc => with_unfolding_all rfl
  case hgl => with_unfolding_all rfl
  case hbi => with_unfolding_all rfl
  case hcl => with_unfolding_all rfl
  case hok => kernel_rfl
  · intro im s vs kvs hk hv hkw
    obtain ⟨v, rfl, h1⟩ := one_v hv
    have : kvs = [] := by have := hkw.1; simpa using this
    subst this
    have e : bindArgs (fdOf p aG__law_pattern) ⟨[v], []⟩ = pure ((["letters"].map Str.ofString).zip [v]) := by kernel_rfl
    refine ⟨[v], hv, ?_⟩
    intro M A E Q h
    rw [e]
    exact wpAny_pure h
  · intro env κ
    show Ex _ _ [("len", .con (.builtin "len")), ("letters", .str s)] _ _
    have hol : (othersP s).length ≤ 5 := by unfold othersP; exact List.length_filter_le _ _
    have c0 : cs "" = [] := by decide
    have c1 : (cs "[!").length = 2 := by decide
    have c2 : (cs "]").length = 1 := by decide
    have c3 : (cs "[").length = 1 := by decide
    refine Ex.cons <| Ex1.asg <| Ev.meth <| Ev.str ⟨_, _, MethP.str F.slot_str_join F.type_str_join, EvL.cons <| Ev.comp (hsc := ?hsc) <| Ev.str ⟨[], [], [], _, [("x", .local)], [], [("letters", .str s)], [], ItSrc.str, fun _ h => h, .inr rfl, List.nodup_nil, ?hck, ?hrc, (fun _ h => nomatch h), ?_⟩⟩
    case hsc => kernel_rfl
    case hck => kernel_rfl
    case hrc => walk_at "zb"
    intro env1 κ1
    rw [signs_map, cs5]
    refine compItems.fa (compInner_mono _) [("letters", .str s)] (fun x : Nat => .str [x]) (fun x => itIf (!s.contains x) (.str [x])) 1000 AB5 [] _ ?_ (by walk_at "zb") ?_ ?_
    · intro x hx acc ρ hacc hs'
      refine Con.rho2 ["letters"] hs' ?_
      refine As.name (by walk_at "zm") (by walk_at "zs") ?_
      refine Ts.compare <| Ev.name (by walk_at "zm") <| Ev.name (by walk_at "zm") <| Op2.notInS <| TrueOf.bool ?_
      rw [contains_sign, ← List.contains_eq_mem]
      refine ite_b (fun h1 => ?_) (fun h1 => ?_)
      · show compInner _ _ _ _ _ _ _
        exact Ev.name (by walk_at "zm") ⟨by walk_at "zo", by rw [h1]; rfl, rfl, by walk_at "zb"⟩
      · exact ⟨by rw [h1]; rfl, rfl, by walk_at "zb"⟩
    · rw [flat_if, List.nil_append]; exact Nat.le_trans (if_len _ _ _) (by decide)
    intro ρ2 _
    rw [flat_if, List.nil_append]
    refine EvL.nil <| CallP.joinC (show (othersP s).length ≤ 1000 by walk_at "zo") ?_
    have ep : patP s = if (othersP s).length < 3 then setPat true (othersP s) else setPat false s := by unfold patP patB; split <;> rfl
    rw [show AB5.filter (fun x => !s.contains x) = othersP s from rfl]
    generalize othersP s = o at hol ep ⊢
    refine As.name (by walk_at "zm") (by walk_at "zs") ?_
    refine Ex.cons <| Ex1.if <| Ts.compare <| Ev.name (by walk_at "zm") <| Ev.str <| Op2.eqS <| TrueOf.bool ?_
    rw [c0]
    refine ite_b (fun h1 => ?_) (fun h1 => ?_)
    · have h1 := eq_of_beq h1
      subst h1
      exact Ex.cons <| Ex1.ret <| Ev.str ⟨by rw [ep]; rfl, rfl⟩
    refine Ex.nil ?_
    have h1 : o ≠ [] := by simpa using h1
    refine Ex.cons <| Ex1.ret <| Ev.ifexp <| Ts.compare <| Ev.call (by walk_at "zm") <| EvL.cons <| Ev.name (by walk_at "zm") <| EvL.nil <| CallP.lenS (by walk_at "zo") <| Ev.int <| Op2.lt <| TrueOf.bool ?_
    refine ite_dec (fun h2 => ?_) (fun h2 => ?_)
    · rw [if_pos (by walk_at "zo")] at ep
      refine Ev.binop <| Ev.binop <| Ev.str <| Ev.name (by walk_at "zm") <| Op2.addS (by walk_at "zo") <| Ev.str <| Op2.addS (by rw [List.length_append]; walk_at "zo") ⟨?_, rfl⟩
      rw [ep]; unfold setPat; rw [if_neg h1, show cs "[!" = [91, 33] by decide, cs_bra.2.1]; unfold braPat braBody; simp
    · rw [if_neg (by walk_at "zo")] at ep
      refine Ev.binop <| Ev.binop <| Ev.str <| Ev.name (by walk_at "zm") <| Op2.addS (by walk_at "zo") <| Ev.str <| Op2.addS (by rw [List.length_append]; walk_at "zo") ⟨?_, rfl⟩
      rw [ep]; unfold setPat; rw [if_neg hne, cs_bra.1, cs_bra.2.1]; unfold braPat braBody; simp
noncomputable abbrev nsTK : Names := [("text", .local), ("barred", .cell), ("body", .cell)]
set_option maxHeartbeats 8000000 in
theorem taken_spec {C : Cx} {p : Params} {n : Nat} (hf : FnAt C aG__law_taken (fdOf p aG__law_taken)) {b : Bool} {ls : List Nat} (hl : ls.length ≤ 5) (h94 : 94 ∉ ls) :
    FnSpec C (n + 1) (.ref aG__law_taken) [.str (setOut b ls)] [] [] (fun r σ' => r = .str (takenP b ls) ∧ σ' = []) := by
  have hg : Sub [] C.gl := Sub.nil
  refine FnSpec.of (body := ?bd) ["text"] [.str (setOut b ls)] nsTK ["barred", "body"] [] (sc := ?sc) hf ?hb ?hsc ?hgl ?hbi ?hcl ?hok hg rfl ?_ ?_
  case hb => with_unfolding_all rfl
  case hsc => with_unfolding_all rfl
  case hgl => with_unfolding_all rfl
  case hbi => with_unfolding_all rfl
  case hcl => with_unfolding_all rfl
  case hok => kernel_rfl
  · intro im s vs kvs hk hv hkw
    obtain ⟨v, rfl, h1⟩ := one_v hv
    have : kvs = [] := by have := hkw.1; simpa using this
    subst this
    have e : bindArgs (fdOf p aG__law_taken) ⟨[v], []⟩ = pure ((["text"].map Str.ofString).zip [v]) := by kernel_rfl
    refine ⟨[v], hv, ?_⟩
    intro M A E Q h
    rw [e]
    exact wpAny_pure h
  · intro env κ
    show Ex _ _ [("text", .str (setOut b ls))] _ _
    refine Ex.cons <| Ex1.if <| Ts.compare <| Ev.name (by walk_at "zm") <| Ev.str <| Op2.eqS <| TrueOf.bool ?_
    by_cases hne : ls = []
    · subst hne
      rw [show setOut b [] = cs "(?s:.)\\Z" from rfl, beq_self_eq_true]
      show Ex _ _ _ _ _
      exact Ex.cons <| Ex1.ret <| Ev.str ⟨by rw [cs5]; rfl, rfl⟩
    have et : setOut b ls = cs "(?s:[" ++ (if b then 94 :: ls else ls) ++ cs "])\\Z" := by
      unfold setOut; rw [if_neg hne]; unfold oneP braOut
      rw [cs_bra.1, cs_bra.2.1, show cs "(?s:" = [40, 63, 115, 58] by decide, show cs ")\\Z" = [41, 92, 90] by decide, show cs "(?s:[" = [40, 63, 115, 58, 91] by decide, show cs "])\\Z" = [93, 41, 92, 90] by decide]
      simp
    have ek : takenP b ls = AB5.filter fun x => ls.contains x != b := by unfold takenP; rw [if_neg hne]
    rw [et, ek]
    have d1 : (cs "(?s:[").length = 5 := by decide
    have d2 : (cs "])\\Z").length = 4 := by decide
    obtain ⟨c, r, hcr⟩ := List.exists_cons_of_ne_nil hne
    have hbl : (if b then 94 :: ls else ls).length ≤ 6 := by cases b <;> simp <;> walk_at "zo"
    have s4 : (if b then 94 :: ls else ls)[0]? = some (if b then 94 else c) := by subst hcr; cases b <;> rfl
    have hcb : ((if b then 94 else c) == 94) = b := by
      cases b with
      | true => rfl
      | false => rw [if_neg (by decide)]; exact beq_eq_false_iff_ne.mpr fun h => h94 (by rw [hcr, h]; exact .head _)
    have s3 : pySl (cs "(?s:[" ++ (if b then 94 :: ls else ls) ++ cs "])\\Z") (some (if b then 6 else 5 : Int)) (some (-4 : Int)) = ls := by
      cases b with
      | true =>
        rw [if_pos rfl, if_pos rfl, show cs "(?s:[" ++ (94 :: ls) ++ cs "])\\Z" = (cs "(?s:[" ++ [94]) ++ ls ++ cs "])\\Z" by simp]
        exact sl_mid (by rw [List.length_append, d1]; rfl) d2 (by decide)
      | false =>
        rw [if_neg (by decide), if_neg (by decide)]
        exact sl_mid d1 d2 (by decide)
    generalize (if b then 94 else c) = c0 at s4 hcb
    generalize (if b then 94 :: ls else ls) = bd at *
    have htl : (cs "(?s:[" ++ bd ++ cs "])\\Z").length = bd.length + 9 := by rw [List.length_append, List.length_append, d1, d2]; walk_at "zo"
    have hb1 : 0 < bd.length := List.getElem?_eq_some_iff.mp s4 |>.1
    have s1 : pySl (cs "(?s:[" ++ bd ++ cs "])\\Z") none (some (5 : Int)) = cs "(?s:[" := by rw [List.append_assoc]; exact sl_pre d1
    have s2 : pySl (cs "(?s:[" ++ bd ++ cs "])\\Z") (some (-4 : Int)) none = cs "])\\Z" := sl_suf d2 (by decide)
    have s6 : (cs "(?s:[" ++ bd ++ cs "])\\Z")[5]? = some c0 := by
      rw [List.append_assoc, List.getElem?_append_right (by rw [d1]; walk_at "zo"), d1, List.getElem?_append_left hb1]; exact s4
    have s5 : (cs "(?s:[" ++ bd ++ cs "])\\Z" == cs "(?s:.)\\Z") = false := by
      rw [beq_eq_false_iff_ne]; intro e
      have := congrArg List.length e
      rw [htl, show (cs "(?s:.)\\Z").length = 8 by decide] at this; walk_at "zo"
    generalize cs "(?s:[" ++ bd ++ cs "])\\Z" = text at *
    rw [s5]
    show Ex _ _ _ _ _
    refine Ex.nil ?_
    refine Ex.cons <| Ex1.if <| Ts.compare <| Ev.binop <| Ev.slice <| Ev.name (by walk_at "zm") <| Ev.int ⟨_, rfl, SliceP.str (by walk_at "zo") <| Ev.slice <| Ev.name (by walk_at "zm") <| Ev.unary <| Ev.int <| Op1.neg ⟨_, rfl, SliceP.str (by walk_at "zo") ?_⟩⟩
    rw [s1, s2]
    refine Op2.addS (by walk_at "zo") <| Ev.str <| Op2.neS <| TrueOf.bool ?_
    rw [show (cs "(?s:[" ++ cs "])\\Z" != cs "(?s:[])\\Z") = false by decide]
    show Ex _ _ _ _ _
    refine Ex.nil ?_
    refine Ex.cons <| Ex1.asg <| Ev.compare <| Ev.sub <| Ev.name (by walk_at "zm") <| Ev.int <| Op2.itemS (c := c0) (by walk_at "zo") (by walk_at "zo") (by walk_at "zo") (by unfold pyIx; rw [if_neg (by walk_at "zo")]; exact s6) <| Ev.str <| Op2.eqS <| As.nameC (by walk_at "zm") (by walk_at "zs") ?_
    rw [show ([c0] == cs "^") = b by rw [← hcb, cs_bra.2.2.2.2.2.2.2]; show (c0 == 94 && true) = _; rw [Bool.and_true]]
    refine Ex.cons <| Ex1.asg <| Ev.ifexp <| Ts.plain <| Ev.name (by walk_at "zm") <| TrueOf.bool ?_
    refine ite_ev (v := .str ls) (fun h1 K hK => ?_) (fun h1 K hK => ?_) ?_
    · rw [h1, if_pos rfl] at s3
      refine Ev.slice <| Ev.name (by walk_at "zm") <| Ev.int ⟨_, rfl, Ev.unary <| Ev.int <| Op1.neg ⟨_, rfl, SliceP.str (by walk_at "zo") ?_⟩⟩
      rw [s3]; exact hK
    · rw [h1, if_neg (by decide)] at s3
      refine Ev.slice <| Ev.name (by walk_at "zm") <| Ev.int ⟨_, rfl, Ev.unary <| Ev.int <| Op1.neg ⟨_, rfl, SliceP.str (by walk_at "zo") ?_⟩⟩
      rw [s3]; exact hK
    refine As.nameC (by walk_at "zm") (by walk_at "zs") ?_
    refine Ex.cons <| Ex1.ret <| Ev.meth <| Ev.str ⟨_, _, MethP.str F.slot_str_join F.type_str_join, EvL.cons <| Ev.comp (hsc := ?hsc) <| Ev.str ⟨[], [], [], _, [("x", .local)], [], [("body", .str ls), ("barred", .bool b)], [], ItSrc.str, fun _ h => h, .inr rfl, List.nodup_nil, ?hck, ?hrc, (fun _ h => nomatch h), ?_⟩⟩
    case hsc => kernel_rfl
    case hck => kernel_rfl
    case hrc => walk_at "zb"
    intro env1 κ1
    rw [signs_map, cs5]
    refine compItems.fa (compInner_mono _) [("body", .str ls), ("barred", .bool b)] (fun x : Nat => .str [x]) (fun x => itIf (ls.contains x != b) (.str [x])) 1000 AB5 [] _ ?_ (by walk_at "zb") ?_ ?_
    · intro x hx acc ρ hacc hs'
      refine Con.rho2 ["body", "barred"] hs' ?_
      refine As.name (by walk_at "zm") (by walk_at "zs") ?_
      refine Ts.compare <| Ev.compare <| Ev.name (by walk_at "zm") <| Ev.name (by walk_at "zm") <| Op2.inS <| Ev.name (by walk_at "zm") <| Op2.neB <| TrueOf.bool ?_
      rw [contains_sign, ← List.contains_eq_mem]
      refine ite_b (fun h1 => ?_) (fun h1 => ?_)
      · show compInner _ _ _ _ _ _ _
        exact Ev.name (by walk_at "zm") ⟨by walk_at "zo", by rw [h1]; rfl, rfl, by walk_at "zb"⟩
      · exact ⟨by rw [h1]; rfl, rfl, by walk_at "zb"⟩
    · rw [flat_if, List.nil_append]; exact Nat.le_trans (if_len _ _ _) (by decide)
    intro ρ2 _
    rw [flat_if, List.nil_append]
    exact EvL.nil <| CallP.joinC (Nat.le_trans (List.length_filter_le _ _) (by decide)) ⟨rfl, rfl⟩
end Mine.Tactic
end
section
open PySem PySem.W PyProof.Rows PySem.Calls
set_option Elab.async false
set_option maxRecDepth 100000
namespace Mine.Tactic

noncomputable def isDig (v : List Nat) : Prop := ∃ k, k < 5 ∧ v = [48 + k]
structure SetsOk (Ss : List (List Nat)) : Prop where
  len : Ss.length = 5
  ab : ∀ s ∈ Ss, ∀ x ∈ s, x ∈ AB5
  sz : ∀ s ∈ Ss, s.length ≤ 5
noncomputable def hdK (k x : Nat) : List Nat × List Nat := (if k % 2 == 1 then [x - 32] else [x], [48 + k])
noncomputable def tabK (Ss : List (List Nat)) (k : Nat) : Hdrs := (List.range k).flatMap fun k => (Ss.getD k []).map (hdK k)
theorem dig5 {k : Nat} (h : k < 5) : cs (toString (k : Int)) = [48 + k] := of_below (p := fun k : Nat => cs (toString (k : Int)) = [48 + k]) h (by decide)
theorem ab_let {x : Nat} (h : x ∈ AB5) : isLet [x] ∧ isLet [x - 32] ∧ Txt.upper (S [x]) = S [x - 32] := by
  obtain ⟨j, hj, rfl⟩ : ∃ j, j < 5 ∧ x = 97 + j := (by decide : ∀ x ∈ AB5, ∃ j, j < 5 ∧ x = 97 + j) x h
  exact ⟨⟨j, by walk_at "zo", .inl rfl⟩, ⟨j, by walk_at "zo", .inr (by rw [show 97 + j - 32 = 65 + j by walk_at "zo"])⟩, by rw [upper_ok j (by walk_at "zo"), show 97 + j - 32 = 65 + j by walk_at "zo"]⟩
theorem hdK_let {k x : Nat} (h : x ∈ AB5) : isLet (hdK k x).1 := by
  unfold hdK
  cases k % 2 == 1 with
  | true => exact (ab_let h).2.1
  | false => exact (ab_let h).1
theorem get_set {Ss : List (List Nat)} (O : SetsOk Ss) {k : Nat} (h : k < 5) : Ss.getD k [] ∈ Ss ∧ Ss[k]? = some (Ss.getD k []) := by
  have := O.len
  rw [List.getD_eq_getElem?_getD, List.getElem?_eq_getElem (by walk_at "zo")]
  exact ⟨List.getElem_mem _, rfl⟩
theorem tabK_len {Ss : List (List Nat)} (O : SetsOk Ss) : ∀ k, k ≤ 5 → (tabK Ss k).length ≤ 5 * k
  | 0, _ => Nat.le_refl _
  | k + 1, h => by
    have := tabK_len O k (by walk_at "zo")
    have h2 := O.sz _ (get_set O (show k < 5 by walk_at "zo")).1
    unfold tabK at this ⊢
    rw [List.range_succ, List.flatMap_append, List.length_append, List.flatMap_singleton, List.length_map]; walk_at "zo"
theorem tabK_let {Ss : List (List Nat)} (O : SetsOk Ss) {k : Nat} (hk : k ≤ 5) : ∀ h ∈ tabK Ss k, isLet h.1 ∧ isDig h.2 := fun h hh => by
  obtain ⟨j, hj, hh⟩ := List.mem_flatMap.mp hh
  obtain ⟨x, hx, rfl⟩ := List.mem_map.mp hh
  have hj := List.mem_range.mp hj
  exact ⟨hdK_let (O.ab _ (get_set O (show j < 5 by walk_at "zo")).1 x hx), j, by walk_at "zo", rfl⟩
theorem small_log {k : Nat} (h : k < 5) : (k : Int).natAbs.log2 < 1920 := of_below (p := fun k : Nat => (k : Int).natAbs.log2 < 1920) h (by decide)
noncomputable abbrev nsTL : Names := [("sets", .local), ("table", .local), ("k", .local), ("x", .local)]
noncomputable abbrev glTL : Rho := [("Headers", .ref aG_Headers), ("range", .con (.type "range")), ("str", .con (.type "str"))]
noncomputable def TabI (D : Addr) (Ss : List (List Nat)) : Nat → Rho → Led → Prop := fun k ρ σ => σ = [(D, .list ((tabK Ss k).map hdrP))] ∧ Sub [("str", .con (.type "str")), ("sets", .lst (Ss.map .str)), ("table", hdO D)] ρ
noncomputable def TabJ (D : Addr) (Ss : List (List Nat)) (base : Hdrs) (k : Nat) : Nat → Rho → Led → Prop := fun i ρ σ => σ = [(D, .list ((base ++ ((Ss.getD k []).take i).map (hdK k)).map hdrP))] ∧ Sub [("str", .con (.type "str")), ("sets", .lst (Ss.map .str)), ("table", hdO D), ("k", .int (k : Int))] ρ
set_option maxHeartbeats 8000000 in
theorem table_spec {C : Cx} {p : Params} {n : Nat} {cN cV : Array Nat} (K : HdrK C p cN cV) (O : NamesOk cN cV isLet isDig lowL) (hd : C.K.lookup aD___init__ = some (tupO [.none] 0)) (hf : FnAt C aG__law_table (fdOf p aG__law_table)) (hg : Sub glTL C.gl) {Ss : List (List Nat)} (hS : SetsOk Ss) :
    FnSpec C (n + 3) (.ref aG__law_table) [.lst (Ss.map .str)] [] [] (fun r σ' => ∃ D, r = hdO D ∧ σ' = [(D, .list ((tabK Ss 5).map hdrP))]) := by
  refine FnSpec.of (body := ?bd) ["sets"] [.lst (Ss.map .str)] nsTL [] glTL (sc := ?sc) hf ?hb ?hsc ?hgl ?hbi ?hcl ?hok hg rfl ?_ ?_
  case hb => with_unfolding_all rfl
  case hsc => with_unfolding_all rfl
  case hgl => with_unfolding_all rfl
  case hbi => with_unfolding_all rfl
  case hcl => with_unfolding_all rfl
  case hok => kernel_rfl
  · intro im s vs kvs hk hv hkw
    obtain ⟨v, rfl, h1⟩ := one_v hv
    have : kvs = [] := by have := hkw.1; simpa using this
    subst this
    have e : bindArgs (fdOf p aG__law_table) ⟨[v], []⟩ = pure ((["sets"].map Str.ofString).zip [v]) := by kernel_rfl
    refine ⟨[v], hv, ?_⟩
    intro M A E Q h
    rw [e]
    exact wpAny_pure h
  · intro env κ
    show Ex _ _ [("Headers", .ref aG_Headers), ("range", .con (.type "range")), ("str", .con (.type "str")), ("sets", .lst (Ss.map .str))] _ _
    have h5 := hS.len
    refine Ex.cons <| Ex1.asg <| Ev.call (by walk_at "zm") <| EvL.nil <| CallP.of (φ := []) (new_spec (n := n) K hd) (fun _ h => h) (.inr rfl) ?_
    rintro r σ' ⟨D, rfl, rfl⟩
    refine As.name (by walk_at "zm") (by walk_at "zs") ?_
    refine Ex.cons <| Ex1.for <| Ev.call (by walk_at "zm") <| EvL.cons <| Ev.int <| EvL.nil <| CallP.range1 ⟨[], [], [(D, .list [])], _, ItSrc.rng (n := 5) (rng5 5 (by decide)) (rangeSizeN (by decide)), fun _ h => h, .inr rfl, List.nodup_nil, ?_⟩
    refine ForT.inv (TabI D Ss) _ 0 ?_ ?_ ?_
    · rintro k q ρ _ hq ⟨rfl, hs'⟩
      obtain ⟨hk, rfl⟩ := rints_get hq
      rw [Nat.zero_add] at *
      obtain ⟨gm, gk⟩ := get_set hS hk
      have gz := hS.sz _ gm
      have ga := hS.ab _ gm
      refine Con.rho2 ["str", "sets", "table"] hs' ?_
      refine As.nameN (j := (k : Int)) (by walk_at "zo") (by walk_at "zm") (by walk_at "zs") ?_
      have hbl := tabK_len hS k (by walk_at "zo")
      have hnext : tabK Ss (k + 1) = tabK Ss k ++ (Ss.getD k []).map (hdK k) := by unfold tabK; rw [List.range_succ, List.flatMap_append, List.flatMap_singleton]
      refine Ex.cons <| Ex1.for <| Ev.sub <| Ev.name (by walk_at "zm") <| Ev.name (by walk_at "zm") <| Op2.itemL (p := .str (Ss.getD k [])) (by rw [List.length_map]; walk_at "zo") (by rw [List.length_map]; walk_at "zo") (by rw [List.length_map]; walk_at "zo") (by unfold pyIx; rw [if_neg (by walk_at "zo"), Int.toNat_natCast, List.getElem?_map, gk]; rfl) ⟨[], [], [(D, .list ((tabK Ss k).map hdrP))], _, ItSrc.str, fun _ h => h, .inr rfl, List.nodup_nil, ?_⟩
      refine ForT.inv (TabJ D Ss (tabK Ss k) k) _ 0 ?_ ?_ ?_
      · rintro i q ρ _ hq ⟨rfl, hs'⟩
        rw [Nat.zero_add] at *
        obtain ⟨x, hx, rfl⟩ : ∃ x, (Ss.getD k [])[i]? = some x ∧ q = .str [x] := by
          rw [signs_map, List.getElem?_map, Option.map_eq_some_iff] at hq
          obtain ⟨x, h1, rfl⟩ := hq
          exact ⟨x, h1, rfl⟩
        obtain ⟨l1, l2, l3⟩ := ab_let (ga x (List.mem_of_getElem? hx))
        have htk : (tabK Ss k) ++ ((Ss.getD k []).take (i + 1)).map (hdK k) = (tabK Ss k ++ ((Ss.getD k []).take i).map (hdK k)) ++ [hdK k x] := by rw [List.take_add_one, hx, List.map_append, List.append_assoc]; rfl
        have hlen : (tabK Ss k ++ ((Ss.getD k []).take i).map (hdK k)).length ≤ 30 := by rw [List.length_append, List.length_map, List.length_take]; walk_at "zo"
        unfold TabJ
        rw [htk]
        have hh : hdK k x = (if k % 2 == 1 then [x - 32] else [x], [48 + k]) := rfl
        generalize tabK Ss k ++ ((Ss.getD k []).take i).map (hdK k) = hs at hlen ⊢
        refine Con.rho2 ["str", "sets", "table", "k"] hs' ?_
        refine As.name (by walk_at "zm") (by walk_at "zs") ?_
        have add : ∀ nm : List Nat, isLet nm → FnSpec C (n + 2) (.ref aM_add_header) [hdO D, .str nm, .str [48 + k]] [] [(D, .list (hs.map hdrP))] (fun r σ' => r = .none ∧ σ' = [(D, .list ((hs ++ [(nm, [48 + k])]).map hdrP))]) := fun nm h1 => add_spec K O h1 ⟨k, hk, rfl⟩ (by walk_at "zo")
        refine Ex.cons <| Ex1.expr <| Ev.meth <| Ev.name (by walk_at "zm") ⟨_, _, MethP.obj K.cls K.fadd K.tadd (by decide), EvL.cons <| Ev.ifexp <| Ts.compare <| Ev.binop <| Ev.name (by walk_at "zm") <| Ev.int <| Op2.fmod (by decide) <| Ev.int <| Op2.eq <| TrueOf.bool ?_⟩
        refine ite_ev (v := .str (if k % 2 == 1 then [x - 32] else [x])) (fun h1 K hK => ?_) (fun h1 K hK => ?_) ?_
        · have h2 : (k % 2 == 1) = true := by rw [beq_iff_eq] at h1 ⊢; walk_at "zo"
          rw [h2, if_pos rfl] at hK
          exact Ev.meth <| Ev.name (by walk_at "zm") ⟨_, _, MethP.str F.slot_str_upper F.type_str_upper, EvL.nil <| CallP.upper l3 (by simp) hK⟩
        · have h2 : (k % 2 == 1) = false := by rw [beq_eq_false_iff_ne] at h1 ⊢; walk_at "zo"
          rw [h2, if_neg (by decide)] at hK
          exact Ev.name (by walk_at "zm") hK
        refine EvL.cons <| Ev.call (by walk_at "zm") <| EvL.cons <| Ev.name (by walk_at "zm") <| EvL.nil <| CallP.strI (small_log hk) ?_
        rw [dig5 hk]
        have hlet : isLet (if k % 2 == 1 then [x - 32] else [x]) := by split <;> assumption
        refine EvL.nil <| CallP.of (φ := []) (add _ hlet) (fun _ h => h) (.inr rfl) ?_
        rintro r σ' ⟨rfl, rfl⟩
        exact ⟨rfl, Ex.nil ⟨by rw [hh]; rfl, by walk_at "zb"⟩⟩
      · exact ⟨by rw [List.take_zero, List.map_nil, List.append_nil], by walk_at "zb"⟩
      rintro ρ _ ⟨rfl, hs2⟩
      refine Tr.rho2 ["str", "sets", "table", "k"] hs2 ?_
      refine Ex.nil ⟨?_, by walk_at "zb"⟩
      rw [Nat.zero_add, signs_map, List.length_map, List.take_length, hnext]; rfl
    · exact ⟨rfl, by walk_at "zb"⟩
    rintro ρ _ ⟨rfl, hs'⟩
    show Ex _ _ _ _ _
    refine Tr.rho2 ["str", "sets", "table"] hs' ?_
    exact Ex.cons <| Ex1.ret <| Ev.name (by walk_at "zm") ⟨D, rfl, by rw [rints_len]; rfl⟩
end Mine.Tactic
end
section
open PySem PySem.W PyProof.Rows PySem.Calls
set_option Elab.async false
set_option maxRecDepth 100000
namespace Mine.Tactic

noncomputable def heldP (hs : Hdrs) (x : Nat) : List (List Nat) := getAll lowL hs [x]
noncomputable def delStep (hs : Hdrs) (acc : Hdrs) (x : Nat) : Hdrs := if (heldP hs x).length == 1 then delH lowL acc [x] else acc
noncomputable def delI (hs : Hdrs) (i : Nat) : Hdrs := (AB5.take i).foldl (delStep hs) hs
noncomputable def leftS (hs : Hdrs) (k : Nat) : List Nat := AB5.filter fun x => decide (1 < (heldP hs x).length) && (heldP hs x).contains [48 + k]
noncomputable def leftL (hs : Hdrs) : List (List Nat) := (List.range 5).map (leftS hs)
noncomputable def pairB (L : List (List Nat)) (k j : Nat) : Bool := k != j && (L.getD k [] != [] && ((L.getD k []).filter fun x => !(L.getD j []).contains x).isEmpty)
noncomputable def pairsK (L : List (List Nat)) (k : Nat) : List (Nat × Nat) := ((List.range 5).filter (pairB L k)).map fun j => (k, j)
noncomputable def pairsL (L : List (List Nat)) : List (Nat × Nat) := (List.range 5).flatMap (pairsK L)
noncomputable def prP (x : Nat × Nat) : PV := .tup [.int x.1, .int x.2]
noncomputable def interL (Ss : List (List Nat)) (g h : Nat) : List Nat := (Ss.getD g []).filter fun x => (Ss.getD h []).contains x
noncomputable def dropK (hs : Hdrs) (g : Nat) : Hdrs := hs.filter fun h => h.2 != [48 + g]
noncomputable def redP (Ss : List (List Nat)) : Nat → Nat → Hdrs → Nat × Hdrs
  | 0, sh, hs => (sh, hs)
  | f + 1, sh, hs => match pairsL (leftL hs) with
    | [] => (sh, delI hs 5)
    | (g, h) :: _ => redP Ss f (sh + (interL Ss g h).length) (dropK (delI hs 5) g)
theorem ab_low {x : Nat} (h : x ∈ AB5) : lowL [x] = [x] := (by decide : ∀ x ∈ AB5, lowL [x] = [x]) x h
theorem delI_succ {hs : Hdrs} {i x : Nat} (h : AB5[i]? = some x) : delI hs (i + 1) = delStep hs (delI hs i) x := by unfold delI; rw [List.take_add_one, h, List.foldl_append]; rfl
theorem delStep_sub {hs acc : Hdrs} {x : Nat} : (delStep hs acc x).Sublist acc := by
  unfold delStep
  split
  · exact List.filter_sublist
  · exact .refl _
theorem delI_sub (hs : Hdrs) : ∀ i, (delI hs i).Sublist hs
  | 0 => .refl _
  | i + 1 => by
    cases h : AB5[i]? with
    | none =>
      have e : delI hs (i + 1) = delI hs i := by unfold delI; rw [List.take_add_one, h, Option.toList_none, List.append_nil]
      rw [e]; exact delI_sub hs i
    | some x => rw [delI_succ h]; exact delStep_sub.trans (delI_sub hs i)
theorem pairsL_mem {L : List (List Nat)} {x : Nat × Nat} (h : x ∈ pairsL L) : x.1 < 5 ∧ x.2 < 5 ∧ pairB L x.1 x.2 = true := by
  obtain ⟨k, hk, h⟩ := List.mem_flatMap.mp h
  obtain ⟨j, hj, rfl⟩ := List.mem_map.mp h
  obtain ⟨h1, h2⟩ := List.mem_filter.mp hj
  exact ⟨List.mem_range.mp hk, List.mem_range.mp h1, h2⟩
theorem pairsK_len (L : List (List Nat)) (k : Nat) : (pairsK L k).length ≤ 5 := by unfold pairsK; rw [List.length_map]; exact Nat.le_trans (List.length_filter_le _ _) (by decide)
theorem flat_len {α β : Type} {f : α → List β} {m : Nat} (h : ∀ x, (f x).length ≤ m) : ∀ l : List α, (l.flatMap f).length ≤ l.length * m
  | [] => by simp
  | x :: l => by
    rw [List.flatMap_cons, List.length_append, List.length_cons, Nat.succ_mul]
    have := flat_len h l
    have := h x
    walk_at "zo"
theorem pairsL_len (L : List (List Nat)) : (pairsL L).length ≤ 25 := flat_len (pairsK_len L) (List.range 5)
theorem ne_nat (k j : Nat) : ((k : Int) != (j : Int)) = (k != j) := by
  rw [Bool.eq_iff_iff, bne_iff_ne, bne_iff_ne]; walk_at "zo"
noncomputable def isStrP (t : List Nat) : PV → Bool
  | .str a => a == t
  | _ => false
theorem any_str (t : List Nat) : ∀ l : List (List Nat), (l.map PV.str).any (isStrP t) = l.contains t
  | [] => rfl
  | a :: l => by
    rw [List.map_cons, List.any_cons, any_str t l, List.contains_cons]
    show ((a == t) || _) = _
    rw [Bool.beq_comm]
section
variable {G : Gx} {ρ : Rho} {σ : Led} {Q : PV → Rho → Led → Prop}
theorem Op2.itemSs {value slice : Expr} {L : List (List Nat)} {k : Nat} (hk : k < L.length) (hz : L.length ≤ 1000) (h : Q (.str (L.getD k [])) ρ σ) (hs : SubOk slice := by intro _ _; rfl) : Op2 G (subscriptTail value slice) (.lst (L.map .str)) (.int (k : Int)) ρ σ Q :=
  Op2.itemL (p := .str (L.getD k [])) (by rw [List.length_map]; walk_at "zo") (by rw [List.length_map]; walk_at "zo") (by rw [List.length_map]; walk_at "zo") (by unfold pyIx; rw [if_neg (by walk_at "zo"), Int.toNat_natCast, List.getElem?_map, List.getD_eq_getElem?_getD, List.getElem?_eq_getElem hk]; rfl) h hs
theorem Op2.inSs {t : List Nat} {L : List (List Nat)} (h : Q (.bool (L.contains t)) ρ σ) : Op2 G (compareOp .In) (.str t) (.lst (L.map .str)) ρ σ Q :=
  Op2.inLV (isStrP t) (fun p hp => by
    obtain ⟨a, _, rfl⟩ := List.mem_map.mp hp
    exact EqV.str a t) (by rw [any_str]; exact h)
end
noncomputable def HdOk (hs : Hdrs) : Prop := (∀ h ∈ hs, isLet h.1 ∧ isDig h.2) ∧ hs.length ≤ 25
theorem HdOk.sub {hs hs' : Hdrs} (h : HdOk hs) (s : hs'.Sublist hs) : HdOk hs' := ⟨fun x hx => h.1 x (s.subset hx), Nat.le_trans s.length_le h.2⟩
noncomputable abbrev nsRD : Names := [("table", .cell), ("sets", .cell), ("shared", .local), ("turn", .local), ("held", .cell), ("x", .local), ("homes", .local), ("left", .cell), ("pairs", .local), ("gone", .cell), ("home", .cell)]
noncomputable abbrev glRD : Rho := [("range", .con (.type "range")), ("zip", .con (.type "zip")), ("len", .con (.builtin "len")), ("Headers", .ref aG_Headers)]
noncomputable abbrev glRA : Rho := [("range", .con (.type "range")), ("zip", .con (.type "zip")), ("len", .con (.builtin "len")), ("Headers", .ref aG_Headers), ("str", .con (.type "str"))]
noncomputable def RedI (Ss : List (List Nat)) (H0 : Hdrs) : Nat → Rho → Led → Prop := fun i ρ σ => ∃ (D : Addr) (hs : Hdrs) (sh : Nat), σ = [(D, .list (hs.map hdrP))] ∧ HdOk hs ∧ sh ≤ 5 * i ∧ redP Ss (5 - i) sh hs = redP Ss 5 0 H0 ∧
  Sub [("range", .con (.type "range")), ("zip", .con (.type "zip")), ("len", .con (.builtin "len")), ("Headers", .ref aG_Headers), ("table", hdO D), ("sets", .lst (Ss.map .str)), ("shared", .int (sh : Int))] ρ
noncomputable def RedJ (Ss : List (List Nat)) (H0 : Hdrs) : Rho → Led → Prop := fun ρ σ => ∃ (D : Addr) (hs : Hdrs) (sh : Nat), σ = [(D, .list (hs.map hdrP))] ∧ HdOk hs ∧ (sh, hs) = redP Ss 5 0 H0 ∧ Sub [("table", hdO D), ("shared", .int (sh : Int))] ρ
noncomputable def DelI (D : Addr) (Ss : List (List Nat)) (hs : Hdrs) (sh : Nat) : Nat → Rho → Led → Prop := fun i ρ σ => σ = [(D, .list ((delI hs i).map hdrP))] ∧
  Sub [("range", .con (.type "range")), ("zip", .con (.type "zip")), ("len", .con (.builtin "len")), ("Headers", .ref aG_Headers), ("table", hdO D), ("sets", .lst (Ss.map .str)), ("shared", .int (sh : Int)), ("held", .lst (AB5.map fun x => .lst ((heldP hs x).map .str)))] ρ
end Mine.Tactic
end
section
open PySem PySem.W PyProof.Rows PySem.Calls
set_option Elab.async false
set_option maxRecDepth 100000
namespace Mine.Tactic

set_option maxHeartbeats 16000000 in
theorem reduced_spec {C : Cx} {p : Params} {n : Nat} {cN cV : Array Nat} (K : HdrK C p cN cV) (K2 : HdrK2 C p) (O : NamesOk cN cV isLet isDig lowL) (hd : C.K.lookup aD___init__ = some (tupO [.none] 0)) (hf : FnAt C aG__law_reduced (fdOf p aG__law_reduced)) (g : Sub glRA C.gl) {Ss : List (List Nat)} (hS : SetsOk Ss) {D0 : Addr} {H0 : Hdrs} (hH : HdOk H0) :
    FnSpec C (n + 4) (.ref aG__law_reduced) [hdO D0, .lst (Ss.map .str)] [] [(D0, .list (H0.map hdrP))] (fun r σ' => r = .tup [.int ((redP Ss 5 0 H0).1 : Nat), .lst (((redP Ss 5 0 H0).2.map (·.1)).map .str)] ∧ σ' = []) := by
  refine FnSpec.drop ?_
  have hg : Sub glRD C.gl := g.in (by walk_at "zb")
  refine FnSpec.of (body := ?bd) ["table", "sets"] [hdO D0, .lst (Ss.map .str)] nsRD ["table", "sets", "held", "left", "gone", "home"] glRD (sc := ?sc) hf ?hb ?hsc ?hgl ?hbi ?hcl ?hok hg rfl ?_ ?_
  case hb => with_unfolding_all rfl
  case hsc => with_unfolding_all rfl
  case hgl => with_unfolding_all rfl
  case hbi => with_unfolding_all rfl
  case hcl => with_unfolding_all rfl
  case hok => kernel_rfl
  · intro im s vs kvs hk hv hkw
    obtain ⟨v, w, rfl, h1, h2⟩ := two_v hv
    have : kvs = [] := by have := hkw.1; simpa using this
    subst this
    have e : bindArgs (fdOf p aG__law_reduced) ⟨[v, w], []⟩ = pure ((["table", "sets"].map Str.ofString).zip [v, w]) := by kernel_rfl
    refine ⟨[v, w], hv, ?_⟩
    intro M A E Q h
    rw [e]
    exact wpAny_pure h
  · intro env κ
    show Ex _ _ [("range", .con (.type "range")), ("zip", .con (.type "zip")), ("len", .con (.builtin "len")), ("Headers", .ref aG_Headers), ("table", hdO D0), ("sets", .lst (Ss.map .str))] _ _
    have h5 := hS.len
    refine Ex.cons <| Ex1.asg <| Ev.int <| As.name (by walk_at "zm") (by walk_at "zs") ?_
    refine Ex.cons <| Ex1.for <| Ev.call (by walk_at "zm") <| EvL.cons <| Ev.int <| EvL.nil <| CallP.range1 ⟨[], [], [(D0, .list (H0.map hdrP))], _, ItSrc.rng (n := 5) (rng5 5 (by decide)) (rangeSizeN (by decide)), fun _ h => h, .inr rfl, List.nodup_nil, ?_⟩
    refine ForT.invB (RedI Ss H0) (RedJ Ss H0) _ ?_ ?_ ?_ ?_
    · rintro i q ρ _ hq ⟨D, hs, sh, rfl, hok, hsh, hred, hs'⟩
      obtain ⟨hi, rfl⟩ := rints_get hq
      rw [Nat.zero_add] at *
      obtain ⟨hL, hz⟩ := hok
      refine Con.rho2 ["range", "zip", "len", "Headers", "table", "sets", "shared"] hs' ?_
      refine As.name (by walk_at "zm") (by walk_at "zs") ?_
      refine Ex.cons <| Ex1.asgCompC (by walk_at "zm") <| Ev.comp (hsc := ?hsc) <| Ev.str ⟨[], [], [(D, .list (hs.map hdrP))], _, [("x", .local)], [], [("table", hdO D)], [], ItSrc.str, fun _ h => h, .inr rfl, List.nodup_nil, ?hck, ?hrc, (fun _ h => nomatch h), ?_⟩
      case hsc => kernel_rfl
      case hck => kernel_rfl
      case hrc => walk_at "zb"
      intro env1 κ1
      rw [signs_map, cs5]
      refine compItems.fa (compInner_mono _) [("table", hdO D)] (fun x : Nat => .str [x]) (fun x => [.lst ((heldP hs x).map .str)]) 1000 AB5 [] _ ?_ (by walk_at "zb") ?_ ?_
      · intro x hx acc ρ hacc hs'
        refine Con.rho2 ["table"] hs' ?_
        refine As.name (by walk_at "zm") (by walk_at "zs") ?_
        show compInner _ _ _ _ _ _ _
        refine Ev.meth <| Ev.name (by walk_at "zm") ⟨_, _, MethP.obj K.cls K.fall K.tall (by decide), EvL.cons <| Ev.name (by walk_at "zm") <| EvL.nil <| CallP.of (φ := []) ((all_spec (n := n) K O (hs := hs) (x := [x]) (ab_let hx).1 (fun h hh => (hL h hh).1) (by walk_at "zo")).more (by show n + 2 ≤ n + 3; walk_at "zo")) (fun _ h => h) (.inr rfl) ?_⟩
        rintro r σ' ⟨rfl, rfl⟩
        exact ⟨by walk_at "zo", by rw [ab_low hx]; rfl, rfl, by walk_at "zb"⟩
      · rw [flat_one, List.nil_append, List.length_map]; decide
      intro ρ2 _
      rw [flat_one, List.nil_append]
      refine As.nameC (by walk_at "zm") (by walk_at "zs") ?_
      show Ex _ _ [("range", .con (.type "range")), ("zip", .con (.type "zip")), ("len", .con (.builtin "len")), ("Headers", .ref aG_Headers), ("table", hdO D), ("sets", .lst (Ss.map .str)), ("shared", .int (sh : Int)), ("turn", _), ("held", .lst (AB5.map fun x => .lst ((heldP hs x).map .str)))] [(D, .list (hs.map hdrP))] _
      have ep : pairs (signs (cs "abcde")) (AB5.map fun x => PV.lst ((heldP hs x).map .str)) = AB5.map fun x => .tup [.str [x], .lst ((heldP hs x).map .str)] := by
        rw [cs5]; rfl
      refine Ex.cons <| Ex1.forS <| ForSrc.zip (by walk_at "zm") <| EvL.cons <| Ev.str <| EvL.cons <| Ev.name (by walk_at "zm") <| EvL.nil ⟨_, _, _, _, rfl, .str (by decide), .lst, ?_⟩
      rw [ep]
      have hhl : ∀ x, (heldP hs x).length ≤ 25 := fun x => Nat.le_trans (getAll_len lowL hs [x]) hz
      refine ForT.inv (DelI D Ss hs sh) _ 0 ?_ ?_ ?_
      · rintro m q ρ _ hq ⟨rfl, hs'⟩
        rw [Nat.zero_add] at *
        rw [List.getElem?_map, Option.map_eq_some_iff] at hq
        obtain ⟨x, hx, rfl⟩ := hq
        have hxa := List.mem_of_getElem? hx
        have hnext := delI_succ (hs := hs) hx
        have hsub := delI_sub hs m
        have hst : delStep hs (delI hs m) x = if (heldP hs x).length == 1 then delH lowL (delI hs m) [x] else delI hs m := rfl
        have hL2 : ∀ h ∈ delI hs m, isLet h.1 := fun h hh => (hL h (hsub.subset hh)).1
        have hz2 : (delI hs m).length ≤ 25 := Nat.le_trans hsub.length_le hz
        unfold DelI
        rw [hnext, hst]
        generalize delI hs m = ds at hL2 hz2 ⊢
        have hhx := hhl x
        refine Con.rho2 ["range", "zip", "len", "Headers", "table", "sets", "shared", "held"] hs' ?_
        refine As.tup (ps := [.str [x], .lst ((heldP hs x).map .str)]) (As.name (by walk_at "zm") (by walk_at "zs") <| As.name (by walk_at "zm") (by walk_at "zs") ?_) rfl rfl
        refine Ex.cons <| Ex1.if <| Ts.compare <| Ev.call (by walk_at "zm") <| EvL.cons <| Ev.name (by walk_at "zm") <| EvL.nil <| CallP.lenL (by rw [List.length_map]; walk_at "zo") <| Ev.int <| Op2.eq <| TrueOf.bool ?_
        refine ite_b (fun h1 => ?_) (fun h1 => ?_)
        · rw [show ((heldP hs x).length == 1) = true by rw [List.length_map] at h1; rw [beq_iff_eq] at h1 ⊢; walk_at "zo", if_pos rfl]
          refine Ex.cons <| Ex1.del <| Ev.name (by walk_at "zm") <| Ev.name (by walk_at "zm") <| DelP.obj K2.fdel K2.tdel K2.pdel <| CallP.of (φ := []) ((del_spec (n := n) K K2 O (x := [x]) (ab_let hxa).1 hL2 (by walk_at "zo")).more (by show n + 2 ≤ n + 3; walk_at "zo")) (fun _ h => h) (.inr rfl) ?_
          rintro r σ' rfl
          rw [ab_low hxa]
          exact Ex.nil (Ex.nil ⟨rfl, by walk_at "zb"⟩)
        · rw [show ((heldP hs x).length == 1) = false by rw [List.length_map] at h1; rw [beq_eq_false_iff_ne] at h1 ⊢; walk_at "zo", if_neg (by decide)]
          exact Ex.nil (Ex.nil ⟨rfl, by walk_at "zb"⟩)
      · exact ⟨rfl, by walk_at "zb"⟩
      rintro ρ3 _ ⟨rfl, hs3⟩
      rw [List.length_map, Nat.zero_add, show AB5.length = 5 from rfl]
      refine Tr.rho2 ["range", "zip", "len", "Headers", "table", "sets", "shared", "held"] hs3 ?_
      have hdl := delI_sub hs 5
      have hre : redP Ss (5 - i) sh hs = match pairsL (leftL hs) with
        | [] => (sh, delI hs 5)
        | (g, h) :: _ => redP Ss (5 - (i + 1)) (sh + (interL Ss g h).length) (dropK (delI hs 5) g) := by
        rw [show 5 - i = 5 - (i + 1) + 1 by walk_at "zo"]; rfl
      rw [hred] at hre
      have hok2 : HdOk (delI hs 5) := HdOk.sub ⟨hL, hz⟩ hdl
      generalize delI hs 5 = ds at hok2 hre ⊢
      refine Ex.cons <| Ex1.asgCompC (by walk_at "zm") <| Ev.comp (hsc := ?hsc) <| Ev.call (by walk_at "zm") <| EvL.cons <| Ev.int <| EvL.nil <| CallP.range1 ⟨[], [], [(D, .list (ds.map hdrP))], _, [("k", .cell)], ["k", "held"], [("held", .lst (AB5.map fun x => .lst ((heldP hs x).map .str)))], [("zip", .con (.type "zip"))], ItSrc.rng (n := 5) (rng5 5 (by decide)) (rangeSizeN (by decide)), fun _ h => h, .inr rfl, List.nodup_nil, ?hck, ?hrc, ?hrg, ?_⟩
      case hsc => kernel_rfl
      case hck => kernel_rfl
      case hrc => walk_at "zb"
      case hrg => exact g.in (by walk_at "zb")
      intro env4 κ4
      refine compItems.fa (compInner_mono _) [("held", .lst (AB5.map fun x => .lst ((heldP hs x).map .str))), ("zip", .con (.type "zip"))] (fun k : Nat => .int (0 + k * 1)) (fun k => [.str (leftS hs k)]) 1000 (List.range 5) [] _ ?_ (by walk_at "zb") ?_ ?_
      · intro k hk acc ρ hacc hs'
        have hk := List.mem_range.mp hk
        refine Con.rho2 ["held", "zip"] hs' ?_
        refine As.nameC (by walk_at "zm") (by walk_at "zs") ?_
        rw [show (0 + (k : Int) * 1) = (k : Int) by walk_at "zo"]
        show compInner _ _ _ _ _ _ _
        refine Ev.meth <| Ev.str ⟨_, _, MethP.str F.slot_str_join F.type_str_join, EvL.cons <| Ev.compS (hsc := ?hsc) <| ForSrc.zip (by walk_at "zm") <| EvL.cons <| Ev.str <| EvL.cons <| Ev.name (by walk_at "zm") <| EvL.nil ⟨_, _, _, _, rfl, .str (by decide), .lst, [("x", .local), ("homes", .local)], [], [("k", .int (k : Int))], [("len", .con (.builtin "len")), ("str", .con (.type "str"))], ?hck, ?hrc, ?hrg, ?_⟩⟩
        case hsc => kernel_rfl
        case hck => kernel_rfl
        case hrc => walk_at "zb"
        case hrg => exact g.in (by walk_at "zb")
        intro env5 κ5
        rw [ep]
        refine compItems.fa (compInner_mono _) [("k", .int (k : Int)), ("len", .con (.builtin "len")), ("str", .con (.type "str"))] (fun x : Nat => .tup [.str [x], .lst ((heldP hs x).map .str)]) (fun x => itIf (decide (1 < (heldP hs x).length) && (heldP hs x).contains [48 + k]) (.str [x])) 1000 AB5 [] _ ?_ (by walk_at "zb") ?_ ?_
        · intro x hx acc2 ρ2 hacc2 hs2
          have hhx := hhl x
          refine Con.rho2 ["k", "len", "str"] hs2 ?_
          refine As.tup (ps := [.str [x], .lst ((heldP hs x).map .str)]) (As.name (by walk_at "zm") (by walk_at "zs") <| As.name (by walk_at "zm") (by walk_at "zs") ?_) rfl rfl
          refine Ts.bool <| TsAll.and <| Ts.compare <| Ev.call (by walk_at "zm") <| EvL.cons <| Ev.name (by walk_at "zm") <| EvL.nil <| CallP.lenL (by rw [List.length_map]; walk_at "zo") <| Ev.int <| Op2.gt <| TrueOf.bool ?_
          rw [List.length_map, show decide ((1 : Int) < ((heldP hs x).length : Int)) = decide (1 < (heldP hs x).length) by rw [decide_eq_decide]; walk_at "zo"]
          refine ite_b (fun h1 => ?_) (fun h1 => ?_)
          · refine TsAll.and <| Ts.compare <| Ev.call (by walk_at "zm") <| EvL.cons <| Ev.name (by walk_at "zm") <| EvL.nil <| CallP.strI (small_log hk) ?_
            rw [dig5 hk]
            refine Ev.name (by walk_at "zm") <| Op2.inSs <| TrueOf.bool ?_
            refine ite_b (fun h2 => ?_) (fun h2 => ?_)
            · refine TsAll.nilAnd ?_
              show compInner _ _ _ _ _ _ _
              exact Ev.name (by walk_at "zm") ⟨by walk_at "zo", by rw [h1, h2]; rfl, rfl, by walk_at "zb"⟩
            · exact ⟨by rw [h1, h2]; rfl, rfl, by walk_at "zb"⟩
          · exact ⟨by rw [h1]; rfl, rfl, by walk_at "zb"⟩
        · rw [flat_if, List.nil_append]; exact Nat.le_trans (if_len _ _ _) (by decide)
        intro ρ6 _
        rw [flat_if, List.nil_append]
        exact EvL.nil <| CallP.joinC (l := leftS hs k) (Nat.le_trans (List.length_filter_le _ _) (by decide)) ⟨by walk_at "zo", rfl, rfl, by walk_at "zb"⟩
      · rw [flat_one, List.nil_append, List.length_map]; decide
      intro ρ7 _
      rw [flat_one, List.nil_append]
      refine As.nameC (by walk_at "zm") (by walk_at "zs") ?_
      have el : (List.range 5).map (fun k => PV.str (leftS hs k)) = (leftL hs).map .str := by unfold leftL; rw [List.map_map]; rfl
      have hl5 : (leftL hs).length = 5 := by unfold leftL; rw [List.length_map, List.length_range]
      have hlz : ∀ k, ((leftL hs).getD k []).length ≤ 5 := fun k => by
        rw [List.getD_eq_getElem?_getD]
        cases h : (leftL hs)[k]? with
        | none => exact Nat.zero_le _
        | some a =>
          obtain ⟨j, _, rfl⟩ := List.mem_map.mp (List.mem_of_getElem? h)
          exact List.length_filter_le _ _
      rw [el]
      generalize leftL hs = L at hl5 hre hlz ⊢
      show Ex _ _ [("range", .con (.type "range")), ("zip", .con (.type "zip")), ("len", .con (.builtin "len")), ("Headers", .ref aG_Headers), ("table", hdO D), ("sets", .lst (Ss.map .str)), ("shared", .int (sh : Int)), ("held", _), ("left", .lst (L.map .str))] [(D, .list (ds.map hdrP))] _
      refine Ex.cons <| Ex1.asgComp (hy := ?hy) (hsw := ?hsw) (hsc := ?hsc) <| Ev.call (by walk_at "zm") <| EvL.cons <| Ev.int <| EvL.nil <| CallP.range1 ⟨[], [], [(D, .list (ds.map hdrP))], _, [("k", .local), ("j", .cell)], ["j", "left"], [("left", .lst (L.map .str))], [("range", .con (.type "range"))], ItSrc.rng (n := 5) (rng5 5 (by decide)) (rangeSizeN (by decide)), fun _ h => h, .inr rfl, List.nodup_nil, ?hck, ?hrc, ?hrg, ?_⟩
      case hy => walk_at "zm"
      case hsw => kernel_rfl
      case hsc => kernel_rfl
      case hck => kernel_rfl
      case hrc => walk_at "zb"
      case hrg => exact g.in (by walk_at "zb")
      intro env6 κ6
      refine compItems.fa (compInner_mono _) [("left", .lst (L.map .str)), ("range", .con (.type "range"))] (fun k : Nat => .int (0 + k * 1)) (fun k => (pairsK L k).map prP) 1000 (List.range 5) [] _ ?_ (by walk_at "zb") ?_ ?_
      · intro k hk acc ρ hacc hs'
        have hk := List.mem_range.mp hk
        refine Con.rho2 ["left", "range"] hs' ?_
        refine As.name (by walk_at "zm") (by walk_at "zs") ?_
        rw [show (0 + (k : Int) * 1) = (k : Int) by walk_at "zo"]
        show compInner _ _ _ _ _ _ _
        refine Ev.call (by walk_at "zm") <| EvL.cons <| Ev.int <| EvL.nil <| CallP.range1 ⟨_, ItSrc.rng (n := 5) (rng5 5 (by decide)) (rangeSizeN (by decide)), ?_⟩
        refine compItems.fa (compInner_mono _) [("left", .lst (L.map .str)), ("range", .con (.type "range")), ("k", .int k)] (fun j : Nat => .int (0 + j * 1)) (fun j => itIf (pairB L k j) (prP (k, j))) 1100 (List.range 5) acc _ ?_ (by walk_at "zb") ?_ ?_
        · intro j hj acc2 ρ2 hacc2 hs2
          have hj := List.mem_range.mp hj
          refine Con.rho2 ["left", "range", "k"] hs2 ?_
          refine As.nameC (by walk_at "zm") (by walk_at "zs") ?_
          rw [show (0 + (j : Int) * 1) = (j : Int) by walk_at "zo"]
          have hp : pairB L k j = (k != j && (L.getD k [] != [] && ((L.getD k []).filter fun x => !(L.getD j []).contains x).isEmpty)) := rfl
          have hlk := hlz k
          refine Ts.bool <| TsAll.and <| Ts.compare <| Ev.name (by walk_at "zm") <| Ev.name (by walk_at "zm") <| Op2.ne <| TrueOf.bool ?_
          rw [ne_nat]
          refine ite_b (fun h1 => ?_) (fun h1 => ?_)
          · refine TsAll.and <| Ts.compare <| Ev.sub <| Ev.name (by walk_at "zm") <| Ev.name (by walk_at "zm") <| Op2.itemSs (by walk_at "zo") (by walk_at "zo") <| Ev.str <| Op2.neS <| TrueOf.bool ?_
            rw [show cs "" = [] by decide]
            refine ite_b (fun h2 => ?_) (fun h2 => ?_)
            · refine TsAll.and <| Ts.compare <| Ev.comp (hsc := ?hsc) <| Ev.sub <| Ev.name (by walk_at "zm") <| Ev.name (by walk_at "zm") <| Op2.itemSs (by walk_at "zo") (by walk_at "zo") ⟨[], [], [(D, .list (ds.map hdrP))], _, [("x", .local)], [], [("left", .lst (L.map .str)), ("j", .int (j : Int))], [], ItSrc.str, fun _ h => h, .inr rfl, List.nodup_nil, ?hck, ?hrc, (fun _ h => nomatch h), ?_⟩
              case hsc => kernel_rfl
              case hck => kernel_rfl
              case hrc => walk_at "zb"
              intro env7 κ7
              rw [signs_map]
              refine compItems.fa (compInner_mono _) [("left", .lst (L.map .str)), ("j", .int (j : Int))] (fun x : Nat => .str [x]) (fun x => itIf (!(L.getD j []).contains x) (.str [x])) 1000 (L.getD k []) [] _ ?_ (by walk_at "zb") ?_ ?_
              · intro x hx acc3 ρ3 hacc3 hs3
                refine Con.rho2 ["left", "j"] hs3 ?_
                refine As.name (by walk_at "zm") (by walk_at "zs") ?_
                refine Ts.compare <| Ev.name (by walk_at "zm") <| Ev.sub <| Ev.name (by walk_at "zm") <| Ev.name (by walk_at "zm") <| Op2.itemSs (by walk_at "zo") (by walk_at "zo") <| Op2.notInS <| TrueOf.bool ?_
                rw [contains_sign, ← List.contains_eq_mem]
                refine ite_b (fun h3 => ?_) (fun h3 => ?_)
                · show compInner _ _ _ _ _ _ _
                  exact Ev.name (by walk_at "zm") ⟨by walk_at "zo", by rw [h3]; rfl, rfl, by walk_at "zb"⟩
                · exact ⟨by rw [h3]; rfl, rfl, by walk_at "zb"⟩
              · rw [flat_if, List.nil_append]; exact Nat.le_trans (if_len _ _ _) (by walk_at "zo")
              intro ρ8 _
              rw [flat_if, List.nil_append]
              refine Ev.list <| EvL.nil ⟨by simp, Op2.eqEmptyL <| TrueOf.bool ?_⟩
              rw [List.isEmpty_map]
              refine ite_b (fun h3 => ?_) (fun h3 => ?_)
              · refine TsAll.nilAnd ?_
                show compInner _ _ _ _ _ _ _
                exact Ev.tuple <| EvL.cons <| Ev.name (by walk_at "zm") <| EvL.cons <| Ev.name (by walk_at "zm") <| EvL.nil ⟨by simp, by walk_at "zo", by rw [hp, h1, h2, h3]; rfl, rfl, by walk_at "zb"⟩
              · exact ⟨by rw [hp, h3, Bool.and_false, Bool.and_false]; rfl, rfl, by walk_at "zb"⟩
            · exact ⟨by rw [hp, h2, Bool.false_and, Bool.and_false]; rfl, rfl, by walk_at "zb"⟩
          · exact ⟨by rw [hp, h1, Bool.false_and]; rfl, rfl, by walk_at "zb"⟩
        · rw [flat_if, List.length_append]
          have := if_len (pairB L k) (fun j => prP (k, j)) (List.range 5)
          rw [List.length_range] at this; walk_at "zo"
        · intro ρ2 hs2
          rw [flat_if]
          exact ⟨by unfold pairsK; rw [List.map_map]; rfl, rfl, hs2.in (by walk_at "zb")⟩
      · rw [flat_map, List.nil_append, List.length_map]
        have := pairsL_len L
        unfold pairsL at this; walk_at "zo"
      intro ρ9 _
      rw [flat_map]
      intro _
      refine As.name (by walk_at "zm") (by walk_at "zs") ?_
      have hpm : ∀ x ∈ pairsL L, x.1 < 5 ∧ x.2 < 5 := fun x hx => ⟨(pairsL_mem hx).1, (pairsL_mem hx).2.1⟩
      have hpz := pairsL_len L
      show Ex _ _ [("range", .con (.type "range")), ("zip", .con (.type "zip")), ("len", .con (.builtin "len")), ("Headers", .ref aG_Headers), ("table", hdO D), ("sets", .lst (Ss.map .str)), ("shared", .int (sh : Int)), ("held", _), ("left", _), ("pairs", .lst ((pairsL L).map prP))] [(D, .list (ds.map hdrP))] _
      generalize pairsL L = PS at hre hpm hpz ⊢
      refine Ex.cons <| Ex1.if <| Ts.compare <| Ev.name (by walk_at "zm") <| Ev.list <| EvL.nil ⟨by simp, Op2.eqEmptyL <| TrueOf.bool ?_⟩
      rw [List.isEmpty_map]
      refine ite_b (fun h1 => ?_) (fun h1 => ?_)
      · rw [List.isEmpty_iff] at h1
        subst h1
        exact Ex.cons <| Ex1.brk ⟨D, ds, sh, rfl, hok2, hre.symm, by walk_at "zb"⟩
      · obtain ⟨x, PS, rfl⟩ : ∃ x r, PS = x :: r := List.exists_cons_of_ne_nil (by intro h; subst h; cases h1)
        obtain ⟨gg, hh⟩ := x
        have hg5 : gg < 5 := (hpm _ (.head _)).1
        have hh5 : hh < 5 := (hpm _ (.head _)).2
        refine Ex.nil ?_
        refine Ex.cons <| Ex1.asg <| Ev.sub <| Ev.name (by walk_at "zm") <| Ev.int <| Op2.itemL (p := prP (gg, hh)) (by rw [List.length_map]; walk_at "zo") (by rw [List.length_map, List.length_cons]; walk_at "zo") (by rw [List.length_map]; walk_at "zo") rfl <| As.tup (ps := [.int gg, .int hh]) (As.nameC (by walk_at "zm") (by walk_at "zs") <| As.nameC (by walk_at "zm") (by walk_at "zs") ?_) rfl rfl
        have hre' : redP Ss 5 0 H0 = redP Ss (5 - (i + 1)) (sh + (interL Ss gg hh).length) (dropK ds gg) := hre
        have hgz := hS.sz _ (get_set hS hg5).1
        have hil : (interL Ss gg hh).length ≤ 5 := Nat.le_trans (List.length_filter_le _ _) hgz
        refine Ex.cons <| Ex1.aug (by walk_at "zm") <| Ev.call (by walk_at "zm") <| EvL.cons <| Ev.comp (hsc := ?hsc) <| Ev.sub <| Ev.name (by walk_at "zm") <| Ev.name (by walk_at "zm") <| Op2.itemSs (by walk_at "zo") (by walk_at "zo") ⟨[], [], [(D, .list (ds.map hdrP))], _, [("x", .local)], [], [("sets", .lst (Ss.map .str)), ("home", .int (hh : Int))], [], ItSrc.str, fun _ h => h, .inr rfl, List.nodup_nil, ?hck, ?hrc, (fun _ h => nomatch h), ?_⟩
        case hsc => kernel_rfl
        case hck => kernel_rfl
        case hrc => walk_at "zb"
        intro env10 κ10
        rw [signs_map]
        refine compItems.fa (compInner_mono _) [("sets", .lst (Ss.map .str)), ("home", .int (hh : Int))] (fun x : Nat => .str [x]) (fun x => itIf ((Ss.getD hh []).contains x) (.str [x])) 1000 (Ss.getD gg []) [] _ ?_ (by walk_at "zb") ?_ ?_
        · intro x hx acc ρ hacc hs'
          refine Con.rho2 ["sets", "home"] hs' ?_
          refine As.name (by walk_at "zm") (by walk_at "zs") ?_
          refine Ts.compare <| Ev.name (by walk_at "zm") <| Ev.sub <| Ev.name (by walk_at "zm") <| Ev.name (by walk_at "zm") <| Op2.itemSs (by walk_at "zo") (by walk_at "zo") <| Op2.inS <| TrueOf.bool ?_
          rw [contains_sign, ← List.contains_eq_mem]
          refine ite_b (fun h3 => ?_) (fun h3 => ?_)
          · show compInner _ _ _ _ _ _ _
            exact Ev.name (by walk_at "zm") ⟨by walk_at "zo", by rw [h3]; rfl, rfl, by walk_at "zb"⟩
          · exact ⟨by rw [h3]; rfl, rfl, by walk_at "zb"⟩
        · rw [flat_if, List.nil_append]; exact Nat.le_trans (if_len _ _ _) (by walk_at "zo")
        intro ρ11 _
        rw [flat_if, List.nil_append]
        rw [show ((Ss.getD gg []).filter fun x => (Ss.getD hh []).contains x) = interL Ss gg hh from rfl]
        refine EvL.nil <| CallP.lenL (by rw [List.length_map]; exact Nat.le_trans hil (by decide)) ?_
        refine Op2.iadd (c := ((sh + (interL Ss gg hh).length : Nat) : Int)) (by rw [List.length_map]; walk_at "zo") ?_
        refine store_con (by walk_at "zm") (by walk_at "zs") ?_
        have hsl : sh + (interL Ss gg hh).length ≤ 5 * (i + 1) := by walk_at "zo"
        generalize sh + (interL Ss gg hh).length = sh2 at hre' hsl ⊢
        have hzd := hok2.2
        refine Ex.cons <| Ex1.asg <| Ev.call (by walk_at "zm") <| EvL.cons <| Ev.compM (hsc := ?hsc) <| Ev.meth <| Ev.name (by walk_at "zm") ⟨_, _, MethP.obj K.cls K.fitems K.titems (by decide), EvL.nil <| CallP.of (φ := []) ((items_spec (n := n) K (by rw [List.length_map]; walk_at "zo")).more (by show n + 1 ≤ n + 3; walk_at "zo")) (fun _ h => h) (.inr rfl) ?_⟩
        case hsc => kernel_rfl
        rintro r σ' ⟨rfl, rfl⟩
        refine ⟨[], [], [], _, [("name", .local), ("value", .local)], [], [("gone", .int (gg : Int))], [("str", .con (.type "str"))], ItSrc.lst, (fun _ h => nomatch h), .inl List.nodup_nil, List.nodup_nil, ?hck, ?hrc, ?hrg, ?_⟩
        case hck => kernel_rfl
        case hrc => walk_at "zb"
        case hrg => exact g.in (by walk_at "zb")
        intro env12 κ12
        refine compItems.fa (compInner_mono _) [("gone", .int (gg : Int)), ("str", .con (.type "str"))] hdrP (fun h => itIf (h.2 != [48 + gg]) (hdrP h)) 1000 ds [] _ ?_ (by walk_at "zb") ?_ ?_
        · intro h hh acc ρ hacc hs'
          refine Con.rho2 ["gone", "str"] hs' ?_
          refine As.tup (ps := [.str h.1, .str h.2]) (As.name (by walk_at "zm") (by walk_at "zs") <| As.name (by walk_at "zm") (by walk_at "zs") ?_) rfl rfl
          refine Ts.compare <| Ev.name (by walk_at "zm") <| Ev.call (by walk_at "zm") <| EvL.cons <| Ev.name (by walk_at "zm") <| EvL.nil <| CallP.strI (small_log hg5) ?_
          rw [dig5 hg5]
          refine Op2.neS <| TrueOf.bool ?_
          refine ite_b (fun h3 => ?_) (fun h3 => ?_)
          · show compInner _ _ _ _ _ _ _
            exact Ev.tuple <| EvL.cons <| Ev.name (by walk_at "zm") <| EvL.cons <| Ev.name (by walk_at "zm") <| EvL.nil ⟨by simp, by walk_at "zo", by rw [h3]; rfl, rfl, by walk_at "zb"⟩
          · exact ⟨by rw [h3]; rfl, rfl, by walk_at "zb"⟩
        · rw [flat_if, List.nil_append]; exact Nat.le_trans (if_len _ _ _) (by walk_at "zo")
        intro ρ13 _
        rw [flat_if, List.nil_append]
        intro D2
        have hok3 : HdOk (dropK ds gg) := hok2.sub List.filter_sublist
        rw [show (ds.filter fun h => h.2 != [48 + gg]) = dropK ds gg from rfl]
        generalize dropK ds gg = d2 at hre' hok3 ⊢
        refine EvL.nil <| CallP.of (φ := []) (new2_spec (n := n) K O hd (fun h hh => (hok3.1 h hh).1) (fun h hh => (hok3.1 h hh).2)) (fun _ h => h) (.inr rfl) ?_
        rintro r σ' ⟨rfl, rfl⟩
        refine As.nameC (by walk_at "zm") (by walk_at "zs") ?_
        exact Ex.nil ⟨D2, d2, sh2, rfl, hok3, hsl, hre'.symm, by walk_at "zb"⟩
    · exact ⟨D0, H0, 0, rfl, hH, Nat.zero_le _, rfl, by walk_at "zb"⟩
    · rintro ρ σ ⟨D, hs, sh, rfl, hok, _, hred, hs'⟩
      rw [rints_len, Nat.zero_add] at hred
      exact ⟨D, hs, sh, rfl, hok, hred, hs'.in (by walk_at "zb")⟩
    rintro ρ _ ⟨D, hs, sh, rfl, hok, hred, hs'⟩
    show Ex _ _ _ _ _
    rw [← hred]
    have hz := hok.2
    refine Tr.rho2 ["table", "shared"] hs' ?_
    refine Ex.cons <| Ex1.ret <| Ev.tuple <| EvL.cons <| Ev.name (by walk_at "zm") <| EvL.cons <| Ev.meth <| Ev.name (by walk_at "zm") ⟨_, _, MethP.obj K.cls K2.fkeys K2.tkeys (by decide), EvL.nil <| CallP.of (φ := []) ((keys_spec (n := n) K K2 (by walk_at "zo")).more (by show n + 1 ≤ n + 3; walk_at "zo")) (fun _ h => h) (.inr rfl) ?_⟩
    rintro r σ' ⟨rfl, rfl⟩
    refine EvL.nil ⟨by simp, ?_⟩
    exact rfl
end Mine.Tactic
end
section
open PySem PySem.W PyProof.Rows PySem.Calls
set_option Elab.async false
set_option maxRecDepth 100000
namespace Mine.Tactic

noncomputable def all10 : List (Nat × Nat) := (List.range 5).flatMap fun k => (List.range k).map fun j => (k, j)
noncomputable def wS (Ss : List (List Nat)) (q : Nat × Nat) : Nat := (interL Ss q.1 q.2).length
noncomputable def itK (w : Nat × Nat → Nat) (q : Nat × Nat) : PV := item3 (-(w q : Int)) q.1 q.2
noncomputable def krMap (ms : List Nat) (q : Nat × Nat) : List Nat := ms.map fun m => if m == ms.getD q.1 0 then ms.getD q.2 0 else m
noncomputable def krStep (w : Nat × Nat → Nat) (st : List Nat × Nat) (q : Nat × Nat) : List Nat × Nat := if st.1.getD q.1 0 != st.1.getD q.2 0 then (krMap st.1 q, st.2 + w q) else st
noncomputable def krus (w : Nat × Nat → Nat) (D : List (Nat × Nat)) : List Nat × Nat := D.foldl (krStep w) ([0, 1, 2, 3, 4], 0)
theorem krus_len (w : Nat × Nat → Nat) (D : List (Nat × Nat)) : (krus w D).1.length = 5 := by
  have key : ∀ (D : List (Nat × Nat)) (st : List Nat × Nat), st.1.length = 5 → (D.foldl (krStep w) st).1.length = 5 := by
    intro D
    induction D with
    | nil => exact fun _ h => h
    | cons q D ih =>
      intro st h
      refine ih _ ?_
      unfold krStep
      split
      · show (krMap st.1 q).length = 5
        unfold krMap; rw [List.length_map]; exact h
      · exact h
  exact key D _ rfl
theorem krus_snoc (w : Nat × Nat → Nat) (D : List (Nat × Nat)) (q : Nat × Nat) : krus w (D ++ [q]) = krStep w (krus w D) q := by unfold krus; rw [List.foldl_append]; rfl
theorem itK_T (w : Nat × Nat → Nat) (q : Nat × Nat) : isT3 (itK w q) := ⟨_, _, _, rfl⟩
theorem itK_inj (w : Nat × Nat → Nat) (a b : Nat × Nat) (h : itK w a = itK w b) : a = b := by
  unfold itK item3 at h
  injection h with h
  injection h with _ h
  injection h with h1 h
  injection h with h2 _
  injection h1 with h1
  injection h2 with h2
  exact Prod.ext (Int.ofNat.inj h1) (Int.ofNat.inj h2)
theorem mem10 {q : Nat × Nat} (h : q ∈ all10) : q.1 < 5 ∧ q.2 < 5 := (by decide : ∀ q ∈ all10, q.1 < 5 ∧ q.2 < 5) q h
structure Kr (w : Nat × Nat → Nat) (hp : List PV) (D : List (Nat × Nat)) : Prop where
  hH : HP lt3 0 hp
  R : ∃ R, hp.Perm (R.map (itK w)) ∧ (D ++ R).Perm all10 ∧ D.Pairwise (fun a b => w b ≤ w a) ∧ ∀ d ∈ D, ∀ r ∈ R, w r ≤ w d
theorem Kr.pop {w : Nat × Nat → Nat} {hp : List PV} {D : List (Nat × Nat)} (h : Kr w hp D) (h0 : 0 < hp.length) : ∃ q, (q.1 < 5 ∧ q.2 < 5) ∧ (heappopP lt3 hp).1 = itK w q ∧ (heappopP lt3 hp).2.length + 1 = hp.length ∧ Kr w (heappopP lt3 hp).2 (D ++ [q]) := by
  obtain ⟨R, r1, r2, r3, r4⟩ := h.R
  obtain ⟨q, hq, e, p1, p2, p3, p4⟩ := pop3 (itK_T w) (itK_inj w) r1 h.hH h0
  refine ⟨q, mem10 (r2.mem_iff.mp (List.mem_append_right _ hq)), e, p3, p2, R.erase q, p1, ?_, ?_, ?_⟩
  · rw [List.append_assoc]
    exact ((List.perm_cons_erase hq).symm.append_left D).trans r2
  · refine List.pairwise_append.mpr ⟨r3, List.pairwise_singleton _ _, fun a ha b hb => ?_⟩
    rw [List.mem_singleton.mp hb]; exact r4 a ha q hq
  · intro d hd r hr
    rcases List.mem_append.mp hd with hd | hd
    · exact r4 d hd r (List.mem_of_mem_erase hr)
    · rw [List.mem_singleton.mp hd]
      have := item3_le (p4 r hr)
      walk_at "zo"
noncomputable def TreeP (w : Nat × Nat → Nat) (t : Nat) : Prop := ∃ D, D.Perm all10 ∧ D.Pairwise (fun a b => w b ≤ w a) ∧ (krus w D).2 = t
theorem Kr.done {w : Nat × Nat → Nat} {D : List (Nat × Nat)} (h : Kr w [] D) : TreeP w (krus w D).2 := by
  obtain ⟨R, r1, r2, r3, _⟩ := h.R
  have hR : R = [] := by have := r1.length_eq; rw [List.length_map] at this; exact List.length_eq_zero_iff.mp this.symm
  subst hR
  rw [List.append_nil] at r2
  exact ⟨D, r2, r3, rfl⟩
theorem swappedNone2 {env : Env} {x y : Str} {px py tpos p' : Pos} {k k' : Nat} {vs : List Expr} (hk : env.scope.kind = .function) (kx : env.kindOf x = some .cell) (hv : vs.length = 2) (hs : (vs.any isStarE) = false) :
    swappedStores [.Tuple [.Name x px, .Name y py] k tpos] (.Tuple vs k' p') env = pure none := by
  have hb : env.blockKind = .function := by unfold Env.blockKind; rw [hk]; rfl
  have hst : ∀ f : Expr → Bool, (∀ e, f e = isStarE e) → vs.any f = false := fun f hf => by rw [show f = isStarE from funext hf]; exact hs
  have hc : (some NameKind.cell == some NameKind.local) = false := rfl
  have hn : ∀ f : Expr → Option Str, f (.Name x px) = none → (([Expr.Name x px, Expr.Name y py].filterMap f).length != 2) = true := fun f h1 => by
    have : ([Expr.Name x px, Expr.Name y py].filterMap f).length ≤ 1 := by
      rw [List.filterMap_cons, h1]; exact List.length_filterMap_le _ _
    simp; walk_at "zo"
  unfold swappedStores
  dsimp only
  rw [hv, hb]
  simp only [List.length_cons, List.length_nil]
  rw [if_neg (by decide)]
  rw [hst _ (fun e => by cases e <;> rfl), if_neg (by decide)]
  rw [if_pos]
  rw [Bool.or_eq_true]
  exact .inl (hn _ (by dsimp only; rw [kx, hc]; simp))
section
variable {G : Gx} {ρ : Rho} {σ : Led} {Q : PV → Rho → Led → Prop}
theorem Op2.isub {a b c : Int} (he : a - b = c) (h : Q (.int c) ρ σ) : Op2 G (inplaceOp .Sub) (.int a) (.int b) ρ σ Q := .lib h fun A im s v w Qv hA hI hv hw k => by
  subst he
  obtain ⟨t, rfl⟩ := hv.int_i
  obtain ⟨u, rfl⟩ := hw.int_i
  exact PyProof.Rows.isub_int (k _ _ .int)
noncomputable abbrev pN (m : Nat) : PV := .int (m : Int)
theorem Op2.itemNs {value slice : Expr} {L : List Nat} {k : Nat} (hk : k < L.length) (hz : L.length ≤ 1000) (h : Q (pN (L.getD k 0)) ρ σ) (hs : SubOk slice := by intro _ _; rfl) : Op2 G (subscriptTail value slice) (.lst (L.map pN)) (.int (k : Int)) ρ σ Q :=
  Op2.itemL (p := pN (L.getD k 0)) (by rw [List.length_map]; walk_at "zo") (by rw [List.length_map]; walk_at "zo") (by rw [List.length_map]; walk_at "zo") (by unfold pyIx; rw [if_neg (by walk_at "zo"), Int.toNat_natCast, List.getElem?_map, List.getD_eq_getElem?_getD, List.getElem?_eq_getElem hk]; rfl) h hs
end
theorem eq_nat (k j : Nat) : ((k : Int) == (j : Int)) = (k == j) := by
  rw [Bool.eq_iff_iff, beq_iff_eq, beq_iff_eq]; walk_at "zo"
noncomputable abbrev nsTE : Names := [("taken", .cell), ("heap", .local), ("marks", .cell), ("shared", .local), ("less", .local), ("k", .cell), ("j", .cell)]
noncomputable abbrev glTE : Rho := [("heapify", .ref aG_heapify), ("heappop", .ref aG_heappop), ("range", .con (.type "range"))]
noncomputable abbrev glTA : Rho := [("heapify", .ref aG_heapify), ("heappop", .ref aG_heappop), ("range", .con (.type "range")), ("len", .con (.builtin "len"))]
noncomputable def TreI (w : Nat × Nat → Nat) (H : Addr) : Nat → Rho → Led → Prop := fun k ρ σ => ∃ (hp : List PV) (D : List (Nat × Nat)), hp.length = k ∧ k ≤ 10 ∧ Kr w hp D ∧ σ = [(H, .list hp)] ∧ Sub [("heappop", .ref aG_heappop), ("heap", .ref H), ("marks", .lst ((krus w D).1.map pN)), ("shared", pN (krus w D).2)] ρ
set_option maxHeartbeats 16000000 in
theorem tree_spec {C : Cx} {p : Params} {n : Nat} (HK : HeapK C p) (hf : FnAt C aG__law_tree (fdOf p aG__law_tree)) (g : Sub glTA C.gl) {Ss : List (List Nat)} (hS : SetsOk Ss) :
    FnSpec C (n + 4) (.ref aG__law_tree) [.lst (Ss.map .str)] [] [] (fun r σ' => (∃ t : Nat, r = pN t ∧ TreeP (wS Ss) t) ∧ σ' = []) := by
  refine FnSpec.drop ?_
  have hg : Sub glTE C.gl := g.in (by walk_at "zb")
  refine FnSpec.of (body := ?bd) ["taken"] [.lst (Ss.map .str)] nsTE ["taken", "marks", "k", "j"] glTE (sc := ?sc) hf ?hb ?hsc ?hgl ?hbi ?hcl ?hok hg rfl ?_ ?_
  case hb => with_unfolding_all rfl
  case hsc => with_unfolding_all rfl
  case hgl => with_unfolding_all rfl
  case hbi => with_unfolding_all rfl
  case hcl => with_unfolding_all rfl
  case hok => kernel_rfl
  · intro im s vs kvs hk hv hkw
    obtain ⟨v, rfl, h1⟩ := one_v hv
    have : kvs = [] := by have := hkw.1; simpa using this
    subst this
    have e : bindArgs (fdOf p aG__law_tree) ⟨[v], []⟩ = pure ((["taken"].map Str.ofString).zip [v]) := by kernel_rfl
    refine ⟨[v], hv, ?_⟩
    intro M A E Q h
    rw [e]
    exact wpAny_pure h
  · intro env κ
    show Ex _ _ [("heapify", .ref aG_heapify), ("heappop", .ref aG_heappop), ("range", .con (.type "range")), ("taken", .lst (Ss.map .str))] _ _
    have h5 := hS.len
    refine Ex.cons <| Ex1.asgCompM (hy := ?hy) (hsw := ?hsw) (hsc := ?hsc) <| Ev.call (by walk_at "zm") <| EvL.cons <| Ev.int <| EvL.nil <| CallP.range1 ⟨[], [], [], _, [("k", .local), ("j", .cell)], ["j", "taken"], [("taken", .lst (Ss.map .str))], [("range", .con (.type "range")), ("len", .con (.builtin "len"))], ItSrc.rng (n := 5) (rng5 5 (by decide)) (rangeSizeN (by decide)), fun _ h => h, .inr rfl, List.nodup_nil, ?hck, ?hrc, ?hrg, ?_⟩
    case hy => walk_at "zm"
    case hsw => kernel_rfl
    case hsc => kernel_rfl
    case hck => kernel_rfl
    case hrc => walk_at "zb"
    case hrg => exact g.in (by walk_at "zb")
    intro env1 κ1
    refine compItems.fa (compInner_mono _) [("taken", .lst (Ss.map .str)), ("range", .con (.type "range")), ("len", .con (.builtin "len"))] (fun k : Nat => .int (0 + k * 1)) (fun k => ((List.range k).map fun j => (k, j)).map (itK (wS Ss))) 1000 (List.range 5) [] _ ?_ (by walk_at "zb") ?_ ?_
    · intro k hk acc ρ hacc hs'
      have hk := List.mem_range.mp hk
      refine Con.rho2 ["taken", "range", "len"] hs' ?_
      refine As.name (by walk_at "zm") (by walk_at "zs") ?_
      rw [show (0 + (k : Int) * 1) = (k : Int) by walk_at "zo"]
      show compInner _ _ _ _ _ _ _
      refine Ev.call (by walk_at "zm") <| EvL.cons <| Ev.name (by walk_at "zm") <| EvL.nil <| CallP.range1 ⟨_, ItSrc.rng (n := k) (rng5 k (by walk_at "zo")) (rangeSizeN (by walk_at "zo")), ?_⟩
      rw [List.map_map]
      refine compItems.fa (compInner_mono _) [("taken", .lst (Ss.map .str)), ("range", .con (.type "range")), ("len", .con (.builtin "len")), ("k", .int k)] (fun j : Nat => .int (0 + j * 1)) (fun j => [itK (wS Ss) (k, j)]) 1100 (List.range k) acc _ ?_ (by walk_at "zb") ?_ ?_
      · intro j hj acc2 ρ2 hacc2 hs2
        have hj := List.mem_range.mp hj
        have hkz := hS.sz _ (get_set hS hk).1
        refine Con.rho2 ["taken", "range", "len", "k"] hs2 ?_
        refine As.nameC (by walk_at "zm") (by walk_at "zs") ?_
        rw [show (0 + (j : Int) * 1) = (j : Int) by walk_at "zo"]
        show compInner _ _ _ _ _ _ _
        refine Ev.tuple <| EvL.cons <| Ev.unary <| Ev.call (by walk_at "zm") <| EvL.cons <| Ev.comp (hsc := ?hsc) <| Ev.sub <| Ev.name (by walk_at "zm") <| Ev.name (by walk_at "zm") <| Op2.itemSs (by walk_at "zo") (by walk_at "zo") ⟨[], [], [], _, [("x", .local)], [], [("taken", .lst (Ss.map .str)), ("j", .int (j : Int))], [], ItSrc.str, fun _ h => h, .inr rfl, List.nodup_nil, ?hck, ?hrc, (fun _ h => nomatch h), ?_⟩
        case hsc => kernel_rfl
        case hck => kernel_rfl
        case hrc => walk_at "zb"
        intro env2 κ2
        rw [signs_map]
        refine compItems.fa (compInner_mono _) [("taken", .lst (Ss.map .str)), ("j", .int (j : Int))] (fun x : Nat => .str [x]) (fun x => itIf ((Ss.getD j []).contains x) (.str [x])) 1000 (Ss.getD k []) [] _ ?_ (by walk_at "zb") ?_ ?_
        · intro x hx acc ρ hacc hs'
          refine Con.rho2 ["taken", "j"] hs' ?_
          refine As.name (by walk_at "zm") (by walk_at "zs") ?_
          refine Ts.compare <| Ev.name (by walk_at "zm") <| Ev.sub <| Ev.name (by walk_at "zm") <| Ev.name (by walk_at "zm") <| Op2.itemSs (by walk_at "zo") (by walk_at "zo") <| Op2.inS <| TrueOf.bool ?_
          rw [contains_sign, ← List.contains_eq_mem]
          refine ite_b (fun h3 => ?_) (fun h3 => ?_)
          · show compInner _ _ _ _ _ _ _
            exact Ev.name (by walk_at "zm") ⟨by walk_at "zo", by rw [h3]; rfl, rfl, by walk_at "zb"⟩
          · exact ⟨by rw [h3]; rfl, rfl, by walk_at "zb"⟩
        · rw [flat_if, List.nil_append]; exact Nat.le_trans (if_len _ _ _) (by walk_at "zo")
        intro ρ3 _
        rw [flat_if, List.nil_append]
        have hil : (interL Ss k j).length ≤ 5 := Nat.le_trans (List.length_filter_le _ _) hkz
        rw [show ((Ss.getD k []).filter fun x => (Ss.getD j []).contains x) = interL Ss k j from rfl]
        refine EvL.nil <| CallP.lenL (by rw [List.length_map]; exact Nat.le_trans hil (by decide)) ?_
        rw [List.length_map]
        exact Op1.neg <| EvL.cons <| Ev.name (by walk_at "zm") <| EvL.cons <| Ev.name (by walk_at "zm") <| EvL.nil ⟨by simp, by walk_at "zo", rfl, rfl, by walk_at "zb"⟩
      · rw [flat_one, List.length_append, List.length_map, List.length_range]; walk_at "zo"
      · intro ρ2 hs2
        rw [flat_one]
        exact ⟨rfl, rfl, hs2.in (by walk_at "zb")⟩
    · rw [flat_map, List.nil_append, List.length_map]; decide
    intro ρ4 _
    rw [flat_map]
    intro H
    refine As.name (by walk_at "zm") (by walk_at "zs") ?_
    show Ex _ _ _ [(H, .list (all10.map (itK (wS Ss))))] _
    have h10 : (all10.map (itK (wS Ss))).length = 10 := rfl
    generalize wS Ss = w at h10 ⊢
    have hT : ∀ y ∈ all10.map (itK w), isT3 y := fun y hy => by
      obtain ⟨x, _, rfl⟩ := List.mem_map.mp hy
      exact itK_T w x
    refine Ex.cons <| Ex1.expr <| Ev.call (by walk_at "zm") <| EvL.cons <| Ev.name (by walk_at "zm") <| EvL.nil <| CallP.of (φ := []) (heapify_spec (n := n) (lt := lt3) HK.hf HK.su HK.sd HK.gl lt3_ok lt3_ok (l := all10.map (itK w)) (by walk_at "zo") hT) (fun _ h => h) (.inr rfl) ?_
    rintro r σ' ⟨rfl, rfl⟩
    obtain ⟨hp1, hp2⟩ := heapify_half lt3_ord hT
    have hhl : (heapifyP lt3 ((all10.map (itK w)).length / 2) (all10.map (itK w))).length = 10 := by rw [hp2.length_eq, h10]
    refine ⟨rfl, ?_⟩
    generalize heapifyP lt3 ((all10.map (itK w)).length / 2) (all10.map (itK w)) = hp at hp1 hp2 hhl ⊢
    refine Ex.cons <| Ex1.asgTup (hw := fun bs im s hS => swappedNone2 hS.f.kind (hS.f.kn ("marks", .cell) (by walk_at "zm")).1 rfl rfl) <| Ev.tuple <| EvL.cons <| Ev.list <| EvL.cons <| Ev.int <| EvL.cons <| Ev.int <| EvL.cons <| Ev.int <| EvL.cons <| Ev.int <| EvL.cons <| Ev.int <| EvL.nil ⟨by simp, EvL.cons <| Ev.int <| EvL.nil ⟨by simp, As.tup (As.nameC (by walk_at "zm") (by walk_at "zs") <| As.name (by walk_at "zm") (by walk_at "zs") ?_) rfl rfl⟩⟩
    refine Ex.cons <| Ex1.while (TreI w H) ?_ 10 ?_
    · rintro k ρ σ ⟨hp, D, hk, hk10, hL, rfl, hs⟩
      refine Tr.rho2 ["heappop", "heap", "marks", "shared"] hs ?_
      refine Ts.compare <| Ev.name (by walk_at "zm") <| Ev.list <| EvL.nil ⟨by simp, Op2.neEmpty (by walk_at "zm") <| TrueOf.bool ?_⟩
      by_cases h0 : hp = []
      · subst h0
        show Ex _ _ _ _ _
        exact Ex.cons <| Ex1.ret <| Ev.name (by walk_at "zm") ⟨_, rfl, hL.done⟩
      rw [show hp.isEmpty = false by simpa using h0]
      show Ex _ _ _ _ _
      have hpos : 0 < hp.length := List.length_pos_iff.mpr h0
      obtain ⟨q, ⟨hq1, hq2⟩, e, hlen, hnx⟩ := hL.pop hpos
      have hTp : ∀ y ∈ hp, isT3 y := fun y hy => by
        obtain ⟨R, r1, _⟩ := hL.R
        obtain ⟨x, _, rfl⟩ := List.mem_map.mp (r1.mem_iff.mp hy)
        exact itK_T w x
      refine Ex.cons <| Ex1.asgTup (hw := fun _ _ _ _ => by rfl) <| Ev.call (by walk_at "zm") <| EvL.cons <| Ev.name (by walk_at "zm") <| EvL.nil <| CallP.of (φ := []) (heappop_spec (n := n) (lt := lt3) HK.hp HK.su HK.sd HK.gl lt3_ok lt3_ok hpos (by walk_at "zo") hTp) (fun _ h => h) (.inr rfl) ?_
      rintro r σ' ⟨rfl, rfl⟩
      rw [e]
      refine As.tup (ps := [.int (-(w q : Int)), .int q.1, .int q.2]) (As.name (by walk_at "zm") (by walk_at "zs") <| As.nameC (by walk_at "zm") (by walk_at "zs") <| As.nameC (by walk_at "zm") (by walk_at "zs") ?_) rfl rfl
      generalize (heappopP lt3 hp).2 = hp' at hlen hnx ⊢
      have hml := krus_len w D
      have hst : krus w (D ++ [q]) = if (krus w D).1.getD q.1 0 != (krus w D).1.getD q.2 0 then (krMap (krus w D).1 q, (krus w D).2 + w q) else krus w D := krus_snoc w D q
      refine Ex.cons <| Ex1.if <| Ts.compare <| Ev.sub <| Ev.name (by walk_at "zm") <| Ev.name (by walk_at "zm") <| Op2.itemNs (by walk_at "zo") (by walk_at "zo") <| Ev.sub <| Ev.name (by walk_at "zm") <| Ev.name (by walk_at "zm") <| Op2.itemNs (by walk_at "zo") (by walk_at "zo") <| Op2.ne <| TrueOf.bool ?_
      rw [ne_nat]
      refine ite_b (fun h1 => ?_) (fun h1 => ?_)
      · rw [h1, if_pos rfl] at hst
        refine Ex.cons <| Ex1.aug (p := pN (krus w D).2) (by walk_at "zm") <| Ev.name (by walk_at "zm") <| Op2.isub (c := (((krus w D).2 + w q : Nat) : Int)) (by walk_at "zo") <| store_con (by walk_at "zm") (by walk_at "zs") ?_
        refine Ex.cons <| Ex1.asgCompC (by walk_at "zm") <| Ev.comp (hsc := ?hsc) <| Ev.name (by walk_at "zm") ⟨[], [], [(H, .list hp')], _, [("mark", .local)], [], [("marks", .lst ((krus w D).1.map pN)), ("k", .int (q.1 : Int)), ("j", .int (q.2 : Int))], [], ItSrc.lst, fun _ h => h, .inr rfl, List.nodup_nil, ?hck, ?hrc, (fun _ h => nomatch h), ?_⟩
        case hsc => kernel_rfl
        case hck => kernel_rfl
        case hrc => walk_at "zb"
        intro env5 κ5
        refine compItems.fa (compInner_mono _) [("marks", .lst ((krus w D).1.map pN)), ("k", .int (q.1 : Int)), ("j", .int (q.2 : Int))] pN (fun m => [pN (if m == (krus w D).1.getD q.1 0 then (krus w D).1.getD q.2 0 else m)]) 1000 (krus w D).1 [] _ ?_ (by walk_at "zb") ?_ ?_
        · intro m hm acc ρ hacc hs'
          refine Con.rho2 ["marks", "k", "j"] hs' ?_
          refine As.name (by walk_at "zm") (by walk_at "zs") ?_
          show compInner _ _ _ _ _ _ _
          refine Ev.ifexp <| Ts.compare <| Ev.name (by walk_at "zm") <| Ev.sub <| Ev.name (by walk_at "zm") <| Ev.name (by walk_at "zm") <| Op2.itemNs (by walk_at "zo") (by walk_at "zo") <| Op2.eq <| TrueOf.bool ?_
          rw [eq_nat]
          refine ite_ev (v := pN (if m == (krus w D).1.getD q.1 0 then (krus w D).1.getD q.2 0 else m)) (fun h3 K hK => ?_) (fun h3 K hK => ?_) ⟨by walk_at "zo", rfl, rfl, by walk_at "zb"⟩
          · rw [h3, if_pos rfl] at hK
            exact Ev.sub <| Ev.name (by walk_at "zm") <| Ev.name (by walk_at "zm") <| Op2.itemNs (by walk_at "zo") (by walk_at "zo") hK
          · rw [h3, if_neg (by decide)] at hK
            exact Ev.name (by walk_at "zm") hK
        · rw [flat_one, List.nil_append, List.length_map]; walk_at "zo"
        intro ρ6 _
        rw [flat_one, List.nil_append]
        refine As.nameC (by walk_at "zm") (by walk_at "zs") ?_
        have em : (krus w D).1.map (fun m => pN (if m == (krus w D).1.getD q.1 0 then (krus w D).1.getD q.2 0 else m)) = (krus w (D ++ [q])).1.map pN := by rw [hst]; unfold krMap; rw [List.map_map]; rfl
        have es : (krus w D).2 + w q = (krus w (D ++ [q])).2 := by rw [hst]
        rw [em, es]
        exact Ex.nil (Ex.nil ⟨hp'.length, by walk_at "zo", hp', D ++ [q], rfl, by walk_at "zo", hnx, rfl, by walk_at "zb"⟩)
      · rw [h1, if_neg (by decide)] at hst
        rw [← hst]
        exact Ex.nil (Ex.nil ⟨hp'.length, by walk_at "zo", hp', D ++ [q], rfl, by walk_at "zo", hnx, rfl, by walk_at "zb"⟩)
    · exact ⟨hp, [], hhl, Nat.le_refl _, ⟨hp1, all10, hp2, .refl _, .nil, fun _ h => nomatch h⟩, rfl, by walk_at "zb"⟩
end Mine.Tactic
end
section
open PySem PySem.W PyProof.Rows PySem.Calls
set_option Elab.async false
set_option maxRecDepth 100000
namespace Mine.Tactic

theorem mul_at {prog : Program} {w : World} {A : Around} {E : Value → Shared → Prop} {s : Shared} {l : Addr} {vs : List Value} {k n : Nat} {x : Int} {u : Tok} {Q : Value → Shared → Prop} (hx : x = (n : Int)) (ho : s.heap.get? l = some (lstO vs k)) (hz : vs.length * n ≤ 10000) (hn : n ≤ 10000)
    (h : Q (.ref s.heap.objs.size) { s with heap := s.heap.push (lstO (List.replicate n vs).flatten 0) }) : wpAny (model prog w) A (binaryOp .Mult (.ref l) (.int x u)) Q E s := by
  have ho' : s.heap.get? l = some { cls := .type "list", dict := none, data := .seq vs.toArray k, slots := #[] } := ho
  have hs : (vs.toArray.size : Nat) = vs.length := List.size_toArray ..
  have hxn : x.toNat = n := by walk_at "zo"
  have e1 : Builtin.List.listFitsIndex x = true := by unfold Builtin.List.listFitsIndex; rw [Bool.and_eq_true, decide_eq_true_eq, decide_eq_true_eq]; constructor <;> walk_at "zo"
  have e2 : Builtin.List.listTooLong (vs.toArray.size * x.toNat) = false := by
    unfold Builtin.List.listTooLong; rw [hs, hxn, sizeLine_eq]; simp; walk_at "zo"
  have c1 := lm_list_mul_any l vs.toArray k none #[] x u (by rw [e1]; decide) (by rw [hxn, hs]; generalize vs.length * n = m at hz; walk_at "zo") (by rw [e2]; decide)
  have c2 := lm_int_rmul_list_any x u l vs.toArray k none #[]
  refine wpAny_binaryOp_repeat_ref (T := "list") (U := "int") (by decide) ⟨_, ho', rfl⟩ (fun s' => typeIs_int s' x u) noFill_list_mul F.fills_int_mul F.slot_int_rmul repeat_list F.slot_int_index.lookup
    (call_meets F.slot_int_rmul (typeIs_int s x u) F.entry_int_rmul (F.args_int_rmul_2 _ _) c2 ⟨ho', rfl, ⟨_, ho', rfl⟩, call_meets F.slot_list_mul ⟨_, ho', rfl⟩ F.entry_list_mul (F.args_list_mul_2 _ _) c1 ⟨ho', ?_⟩⟩)
  rw [hxn, listMul_foldl_if]
  exact h
theorem flat_rep {α : Type} (v : α) : ∀ n, (List.replicate n [v]).flatten = List.replicate n v
  | 0 => rfl
  | n + 1 => by rw [List.replicate_succ, List.flatten_cons, flat_rep v n, List.replicate_succ]; rfl
theorem VRs.rep {im : PM} {p : PV} {v : Value} (h : VR im p v) : ∀ n, VRs im (List.replicate n p) (List.replicate n v)
  | 0 => .nil
  | n + 1 => .cons h (VRs.rep h n)
theorem FnSpec.frz {C : Cx} {n : Nat} {f : PV} {ps : List PV} {kw : List (String × PV)} {σ : Led} {l : List PV} (h : FnSpec C n f ps kw σ (fun r σ' => ∃ D, r = .ref D ∧ σ' = [(D, .list l)])) : FnSpec C n f ps kw σ (fun r σ' => r = .lst l ∧ σ' = []) := fun A bs im s fv vs kvs hA hS hf hv hk => by
  obtain ⟨a, b⟩ := h A bs im s fv vs kvs hA hS hf hv hk
  refine ⟨a, codeAny_mono b fun _ s' hqx => ?_⟩
  obtain ⟨v, e, im', p, σ', x, y, z, D, hp, hσ⟩ := hqx
  subst hp; subst hσ
  rw [y.ref_i] at e
  obtain ⟨⟨ws, m, ho, hws⟩, _, _⟩ := z.led (D, .list l) (.head _)
  obtain ⟨e2, z2⟩ := z.freezeObj ho
  exact ⟨.ref D, e, _, .lst l, [], x.trans e2, .lst (PM.put_self ..) (hws.mono e2.1), z2, rfl, rfl⟩
section
variable {G : Gx} {ρ : Rho} {σ : Led} {Q : PV → Rho → Led → Prop}
theorem Op2.mulL {p : PV} {n : Nat} (hn : n ≤ 1000) (h : Q (.lst (List.replicate n p)) ρ σ) : Op2 G (binaryOp .Mult) (.lst [p]) (.int (n : Int)) ρ σ Q := fun A bs im s v w hA hS hv hw => by
  obtain ⟨x, vs, m, rfl, ho, hvs⟩ := hv.lst_i
  obtain ⟨t, rfl⟩ := hw.int_i
  obtain ⟨v, rfl, hv1⟩ := one_v hvs
  refine mul_at rfl (hS.l.him _ _ ho) (by simp; walk_at "zo") (by walk_at "zo") ?_
  obtain ⟨e, hS'⟩ := hS.pushIm (lstO (List.replicate n v) 0) rfl s.toks
  rw [flat_rep]
  exact ⟨_, _, ρ, σ, e, .lst (PM.put_self ..) (VRs.rep (hv1.mono e.1) n), hS', h⟩
noncomputable def TsV (G : Gx) (e : Expr) (ρ : Rho) (σ : Led) (x : Bool) : Prop := ∀ K : Bool → Rho → Led → Prop, K x ρ σ → Ts G e ρ σ K
theorem TsV.both {a b : Expr} {pos : Pos} {x y : Bool} (ha : TsV G a ρ σ x) (hb : TsV G b ρ σ y) : TsV G (.BoolOp .And [a, b] pos) ρ σ (x && y) := fun K h => Ts.bool <| TsAll.and <| ha _ (by
  cases x with
  | true => exact TsAll.and (hb _ (by cases y with
    | true => exact TsAll.nilAnd h
    | false => exact h))
  | false => exact h)
theorem TsV.either {a b : Expr} {pos : Pos} {x y : Bool} (ha : TsV G a ρ σ x) (hb : TsV G b ρ σ y) : TsV G (.BoolOp .Or [a, b] pos) ρ σ (x || y) := fun K h => Ts.bool <| TsAll.or <| ha _ (by
  cases x with
  | true => exact h
  | false => exact TsAll.or (hb _ (by cases y with
    | true => exact h
    | false => exact TsAll.nilOr h)))
end
end Mine.Tactic
end
section
open PySem PySem.W PyProof.Rows PySem.Calls
set_option Elab.async false
set_option maxRecDepth 100000
namespace Mine.Tactic

noncomputable def adjB (Ss : List (List Nat)) (x y : Nat) : Bool := Ss.any fun s => s.contains x && s.contains y
noncomputable def nearL (Ss : List (List Nat)) (x : Nat) : List Nat := AB5.filter fun y => y != x && adjB Ss x y
noncomputable def tieN (Ss : List (List Nat)) (S : List Nat) (x : Nat) : Nat := (S.filter fun y => (nearL Ss x).contains y).length
noncomputable def wholeL (Ss : List (List Nat)) (S : List Nat) : List (List Nat) := Ss.filter fun s => (S.filter fun x => !s.contains x).isEmpty
noncomputable def knotB (Ss : List (List Nat)) (S : List Nat) : Bool := ((S.map (tieN Ss S) == List.replicate S.length (S.length - 1)) && (wholeL Ss S).isEmpty) || ((S.map (tieN Ss S) == List.replicate S.length 2) && decide (3 < S.length))
noncomputable def knotK (Ss : List (List Nat)) (c : Nat) : List (List Nat) := if decide (2 < (setB c).length) && knotB Ss (setB c) then [setB c] else []
noncomputable def knotsI (Ss : List (List Nat)) (i : Nat) : List (List Nat) := (List.range i).flatMap (knotK Ss)
noncomputable def onesP (l : List Nat) : PV := .lst ((l.map fun c => [c]).map .str)
noncomputable def nearT (Ss : List (List Nat)) (i : Nat) : List (List Nat × PV) := (AB5.take i).map fun x => ([x], onesP (nearL Ss x))
theorem near_get (Ss : List (List Nat)) {x : Nat} (h : x ∈ AB5) : (nearT Ss 5).lookup [x] = some (onesP (nearL Ss x)) := by
  unfold AB5 at h
  simp only [List.mem_cons, List.not_mem_nil, or_false] at h
  rcases h with rfl | rfl | rfl | rfl | rfl <;> rfl
theorem near_new (Ss : List (List Nat)) {i x : Nat} (h : AB5[i]? = some x) : (nearT Ss i).lookup [x] = none := by
  match i, h with
  | 0, h => rfl
  | 1, h => cases h; rfl
  | 2, h => cases h; rfl
  | 3, h => cases h; rfl
  | 4, h => cases h; rfl
  | n + 5, h => cases h
theorem near_succ (Ss : List (List Nat)) {i x : Nat} (h : AB5[i]? = some x) : nearT Ss (i + 1) = nearT Ss i ++ [([x], onesP (nearL Ss x))] := by unfold nearT; rw [List.take_add_one, h, List.map_append]; rfl
theorem filter_any {α : Type} (f : α → Bool) : ∀ l : List α, (!(l.filter f).isEmpty) = l.any f
  | [] => rfl
  | x :: l => by
    rw [List.any_cons, ← filter_any f l]
    cases h : f x with
    | true => rw [List.filter_cons_of_pos h]; rfl
    | false => rw [List.filter_cons_of_neg (by rw [h]; decide), Bool.false_or]
theorem sgn_ne (x y : Nat) : ([y] != [x]) = (y != x) := by rw [Bool.eq_iff_iff, bne_iff_ne, bne_iff_ne]; simp
theorem ones_has (l : List Nat) (y : Nat) : (l.map fun c => [c]).contains [y] = l.contains y := by
  rw [List.contains_eq_mem, List.contains_eq_mem, decide_eq_decide]; simp
theorem EqVs.nats {k : Nat} {l m : List Nat} (h : l.length = m.length) : EqVs k (l.map pN) (m.map pN) (l == m) := by
  have e := EqVs.ints (k := k) (l := l.map Int.ofNat) (m := m.map Int.ofNat) (by rw [List.length_map, List.length_map]; exact h)
  rw [List.map_map, List.map_map] at e
  have : (l.map Int.ofNat == m.map Int.ofNat) = (l == m) := by
    rw [Bool.eq_iff_iff, beq_iff_eq, beq_iff_eq]
    exact List.map_inj_right fun a b => Int.ofNat.inj
  rw [this] at e
  exact e
theorem setB_ab (m : Int) : ∀ x ∈ setB m, x ∈ AB5 := fun x hx => by
  obtain ⟨k, hk, rfl⟩ := List.mem_map.mp hx
  have hk := List.mem_range.mp (List.mem_filter.mp hk).1
  exact of_below (p := fun k => 97 + k ∈ AB5) hk (by decide)
noncomputable abbrev nsKN : Names := [("taken", .cell), ("near", .cell), ("x", .cell), ("knots", .local), ("choice", .cell), ("some", .cell), ("ties", .local), ("whole", .local)]
noncomputable abbrev glKN : Rho := [("range", .con (.type "range")), ("len", .con (.builtin "len"))]
noncomputable def NrI (C : Cx) (D : Addr) (Ss : List (List Nat)) : Nat → Rho → Led → Prop := fun i ρ σ => σ = [(D, .dic C.prog C.w (nearT Ss i))] ∧ Sub [("range", .con (.type "range")), ("len", .con (.builtin "len")), ("taken", .lst (Ss.map .str)), ("near", .ref D)] ρ
noncomputable def KnI (C : Cx) (D R : Addr) (Ss : List (List Nat)) : Nat → Rho → Led → Prop := fun i ρ σ => σ = [(R, .list ((knotsI Ss i).map onesP)), (D, .dic C.prog C.w (nearT Ss 5))] ∧ Sub [("range", .con (.type "range")), ("len", .con (.builtin "len")), ("taken", .lst (Ss.map .str)), ("near", .ref D), ("knots", .ref R)] ρ
set_option maxHeartbeats 16000000 in
theorem knots_spec {C : Cx} {p : Params} {n : Nat} (o3 : ∃ o, C.base.f 3 = some o) (hf : FnAt C aG__law_knots (fdOf p aG__law_knots)) (g : Sub glKN C.gl) {Ss : List (List Nat)} (hS : SetsOk Ss) :
    FnSpec C (n + 1) (.ref aG__law_knots) [.lst (Ss.map .str)] [] [] (fun r σ' => r = .lst ((knotsI Ss 32).map onesP) ∧ σ' = []) := by
  refine FnSpec.frz ?_
  have hg : Sub glKN C.gl := g
  refine FnSpec.of (body := ?bd) ["taken"] [.lst (Ss.map .str)] nsKN ["taken", "near", "x", "choice", "some"] glKN (sc := ?sc) hf ?hb ?hsc ?hgl ?hbi ?hcl ?hok hg rfl ?_ ?_
  case hb => with_unfolding_all rfl
  case hsc => with_unfolding_all rfl
  case hgl => with_unfolding_all rfl
  case hbi => with_unfolding_all rfl
  case hcl => with_unfolding_all rfl
  case hok => kernel_rfl
  · intro im s vs kvs hk hv hkw
    obtain ⟨v, rfl, h1⟩ := one_v hv
    have : kvs = [] := by have := hkw.1; simpa using this
    subst this
    have e : bindArgs (fdOf p aG__law_knots) ⟨[v], []⟩ = pure ((["taken"].map Str.ofString).zip [v]) := by kernel_rfl
    refine ⟨[v], hv, ?_⟩
    intro M A E Q h
    rw [e]
    exact wpAny_pure h
  · intro env κ
    show Ex _ _ [("range", .con (.type "range")), ("len", .con (.builtin "len")), ("taken", .lst (Ss.map .str))] _ _
    have h5 := hS.len
    obtain ⟨ob, hob⟩ := o3
    refine Ex.cons <| Ex1.asg <| Ev.dict0 (hb := hob) (hb3 := by decide) fun D hD => As.nameC (by walk_at "zm") (by walk_at "zs") ?_
    refine Ex.cons <| Ex1.for <| Ev.str ⟨[], [], [(D, .dic C.prog C.w [])], _, ItSrc.str, fun _ h => h, .inr rfl, List.nodup_nil, ?_⟩
    rw [signs_map, cs5]
    refine ForT.inv (NrI C D Ss) _ 0 ?_ ?_ ?_
    · rintro i q ρ _ hq ⟨rfl, hs'⟩
      rw [Nat.zero_add] at *
      rw [List.getElem?_map, Option.map_eq_some_iff] at hq
      obtain ⟨x, hx, rfl⟩ := hq
      refine Con.rho2 ["range", "len", "taken", "near"] hs' ?_
      refine As.nameC (by walk_at "zm") (by walk_at "zs") ?_
      refine Ex.cons <| Ex1.setItem <| Ev.comp (hsc := ?hsc) <| Ev.str ⟨[], [], [(D, .dic C.prog C.w (nearT Ss i))], _, [("y", .cell)], ["y", "x", "taken"], [("x", .str [x]), ("taken", .lst (Ss.map .str))], [], ItSrc.str, fun _ h => h, .inr rfl, List.nodup_nil, ?hck, ?hrc, (fun _ h => nomatch h), ?_⟩
      case hsc => kernel_rfl
      case hck => kernel_rfl
      case hrc => walk_at "zb"
      intro env1 κ1
      rw [signs_map, cs5]
      refine compItems.fa (compInner_mono _) [("x", .str [x]), ("taken", .lst (Ss.map .str))] (fun y : Nat => .str [y]) (fun y => itIf (y != x && adjB Ss x y) (.str [y])) 1000 AB5 [] _ ?_ (by walk_at "zb") ?_ ?_
      · intro y hy acc ρ hacc hs'
        refine Con.rho2 ["x", "taken"] hs' ?_
        refine As.nameC (by walk_at "zm") (by walk_at "zs") ?_
        refine Ts.bool <| TsAll.and <| Ts.compare <| Ev.name (by walk_at "zm") <| Ev.name (by walk_at "zm") <| Op2.neS <| TrueOf.bool ?_
        rw [sgn_ne]
        refine ite_b (fun h1 => ?_) (fun h1 => ?_)
        · refine TsAll.and <| Ts.compare <| Ev.comp (hsc := ?hsc) <| Ev.name (by walk_at "zm") ⟨[], [], [(D, .dic C.prog C.w (nearT Ss i))], _, [("one", .local)], [], [("x", .str [x]), ("y", .str [y])], [], ItSrc.lst, fun _ h => h, .inr rfl, List.nodup_nil, ?hck, ?hrc, (fun _ h => nomatch h), ?_⟩
          case hsc => kernel_rfl
          case hck => kernel_rfl
          case hrc => walk_at "zb"
          intro env2 κ2
          refine compItems.fa (compInner_mono _) [("x", .str [x]), ("y", .str [y])] PV.str (fun s => itIf (s.contains x && s.contains y) (.str s)) 1000 Ss [] _ ?_ (by walk_at "zb") ?_ ?_
          · intro s hs acc2 ρ2 hacc2 hs2
            refine Con.rho2 ["x", "y"] hs2 ?_
            refine As.name (by walk_at "zm") (by walk_at "zs") ?_
            refine Ts.bool <| TsAll.and <| Ts.compare <| Ev.name (by walk_at "zm") <| Ev.name (by walk_at "zm") <| Op2.inS <| TrueOf.bool ?_
            rw [contains_sign, ← List.contains_eq_mem]
            refine ite_b (fun h2 => ?_) (fun h2 => ?_)
            · refine TsAll.and <| Ts.compare <| Ev.name (by walk_at "zm") <| Ev.name (by walk_at "zm") <| Op2.inS <| TrueOf.bool ?_
              rw [contains_sign, ← List.contains_eq_mem]
              refine ite_b (fun h3 => ?_) (fun h3 => ?_)
              · refine TsAll.nilAnd ?_
                show compInner _ _ _ _ _ _ _
                exact Ev.name (by walk_at "zm") ⟨by walk_at "zo", by rw [h2, h3]; rfl, rfl, by walk_at "zb"⟩
              · exact ⟨by rw [h3, Bool.and_false]; rfl, rfl, by walk_at "zb"⟩
            · exact ⟨by rw [h2]; rfl, rfl, by walk_at "zb"⟩
          · rw [flat_if, List.nil_append]; exact Nat.le_trans (if_len _ _ _) (by walk_at "zo")
          intro ρ3 _
          rw [flat_if, List.nil_append]
          refine Ev.list <| EvL.nil ⟨by simp, Op2.neEmptyL <| TrueOf.bool ?_⟩
          rw [List.isEmpty_map, filter_any]
          have ha : adjB Ss x y = Ss.any fun s => s.contains x && s.contains y := rfl
          rw [← ha]
          refine ite_b (fun h2 => ?_) (fun h2 => ?_)
          · refine TsAll.nilAnd ?_
            show compInner _ _ _ _ _ _ _
            exact Ev.name (by walk_at "zm") ⟨by walk_at "zo", by rw [h1, h2]; rfl, rfl, by walk_at "zb"⟩
          · exact ⟨by rw [h2, Bool.and_false]; rfl, rfl, by walk_at "zb"⟩
        · exact ⟨by rw [h1]; rfl, rfl, by walk_at "zb"⟩
      · rw [flat_if, List.nil_append]; exact Nat.le_trans (if_len _ _ _) (by decide)
      intro ρ4 _
      rw [flat_if, List.nil_append]
      have e : (AB5.filter fun y => y != x && adjB Ss x y).map (fun y => PV.str [y]) = ((nearL Ss x).map fun c => [c]).map .str := by rw [List.map_map]; rfl
      rw [e]
      refine Ev.name (by walk_at "zm") <| Ev.name (by walk_at "zm") <| SetP.dict .head (near_new Ss hx) (by unfold nearT; rw [List.length_map, List.length_take]; exact Nat.le_trans (Nat.min_le_right _ _) (by decide)) ?_
      exact Ex.nil ⟨by rw [near_succ Ss hx]; rfl, by walk_at "zb"⟩
    · exact ⟨rfl, by walk_at "zb"⟩
    rintro ρ _ ⟨rfl, hs'⟩
    rw [List.length_map, Nat.zero_add, show AB5.length = 5 from rfl]
    show Ex _ _ _ _ _
    refine Tr.rho2 ["range", "len", "taken", "near"] hs' ?_
    refine Ex.cons <| Ex1.asg <| Ev.listM <| EvL.nil ⟨by simp, fun R => As.name (by walk_at "zm") (by walk_at "zs") ?_⟩
    refine Ex.cons <| Ex1.for <| Ev.call (by walk_at "zm") <| EvL.cons <| Ev.int <| EvL.nil <| CallP.range1 ⟨[], [], [(R, .list []), (D, .dic C.prog C.w (nearT Ss 5))], _, ItSrc.rng (n := 32) (rng5 32 (by decide)) (rangeSizeN (by decide)), fun _ h => h, .inr rfl, List.nodup_nil, ?_⟩
    refine ForT.inv (KnI C D R Ss) _ 0 ?_ ?_ ?_
    · rintro c q ρ _ hq ⟨rfl, hs'⟩
      obtain ⟨hc, rfl⟩ := rints_get hq
      rw [Nat.zero_add] at *
      refine Con.rho2 ["range", "len", "taken", "near", "knots"] hs' ?_
      refine As.nameC (by walk_at "zm") (by walk_at "zs") ?_
      rw [show (0 + (c : Int) * 1) = (c : Int) by walk_at "zo"]
      have hkK : knotsI Ss (c + 1) = knotsI Ss c ++ knotK Ss c := by unfold knotsI; rw [List.range_succ, List.flatMap_append, List.flatMap_singleton]
      have hkc : knotK Ss c = if decide (2 < (setB c).length) && knotB Ss (setB c) then [setB c] else [] := rfl
      have hkl : (knotsI Ss c).length ≤ 32 := by
        have h1 : ∀ c, (knotK Ss c).length ≤ 1 := fun c => by unfold knotK; split <;> simp
        have := flat_len h1 (List.range c)
        rw [List.length_range] at this
        unfold knotsI; walk_at "zo"
      unfold KnI
      rw [hkK]
      generalize knotsI Ss c = ks at hkl ⊢
      have hSz := setB_len c
      have hSa := setB_ab c
      have hSp := one_str (setB c)
      refine Ex.cons <| Ex1.asgCompC (by walk_at "zm") <| Ev.comp (hsc := ?hsc) <| Ev.call (by walk_at "zm") <| EvL.cons <| Ev.int <| EvL.nil <| CallP.range1 ⟨[], [], [(R, .list (ks.map onesP)), (D, .dic C.prog C.w (nearT Ss 5))], _, [("k", .local)], [], [("choice", .int (c : Int))], [], ItSrc.rng (n := 5) (rng5 5 (by decide)) (rangeSizeN (by decide)), fun _ h => h, .inr rfl, List.nodup_nil, ?hck, ?hrc, (fun _ h => nomatch h), ?_⟩
      case hsc => kernel_rfl
      case hck => kernel_rfl
      case hrc => walk_at "zb"
      intro env4 κ4
      refine compItems.fa (compInner_mono _) [("choice", .int (c : Int))] (fun k : Nat => .int (0 + k * 1)) (fun k => itIf (bitK c k) (.str [97 + k])) 1000 (List.range 5) [] _ ?_ (by walk_at "zb") ?_ ?_
      · intro k hk acc2 ρ2 hacc2 hs2
        have hk := List.mem_range.mp hk
        refine Con.rho2 ["choice"] hs2 ?_
        refine As.nameN (j := (k : Int)) (by walk_at "zo") (by walk_at "zm") (by walk_at "zs") ?_
        have hp := pow5 hk
        refine Ts.compare <| Ev.binop <| Ev.binop <| Ev.name (by walk_at "zm") <| Ev.binop <| Ev.int <| Ev.name (by walk_at "zm") <| Op2.pow (by walk_at "zo") (by rcases five hk with rfl | rfl | rfl | rfl | rfl <;> decide) ?_
        rw [Int.toNat_natCast]
        refine Op2.fdiv hp.1 hp.2 <| Ev.int <| Op2.fmod (by decide) <| Ev.int <| Op2.eq <| TrueOf.bool ?_
        have hl5 := len5
        refine ite_b (fun h1 => ?_) (fun h1 => ?_)
        · show compInner _ _ _ _ _ _ _
          exact Ev.sub <| Ev.str <| Ev.name (by walk_at "zm") <| Op2.itemS (c := 97 + k) (by walk_at "zo") (by walk_at "zo") (by walk_at "zo") (at5 hk) ⟨by walk_at "zo", by rw [show bitK c k = true from h1]; rfl, rfl, by walk_at "zb"⟩
        · exact ⟨by rw [show bitK c k = false from h1]; rfl, rfl, by walk_at "zb"⟩
      · rw [flat_if, List.nil_append]; exact Nat.le_trans (if_len _ _ _) (by decide)
      intro ρ5 _
      rw [flat_if, List.nil_append]
      have e : ((List.range 5).filter (bitK c)).map (fun k => PV.str [97 + k]) = (setB c).map fun c => .str [c] := by unfold setB; rw [List.map_map]; rfl
      rw [e, hSp]
      generalize setB c = S at hkc hSz hSa ⊢
      refine As.nameC (by walk_at "zm") (by walk_at "zs") ?_
      show Ex _ _ [("range", .con (.type "range")), ("len", .con (.builtin "len")), ("taken", .lst (Ss.map .str)), ("near", .ref D), ("knots", .ref R), ("choice", _), ("some", onesP S)] [(R, .list (ks.map onesP)), (D, .dic C.prog C.w (nearT Ss 5))] _
      have lenP : (((S.map fun c => [c]).map PV.str).length : Int) = (S.length : Int) := by rw [List.length_map, List.length_map]
      have lenZ : ((S.map fun c => [c]).map PV.str).length ≤ 16777216 := by rw [List.length_map, List.length_map]; walk_at "zo"
      refine Ex.cons <| Ex1.if <| Ts.compare <| Ev.call (by walk_at "zm") <| EvL.cons <| Ev.name (by walk_at "zm") <| EvL.nil <| CallP.lenL lenZ <| Ev.int <| Op2.gt <| TrueOf.bool ?_
      rw [lenP, show decide ((2 : Int) < (S.length : Int)) = decide (2 < S.length) by rw [decide_eq_decide]; walk_at "zo"]
      refine ite_b (fun h2 => ?pos) (fun h2 => ?neg)
      case neg =>
        rw [h2] at hkc
        rw [show knotK Ss c = [] from hkc, List.append_nil]
        exact Ex.nil (Ex.nil ⟨rfl, by walk_at "zb"⟩)
      have h2' : 2 < S.length := of_decide_eq_true h2
      refine Ex.cons <| Ex1.asgComp (hy := ?hy) (hsw := ?hsw) (hsc := ?hsc) <| Ev.name (by walk_at "zm") ⟨[], [], [(R, .list (ks.map onesP)), (D, .dic C.prog C.w (nearT Ss 5))], _, [("x", .cell)], ["x", "some", "near"], [("some", onesP S), ("near", .ref D)], [("len", .con (.builtin "len"))], ItSrc.lst, fun _ h => h, .inr rfl, List.nodup_nil, ?hck, ?hrc, ?hrg, ?_⟩
      case hy => walk_at "zm"
      case hsw => kernel_rfl
      case hsc => kernel_rfl
      case hck => kernel_rfl
      case hrc => walk_at "zb"
      case hrg => exact g.in (by walk_at "zb")
      intro env6 κ6
      rw [← one_str S]
      refine compItems.fa (compInner_mono _) [("some", onesP S), ("near", .ref D), ("len", .con (.builtin "len"))] (fun x : Nat => .str [x]) (fun x => [pN (tieN Ss S x)]) 1000 S [] _ ?_ (by walk_at "zb") ?_ ?_
      · intro x hx acc ρ hacc hs'
        refine Con.rho2 ["some", "near", "len"] hs' ?_
        refine As.nameC (by walk_at "zm") (by walk_at "zs") ?_
        show compInner _ _ _ _ _ _ _
        refine Ev.call (by walk_at "zm") <| EvL.cons <| Ev.comp (hsc := ?hsc) <| Ev.name (by walk_at "zm") ⟨[], [], [(R, .list (ks.map onesP)), (D, .dic C.prog C.w (nearT Ss 5))], _, [("y", .local)], [], [("near", .ref D), ("x", .str [x])], [], ItSrc.lst, fun _ h => h, .inr rfl, List.nodup_nil, ?hck, ?hrc, (fun _ h => nomatch h), ?_⟩
        case hsc => kernel_rfl
        case hck => kernel_rfl
        case hrc => walk_at "zb"
        intro env7 κ7
        rw [← one_str S]
        refine compItems.fa (compInner_mono _) [("near", .ref D), ("x", .str [x])] (fun y : Nat => .str [y]) (fun y => itIf ((nearL Ss x).contains y) (.str [y])) 1000 S [] _ ?_ (by walk_at "zb") ?_ ?_
        · intro y hy acc2 ρ2 hacc2 hs2
          refine Con.rho2 ["near", "x"] hs2 ?_
          refine As.name (by walk_at "zm") (by walk_at "zs") ?_
          refine Ts.compare <| Ev.name (by walk_at "zm") <| Ev.sub <| Ev.name (by walk_at "zm") <| Ev.name (by walk_at "zm") <| Op2.itemD (.tail _ (.head _)) (near_get Ss (hSa x hx)) <| Op2.inSs <| TrueOf.bool ?_
          rw [ones_has]
          refine ite_b (fun h3 => ?_) (fun h3 => ?_)
          · show compInner _ _ _ _ _ _ _
            exact Ev.name (by walk_at "zm") ⟨by walk_at "zo", by rw [h3]; rfl, rfl, by walk_at "zb"⟩
          · exact ⟨by rw [h3]; rfl, rfl, by walk_at "zb"⟩
        · rw [flat_if, List.nil_append]; exact Nat.le_trans (if_len _ _ _) (by walk_at "zo")
        intro ρ8 _
        rw [flat_if, List.nil_append]
        refine EvL.nil <| CallP.lenL (Nat.le_trans (if_len _ _ _) (by walk_at "zo")) ⟨by walk_at "zo", ?_, rfl, by walk_at "zb"⟩
        rw [List.length_map]; rfl
      · rw [flat_one, List.nil_append, List.length_map]; walk_at "zo"
      intro ρ9 _
      rw [flat_one, List.nil_append]
      intro _
      refine As.name (by walk_at "zm") (by walk_at "zs") ?_
      refine Ex.cons <| Ex1.asgComp (hy := ?hy) (hsw := ?hsw) (hsc := ?hsc) <| Ev.name (by walk_at "zm") ⟨[], [], [(R, .list (ks.map onesP)), (D, .dic C.prog C.w (nearT Ss 5))], _, [("one", .cell)], ["one", "some"], [("some", onesP S)], [], ItSrc.lst, fun _ h => h, .inr rfl, List.nodup_nil, ?hck, ?hrc, (fun _ h => nomatch h), ?_⟩
      case hy => walk_at "zm"
      case hsw => kernel_rfl
      case hsc => kernel_rfl
      case hck => kernel_rfl
      case hrc => walk_at "zb"
      intro env10 κ10
      refine compItems.fa (compInner_mono _) [("some", onesP S)] PV.str (fun s => itIf ((S.filter fun x => !s.contains x).isEmpty) (.str s)) 1000 Ss [] _ ?_ (by walk_at "zb") ?_ ?_
      · intro s hs acc ρ hacc hs'
        refine Con.rho2 ["some"] hs' ?_
        refine As.nameC (by walk_at "zm") (by walk_at "zs") ?_
        refine Ts.compare <| Ev.comp (hsc := ?hsc) <| Ev.name (by walk_at "zm") ⟨[], [], [(R, .list (ks.map onesP)), (D, .dic C.prog C.w (nearT Ss 5))], _, [("x", .local)], [], [("one", .str s)], [], ItSrc.lst, fun _ h => h, .inr rfl, List.nodup_nil, ?hck, ?hrc, (fun _ h => nomatch h), ?_⟩
        case hsc => kernel_rfl
        case hck => kernel_rfl
        case hrc => walk_at "zb"
        intro env11 κ11
        rw [← one_str S]
        refine compItems.fa (compInner_mono _) [("one", .str s)] (fun x : Nat => .str [x]) (fun x => itIf (!s.contains x) (.str [x])) 1000 S [] _ ?_ (by walk_at "zb") ?_ ?_
        · intro x hx acc2 ρ2 hacc2 hs2
          refine Con.rho2 ["one"] hs2 ?_
          refine As.name (by walk_at "zm") (by walk_at "zs") ?_
          refine Ts.compare <| Ev.name (by walk_at "zm") <| Ev.name (by walk_at "zm") <| Op2.notInS <| TrueOf.bool ?_
          rw [contains_sign, ← List.contains_eq_mem]
          refine ite_b (fun h3 => ?_) (fun h3 => ?_)
          · show compInner _ _ _ _ _ _ _
            exact Ev.name (by walk_at "zm") ⟨by walk_at "zo", by rw [h3]; rfl, rfl, by walk_at "zb"⟩
          · exact ⟨by rw [h3]; rfl, rfl, by walk_at "zb"⟩
        · rw [flat_if, List.nil_append]; exact Nat.le_trans (if_len _ _ _) (by walk_at "zo")
        intro ρ12 _
        rw [flat_if, List.nil_append]
        refine Ev.list <| EvL.nil ⟨by simp, Op2.eqEmptyL <| TrueOf.bool ?_⟩
        rw [List.isEmpty_map]
        refine ite_b (fun h3 => ?_) (fun h3 => ?_)
        · show compInner _ _ _ _ _ _ _
          exact Ev.name (by walk_at "zm") ⟨by walk_at "zo", by rw [h3]; rfl, rfl, by walk_at "zb"⟩
        · exact ⟨by rw [h3]; rfl, rfl, by walk_at "zb"⟩
      · rw [flat_if, List.nil_append]; exact Nat.le_trans (if_len _ _ _) (by walk_at "zo")
      intro ρ13 _
      rw [flat_if, List.nil_append]
      intro _
      refine As.name (by walk_at "zm") (by walk_at "zs") ?_
      have em : S.map (fun x => pN (tieN Ss S x)) = (S.map (tieN Ss S)).map pN := by rw [List.map_map]; rfl
      have hkB : knotB Ss S = (((S.map (tieN Ss S) == List.replicate S.length (S.length - 1)) && (wholeL Ss S).isEmpty) || ((S.map (tieN Ss S) == List.replicate S.length 2) && decide (3 < S.length))) := rfl
      have hml : (S.map (tieN Ss S)).length = S.length := List.length_map _
      show Ex _ _ [("range", .con (.type "range")), ("len", .con (.builtin "len")), ("taken", .lst (Ss.map .str)), ("near", .ref D), ("knots", .ref R), ("choice", _), ("some", onesP S), ("ties", .lst (S.map fun x => pN (tieN Ss S x))), ("whole", .lst ((wholeL Ss S).map .str))] [(R, .list (ks.map onesP)), (D, .dic C.prog C.w (nearT Ss 5))] _
      rw [em]
      generalize S.map (tieN Ss S) = T at hkB hml ⊢
      refine Ex.cons <| Ex1.if <| TsV.either (x := (T == List.replicate S.length (S.length - 1)) && (wholeL Ss S).isEmpty) (y := (T == List.replicate S.length 2) && decide (3 < S.length)) (TsV.both (fun K hK => ?_) (fun K hK => ?_)) (TsV.both (fun K hK => ?_) (fun K hK => ?_)) _ ?_
      · refine Ts.compare <| Ev.name (by walk_at "zm") <| Ev.binop <| Ev.list <| EvL.cons <| Ev.binop <| Ev.call (by walk_at "zm") <| EvL.cons <| Ev.name (by walk_at "zm") <| EvL.nil <| CallP.lenL lenZ <| Ev.int <| Op2.sub ?_
        rw [lenP, show (S.length : Int) - 1 = ((S.length - 1 : Nat) : Int) by walk_at "zo"]
        refine EvL.nil ⟨by simp, Ev.call (by walk_at "zm") <| EvL.cons <| Ev.name (by walk_at "zm") <| EvL.nil <| CallP.lenL lenZ ?_⟩
        rw [lenP]
        refine Op2.mulL (by walk_at "zo") ?_
        rw [← List.map_replicate (f := pN)]
        exact Op2.eqLV (EqVs.nats (by rw [hml, List.length_replicate])) <| TrueOf.bool hK
      · refine Ts.compare <| Ev.name (by walk_at "zm") <| Ev.list <| EvL.nil ⟨by simp, Op2.eqEmptyL <| TrueOf.bool ?_⟩
        rw [List.isEmpty_map]; exact hK
      · refine Ts.compare <| Ev.name (by walk_at "zm") <| Ev.binop <| Ev.list <| EvL.cons <| Ev.int <| EvL.nil ⟨by simp, Ev.call (by walk_at "zm") <| EvL.cons <| Ev.name (by walk_at "zm") <| EvL.nil <| CallP.lenL lenZ ?_⟩
        rw [lenP]
        refine Op2.mulL (by walk_at "zo") ?_
        have e2 : List.replicate S.length (PV.int 2) = (List.replicate S.length 2).map pN := (List.map_replicate (f := pN)).symm
        rw [e2]
        exact Op2.eqLV (EqVs.nats (by rw [hml, List.length_replicate])) <| TrueOf.bool hK
      · refine Ts.compare <| Ev.call (by walk_at "zm") <| EvL.cons <| Ev.name (by walk_at "zm") <| EvL.nil <| CallP.lenL lenZ <| Ev.int <| Op2.gt <| TrueOf.bool ?_
        rw [lenP, show decide ((3 : Int) < (S.length : Int)) = decide (3 < S.length) by rw [decide_eq_decide]; walk_at "zo"]
        exact hK
      rw [← hkB]
      rw [h2, Bool.true_and] at hkc
      refine ite_b (fun h4 => ?_) (fun h4 => ?_)
      · rw [h4, if_pos rfl] at hkc
        refine Ex.cons <| Ex1.expr <| Ev.meth <| Ev.name (by walk_at "zm") ⟨_, _, MethP.led (by walk_at "zm") F.slot_list_append F.type_list_append, EvL.cons <| Ev.name (by walk_at "zm") <| EvL.nil <| CallP.append .head (by rw [List.length_map]; walk_at "zo") ⟨rfl, ?_⟩⟩
        exact Ex.nil (Ex.nil (Ex.nil ⟨by rw [hkc, List.map_append]; rfl, by walk_at "zb"⟩))
      · rw [h4, if_neg (by decide)] at hkc
        rw [hkc, List.append_nil]
        exact Ex.nil (Ex.nil (Ex.nil ⟨rfl, by walk_at "zb"⟩))
    · exact ⟨rfl, by walk_at "zb"⟩
    rintro ρ _ ⟨rfl, hs'⟩
    show Ex _ _ _ _ _
    refine Tr.rho2 ["range", "len", "taken", "near", "knots"] hs' ?_
    refine Tr.led (σ' := [(R, .list ((knotsI Ss 32).map onesP))]) (fun q hq => by rw [List.mem_singleton.mp hq, rints_len]; exact .head _) (fun _ => List.nodup_cons.mpr ⟨List.not_mem_nil, .nil⟩) ?_
    exact Ex.cons <| Ex1.ret <| Ev.name (by walk_at "zm") ⟨R, rfl, rfl⟩
end Mine.Tactic
end
section
open PySem PySem.W PyProof.Rows PySem.Calls
set_option Elab.async false
set_option maxRecDepth 100000
namespace Mine.Tactic
theorem ev_and {v : Nat → Bool} {l : List BX} : (BX.andL l).ev v = true ↔ ∀ e ∈ l, e.ev v = true := by rw [BX.ev_andL, List.all_eq_true]
theorem ev_nt {v : Nat → Bool} {a : BX} : (BX.not a).ev v = true ↔ ¬ a.ev v = true := by rw [BX.ev_not, Bool.not_eq_true', Bool.not_eq_true]
theorem ev_an {v : Nat → Bool} {a b : BX} : (BX.and a b).ev v = true ↔ a.ev v = true ∧ b.ev v = true := by show (_ && _) = true ↔ _; rw [Bool.and_eq_true]
theorem ev_o {v : Nat → Bool} {a b : BX} : (BX.or a b).ev v = true ↔ a.ev v = true ∨ b.ev v = true := by show (_ || _) = true ↔ _; rw [Bool.or_eq_true]
theorem ev_if {v : Nat → Bool} {a b : BX} : (BX.iff a b).ev v = true ↔ (a.ev v = true ↔ b.ev v = true) := by rw [BX.ev_iff, beq_iff_eq, Bool.eq_iff_iff]
noncomputable def cnt : Nat → List BX → BX
  | 0, _ => .tt
  | _ + 1, [] => .ff
  | k + 1, a :: l => .or (.and a (cnt k l)) (cnt (k + 1) l)
theorem ev_cnt {v : Nat → Bool} : ∀ (k : Nat) (l : List BX), (cnt k l).ev v = true ↔ k ≤ l.countP (·.ev v)
  | 0, l => ⟨fun _ => Nat.zero_le _, fun _ => by cases l <;> rfl⟩
  | k + 1, [] => ⟨(fun h => nomatch h), fun h => absurd h (by simp)⟩
  | k + 1, a :: l => by
    unfold cnt
    rw [ev_o, ev_an, ev_cnt k l, ev_cnt (k + 1) l, List.countP_cons]
    cases a.ev v with
    | true => simp; walk_at "zo"
    | false => simp
noncomputable def eI (i j : Nat) : Nat := if i < j then j * (j - 1) / 2 + i else i * (i - 1) / 2 + j
noncomputable def oth (i j : Nat) : List Nat := (List.range 5).filter fun m => m != i && m != j
noncomputable def c1 (e : Nat → BX) (i j : Nat) : BX := .orL (e (eI i j) :: (oth i j).map fun m => .and (e (eI i m)) (e (eI m j)))
noncomputable def c2 (e : Nat → BX) (i j : Nat) : BX := .orL (c1 e i j :: (oth i j).map fun m => .and (c1 e i m) (c1 e m j))
noncomputable def cn (e : Nat → BX) (i j : Nat) : BX := if i = j then .tt else c2 e i j
noncomputable def rX (e : Nat → BX) : List BX := [1, 2, 3, 4].map fun j => .orL ((List.range j).map fun i => c2 e i j)
noncomputable def rkB (a : Nat → Bool) : Nat := (rX .var).countP (·.ev a)
noncomputable def cnB (a : Nat → Bool) (i j : Nat) : Bool := (cn .var i j).ev a
theorem ev_c1 (e : Nat → BX) (v : Nat → Bool) (i j : Nat) : (c1 e i j).ev v = (c1 .var i j).ev (fun n => (e n).ev v) := by
  unfold c1
  rw [BX.ev_orL, BX.ev_orL, List.any_cons, List.any_cons, List.any_map, List.any_map]
  rfl
theorem ev_c2 (e : Nat → BX) (v : Nat → Bool) (i j : Nat) : (c2 e i j).ev v = (c2 .var i j).ev (fun n => (e n).ev v) := by
  unfold c2
  rw [BX.ev_orL, BX.ev_orL, List.any_cons, List.any_cons, List.any_map, List.any_map, ev_c1]
  congr 1
  congr 1
  funext m
  show ((c1 e i m).ev v && (c1 e m j).ev v) = ((c1 .var i m).ev _ && (c1 .var m j).ev _)
  rw [ev_c1 e v i m, ev_c1 e v m j]
theorem ev_cn (e : Nat → BX) (v : Nat → Bool) (i j : Nat) : (cn e i j).ev v = cnB (fun n => (e n).ev v) i j := by
  unfold cnB cn
  split
  · rfl
  · exact ev_c2 e v i j
theorem ev_rX (e : Nat → BX) (v : Nat → Bool) : (rX e).countP (·.ev v) = rkB (fun n => (e n).ev v) := by
  unfold rkB rX
  rw [List.countP_map, List.countP_map]
  congr 1
  funext j
  show (BX.orL _).ev v = (BX.orL _).ev _
  rw [BX.ev_orL, BX.ev_orL, List.any_map, List.any_map]
  congr 1
  funext i
  exact ev_c2 e v i j
theorem le5 {m : Nat} (h : Nat.ble m 5 = true) : m ≤ 5 := Nat.le_of_ble_eq_true h
theorem mem15 {k : Nat} (h : k < 6) : k ≠ 0 → k ∈ [1, 2, 3, 4, 5] := (by decide : ∀ k < 6, k ≠ 0 → k ∈ [1, 2, 3, 4, 5]) k h
theorem count_eq {m n : Nat} (hm : m ≤ 5) (hn : n ≤ 5) (h : ∀ k ∈ [1, 2, 3, 4, 5], k ≤ m ↔ k ≤ n) : m = n :=
  Nat.le_antisymm (Decidable.byCases (fun e : m = 0 => e ▸ Nat.zero_le n) fun e => (h m (mem15 (Nat.lt_succ_of_le hm) e)).mp (Nat.le_refl m))
    (Decidable.byCases (fun e : n = 0 => e ▸ Nat.zero_le m) fun e => (h n (mem15 (Nat.lt_succ_of_le hn) e)).mpr (Nat.le_refl n))
noncomputable def updX (q : Nat × Nat) : Nat → BX := fun n => if n = eI q.1 q.2 then .tt else .var n
noncomputable def delX (g : Nat) : Nat → BX := fun n => if (oth g g).any (fun k => eI g k == n) then .ff else .var n
noncomputable def all25 : List (Nat × Nat) := (List.range 5).flatMap fun i => (List.range 5).map fun l => (i, l)
noncomputable def addC (q r : Nat × Nat) : BX := .iff (cn (updX q) r.1 r.2) (.or (cn .var r.1 r.2) (.or (.and (cn .var r.1 q.1) (cn .var q.2 r.2)) (.and (cn .var r.1 q.2) (cn .var q.1 r.2))))
noncomputable def addR (q : Nat × Nat) (m : Nat) : BX := .iff (cnt m (rX (updX q))) (cnt m (.not (cn .var q.1 q.2) :: rX .var))
noncomputable def addX (q : Nat × Nat) : BX := .and (.andL (all25.map (addC q))) (.andL ([1, 2, 3, 4, 5].map (addR q)))
theorem add_all : (all10.all fun q => (addX q).tab 10 == BX.allT 10) = true := by decide +kernel
noncomputable def domP (g h : Nat) : BX := .and (.var (eI g h)) (.andL ((oth g h).map fun k => .or (.not (.var (eI g k))) (.var (eI h k))))
noncomputable def domR (g m : Nat) : BX := .iff (cnt m (rX .var)) (cnt m (.tt :: rX (delX g)))
noncomputable def domX (q : Nat × Nat) : BX := .or (.not (domP q.1 q.2)) (.andL ([1, 2, 3, 4, 5].map (domR q.1)))
theorem dom_all : ((all25.filter fun q => q.1 != q.2).all fun q => (domX q).tab 10 == BX.allT 10) = true := by decide +kernel
theorem mem25 {i l : Nat} (hi : i < 5) (hl : l < 5) : (i, l) ∈ all25 := List.mem_flatMap.mpr ⟨i, List.mem_range.mpr hi, List.mem_map.mpr ⟨l, List.mem_range.mpr hl, rfl⟩⟩
theorem add_edge {q : Nat × Nat} (hq : q ∈ all10) {a : Nat → Bool} (ha : ∀ n, 10 ≤ n → a n = false) :
    (∀ i l, i < 5 → l < 5 → cnB (fun n => if n = eI q.1 q.2 then true else a n) i l = (cnB a i l || (cnB a i q.1 && cnB a q.2 l || cnB a i q.2 && cnB a q.1 l))) ∧
    rkB (fun n => if n = eI q.1 q.2 then true else a n) = rkB a + (if cnB a q.1 q.2 then 0 else 1) := by
  have h := BX.taut (eq_of_beq (List.all_eq_true.mp add_all q hq)) ha
  have eu : (fun n => (updX q n).ev a) = fun n => if n = eI q.1 q.2 then true else a n := by
    funext n
    unfold updX
    split <;> rfl
  unfold addX at h
  rw [ev_an, ev_and, ev_and] at h
  obtain ⟨h1, h2⟩ := h
  constructor
  · intro i l hi hl
    have := h1 _ (List.mem_map_of_mem (mem25 hi hl))
    unfold addC at this
    rw [BX.ev_iff, beq_iff_eq, ev_cn, eu] at this
    exact this
  · have e : rkB a + (if cnB a q.1 q.2 then 0 else 1) = (BX.not (cn .var q.1 q.2) :: rX .var).countP (·.ev a) := by
      rw [List.countP_cons, BX.ev_not]
      show rkB a + _ = rkB a + _
      congr 1
      show _ = if (!(cnB a q.1 q.2)) = true then 1 else 0
      cases cnB a q.1 q.2 <;> rfl
    have hr := ev_rX (updX q) a
    rw [eu] at hr
    rw [← hr, e]
    refine count_eq (Nat.le_trans List.countP_le_length (le5 rfl)) (Nat.le_trans List.countP_le_length (le5 rfl)) fun k hk => ?_
    have := h2 _ (List.mem_map_of_mem hk)
    unfold addR at this
    rw [ev_if, ev_cnt, ev_cnt] at this
    exact this
theorem dom_edge {g h : Nat} (hg : g < 5) (hh : h < 5) (hne : g ≠ h) {a : Nat → Bool} (ha : ∀ n, 10 ≤ n → a n = false) (h1 : a (eI g h) = true) (h2 : ∀ k ∈ oth g h, a (eI g k) = true → a (eI h k) = true) :
    rkB a = rkB (fun n => if (oth g g).any (fun k => eI g k == n) then false else a n) + 1 := by
  have hX := BX.taut (eq_of_beq (List.all_eq_true.mp dom_all (g, h) (List.mem_filter.mpr ⟨mem25 hg hh, by simpa using hne⟩))) ha
  have eu : (fun n => (delX g n).ev a) = fun n => if (oth g g).any (fun k => eI g k == n) then false else a n := by
    funext n
    unfold delX
    split <;> rfl
  unfold domX at hX
  rw [ev_o, ev_nt] at hX
  have hp : (domP g h).ev a = true := by
    unfold domP
    rw [ev_an, ev_and]
    refine ⟨h1, fun e he => ?_⟩
    obtain ⟨k, hk, rfl⟩ := List.mem_map.mp he
    rw [ev_o, ev_nt]
    by_cases hgk : a (eI g k) = true
    · exact .inr (h2 k hk hgk)
    · exact .inl hgk
  rcases hX with hX | hX
  · exact absurd hp hX
  rw [ev_and] at hX
  have e : rkB (fun n => if (oth g g).any (fun k => eI g k == n) then false else a n) + 1 = (BX.tt :: rX (delX g)).countP (·.ev a) := by
    rw [List.countP_cons, ev_rX, eu]; rfl
  rw [e]
  refine count_eq (Nat.le_trans List.countP_le_length (le5 rfl)) (Nat.le_trans List.countP_le_length (le5 rfl)) fun k hk => ?_
  have := hX _ (List.mem_map_of_mem hk)
  unfold domR at this
  rw [ev_if, ev_cnt, ev_cnt] at this
  exact this
end Mine.Tactic
end
section
open PySem PySem.W PyProof.Rows PySem.Calls
set_option Elab.async false
set_option maxRecDepth 100000
namespace Mine.Tactic
noncomputable def eD (w : Nat × Nat → Nat) (D : List (Nat × Nat)) (t : Nat) : Nat → Bool := fun n => D.any fun q => eI q.1 q.2 == n && decide (t ≤ w q)
noncomputable def five5 : List Nat := [1, 2, 3, 4, 5]
noncomputable def treeR (w : Nat × Nat → Nat) : Nat := (five5.map fun t => rkB (eD w all10 t)).sum
theorem idx10 {q : Nat × Nat} (h : q ∈ all10) : eI q.1 q.2 < 10 ∧ q.1 ≠ q.2 := (by decide : ∀ q ∈ all10, eI q.1 q.2 < 10 ∧ q.1 ≠ q.2) q h
theorem eD_out {w : Nat × Nat → Nat} {D : List (Nat × Nat)} (h : ∀ q ∈ D, q ∈ all10) (t : Nat) : ∀ n, 10 ≤ n → eD w D t n = false := fun n hn => by
  unfold eD
  rw [List.any_eq_false]
  intro q hq
  have := (idx10 (h q hq)).1
  rw [show (eI q.1 q.2 == n) = false from beq_eq_false_iff_ne.mpr (by walk_at "zo")]
  simp
theorem eD_snoc (w : Nat × Nat → Nat) (D : List (Nat × Nat)) (q : Nat × Nat) (t : Nat) : eD w (D ++ [q]) t = if t ≤ w q then (fun n => if n = eI q.1 q.2 then true else eD w D t n) else eD w D t := by
  funext n
  have e : eD w (D ++ [q]) t n = (eD w D t n || (eI q.1 q.2 == n && decide (t ≤ w q))) := by unfold eD; rw [List.any_append, List.any_cons, List.any_nil, Bool.or_false]
  rw [e]
  by_cases ht : t ≤ w q
  · rw [if_pos ht, decide_eq_true ht, Bool.and_true]
    by_cases hn : n = eI q.1 q.2
    · rw [if_pos hn, hn, beq_self_eq_true, Bool.or_true]
    · rw [if_neg hn, beq_eq_false_iff_ne.mpr (Ne.symm hn), Bool.or_false]
  · rw [if_neg ht, decide_eq_false ht, Bool.and_false, Bool.or_false]
theorem eD_all {w : Nat × Nat → Nat} {D : List (Nat × Nat)} {t u : Nat} (h : ∀ d ∈ D, u ≤ w d) (ht : t ≤ u) : eD w D t = eD w D 0 := by
  funext n
  unfold eD
  rw [Bool.eq_iff_iff, List.any_eq_true, List.any_eq_true]
  have e : ∀ d ∈ D, (eI d.1 d.2 == n && decide (t ≤ w d)) = (eI d.1 d.2 == n && decide (0 ≤ w d)) := fun d hd => by rw [decide_eq_true (Nat.le_trans ht (h d hd)), decide_eq_true (Nat.zero_le _)]
  exact ⟨fun ⟨q, hq, h⟩ => ⟨q, hq, e q hq ▸ h⟩, fun ⟨q, hq, h⟩ => ⟨q, hq, (e q hq).symm ▸ h⟩⟩
noncomputable def Mrk (w : Nat × Nat → Nat) (D : List (Nat × Nat)) : Prop := (∀ i l, i < 5 → l < 5 → ((krus w D).1.getD i 0 == (krus w D).1.getD l 0) = cnB (eD w D 0) i l) ∧ (krus w D).2 = (five5.map fun t => rkB (eD w D t)).sum
theorem sum_pick (f g : Nat → Nat) (c m : Nat) (hm : m ≤ 5) (h1 : ∀ t ∈ five5, t ≤ m → g t = f t + c) (h2 : ∀ t ∈ five5, m < t → g t = f t) : (five5.map g).sum = (five5.map f).sum + c * m := by
  have key : ∀ l : List Nat, (∀ t ∈ l, t ∈ five5) → (l.map g).sum = (l.map f).sum + c * l.countP fun t => decide (t ≤ m) := fun l => by
    induction l with
    | nil => intro _; rfl
    | cons a l ih =>
      intro h
      have := ih fun t ht => h t (.tail _ ht)
      rw [List.map_cons, List.map_cons, List.sum_cons, List.sum_cons, List.countP_cons, this]
      by_cases e : a ≤ m
      · rw [h1 a (h a (.head _)) e, if_pos (decide_eq_true e), Nat.mul_succ, Nat.add_add_add_comm, Nat.add_comm c]
      · rw [h2 a (h a (.head _)) (Nat.lt_of_not_le e), if_neg (fun k => e (of_decide_eq_true k)), Nat.add_zero, Nat.add_assoc]
  rw [key five5 fun _ h => h, (by decide : ∀ m < 6, (five5.countP fun t => decide (t ≤ m)) = m) m (Nat.lt_succ_of_le hm)]
theorem getD_map {f : Nat → Nat} {l : List Nat} {i : Nat} (h : i < l.length) : (l.map f).getD i 0 = f (l.getD i 0) := by
  rw [List.getD_eq_getElem?_getD, List.getElem?_map, List.getElem?_eq_getElem h, List.getD_eq_getElem?_getD, List.getElem?_eq_getElem h]; rfl
theorem mrk_snoc {w : Nat × Nat → Nat} {D : List (Nat × Nat)} {q : Nat × Nat} (h : Mrk w D) (hD : ∀ d ∈ D, d ∈ all10) (hq : q ∈ all10) (hw : w q ≤ 5) (hs : ∀ d ∈ D, w q ≤ w d) : Mrk w (D ++ [q]) := by
  obtain ⟨h1, h2⟩ := h
  have hl := krus_len w D
  obtain ⟨q1, q2⟩ := mem10 hq
  have A := fun t => add_edge hq (eD_out (w := w) hD t)
  have hm := h1 q.1 q.2 q1 q2
  have e0 : eD w (D ++ [q]) 0 = fun n => if n = eI q.1 q.2 then true else eD w D 0 n := by rw [eD_snoc, if_pos (Nat.zero_le _)]
  have hst : krus w (D ++ [q]) = if (krus w D).1.getD q.1 0 != (krus w D).1.getD q.2 0 then (krMap (krus w D).1 q, (krus w D).2 + w q) else krus w D := krus_snoc w D q
  have hsum : ∀ c : Nat, (if cnB (eD w D 0) q.1 q.2 then 0 else 1) = c → (five5.map fun t => rkB (eD w (D ++ [q]) t)).sum = (krus w D).2 + c * w q := fun c hc => by
    rw [h2]
    refine sum_pick _ _ c (w q) hw (fun t _ ht => ?_) fun t _ ht => ?_
    · rw [eD_snoc, if_pos ht, (A t).2, eD_all hs ht, hc]
    · rw [eD_snoc, if_neg (by walk_at "zo")]
  by_cases hc : (krus w D).1.getD q.1 0 = (krus w D).1.getD q.2 0
  · rw [show ((krus w D).1.getD q.1 0 != (krus w D).1.getD q.2 0) = false by rw [hc]; exact bne_self_eq_false _, if_neg (by decide)] at hst
    rw [hc, beq_self_eq_true] at hm
    refine ⟨fun i l hi hl => ?_, ?_⟩
    · rw [hst, e0, (A 0).1 i l hi hl, ← h1 i l hi hl, ← h1 i q.1 hi q1, ← h1 q.2 l q2 hl, ← h1 i q.2 hi q2, ← h1 q.1 l q1 hl, hc]
      generalize (krus w D).1.getD i 0 = a
      generalize (krus w D).1.getD l 0 = b
      generalize (krus w D).1.getD q.2 0 = c
      rw [Bool.eq_iff_iff]
      simp only [Bool.or_eq_true, Bool.and_eq_true, beq_iff_eq]
      walk_at "zo"
    · rw [hst, hsum 0 (by rw [← hm]; rfl)]; walk_at "zo"
  · rw [show ((krus w D).1.getD q.1 0 != (krus w D).1.getD q.2 0) = true by rw [bne_iff_ne]; exact hc, if_pos rfl] at hst
    rw [beq_eq_false_iff_ne.mpr hc] at hm
    refine ⟨fun i l hi hl => ?_, ?_⟩
    · rw [hst, e0, (A 0).1 i l hi hl, ← h1 i l hi hl, ← h1 i q.1 hi q1, ← h1 q.2 l q2 hl, ← h1 i q.2 hi q2, ← h1 q.1 l q1 hl]
      show ((krMap (krus w D).1 q).getD i 0 == (krMap (krus w D).1 q).getD l 0) = _
      unfold krMap
      rw [getD_map (by walk_at "zo"), getD_map (by walk_at "zo")]
      generalize (krus w D).1.getD i 0 = a
      generalize (krus w D).1.getD l 0 = b
      generalize (krus w D).1.getD q.2 0 = c at hc ⊢
      generalize (krus w D).1.getD q.1 0 = d at hc ⊢
      rw [Bool.eq_iff_iff]
      by_cases ha : a = d <;> by_cases hb : b = d <;> simp [ha, hb] <;> walk_at "zo"
    · rw [hst, hsum 1 (by rw [← hm]; rfl)]
      show _ + w q = _
      walk_at "zo"
theorem mrk_nil (w : Nat × Nat → Nat) : Mrk w [] := by
  have e : ∀ t, eD w [] t = fun _ => false := fun t => rfl
  refine ⟨fun i l hi hl => ?_, ?_⟩
  · rw [e]
    exact of_below (p := fun i => ∀ l, l < 5 → (([0, 1, 2, 3, 4] : List Nat).getD i 0 == ([0, 1, 2, 3, 4] : List Nat).getD l 0) = cnB (fun _ => false) i l) hi (by decide +kernel) l hl
  · show 0 = _
    unfold five5
    simp only [e, List.map_cons, List.map_nil]
    decide +kernel
theorem mrk_all {w : Nat × Nat → Nat} (hw : ∀ q ∈ all10, w q ≤ 5) : ∀ (R D : List (Nat × Nat)), (∀ q ∈ D ++ R, q ∈ all10) → (D ++ R).Pairwise (fun a b => w b ≤ w a) → Mrk w D → Mrk w (D ++ R)
  | [], D, _, _, h => by rw [List.append_nil]; exact h
  | q :: R, D, hm, hp, h => by
    have e : D ++ q :: R = (D ++ [q]) ++ R := by simp
    have hq := hm q (by simp)
    have hp2 := (List.pairwise_append.mp hp).2.2
    rw [e] at hm hp ⊢
    exact mrk_all hw R (D ++ [q]) hm hp (mrk_snoc h (fun d hd => hm d (by simp [hd])) hq (hw q hq) fun d hd => hp2 d hd q (.head _))
theorem tree_val {w : Nat × Nat → Nat} (hw : ∀ q ∈ all10, w q ≤ 5) {t : Nat} (h : TreeP w t) : t = treeR w := by
  obtain ⟨D, h1, h2, rfl⟩ := h
  have := mrk_all hw D [] (fun q hq => h1.mem_iff.mp hq) h2 (mrk_nil w)
  rw [List.nil_append] at this
  rw [this.2]
  unfold treeR
  congr 2
  funext t
  congr 1
  funext n
  unfold eD
  rw [Bool.eq_iff_iff, List.any_eq_true, List.any_eq_true]
  exact ⟨fun ⟨q, hq, h⟩ => ⟨q, h1.mem_iff.mp hq, h⟩, fun ⟨q, hq, h⟩ => ⟨q, h1.mem_iff.mpr hq, h⟩⟩
end Mine.Tactic
end
section
open PySem PySem.W PyProof.Rows PySem.Calls
set_option Elab.async false
set_option maxRecDepth 100000
namespace Mine.Tactic
noncomputable def incX (c k x : Nat) : BX := if k < 4 then .var (5 * k + x) else if c.testBit x then .tt else .ff
noncomputable def wX (c : Nat) (q : Nat × Nat) : List BX := (List.range 5).map fun x => .and (incX c q.1 x) (incX c q.2 x)
noncomputable def eX (c t n : Nat) : BX := if n < 10 then cnt t (wX c (all10.getD n (0, 0))) else .ff
noncomputable def ranksX (c : Nat) : List BX := five5.flatMap fun t => rX (eX c t)
noncomputable def dueX (c : Nat) : List BX := (List.range 5).flatMap fun x => [1, 2, 3, 4].map fun j => .and (incX c j x) (.orL ((List.range j).map fun i => incX c i x))
noncomputable def adjX (c x y : Nat) : BX := .orL ((List.range 5).map fun k => .and (incX c k x) (incX c k y))
noncomputable def tieX (c : Nat) (S : List Nat) (m x : Nat) : BX := .and (cnt m ((S.filter (· != x)).map (adjX c x))) (.not (cnt (m + 1) ((S.filter (· != x)).map (adjX c x))))
noncomputable def wholeX (c : Nat) (S : List Nat) : BX := .orL ((List.range 5).map fun k => .andL (S.map (incX c k)))
noncomputable def knotX (c : Nat) (S : List Nat) : BX := .or (.and (.andL (S.map (tieX c S (S.length - 1)))) (.not (wholeX c S))) (if 3 < S.length then .andL (S.map (tieX c S 2)) else .ff)
noncomputable def picks : List (List Nat) := ((List.range 32).map fun c : Nat => (List.range 5).filter (bitK c)).filter fun S => decide (2 < S.length)
noncomputable def knotsX (c : Nat) : BX := .orL (picks.map (knotX c))
noncomputable def rowX (c k : Nat) : BX := .orL ((List.range 5).map (incX c k))
noncomputable def colX (c x : Nat) : List BX := (List.range 5).map fun k => incX c k x
noncomputable def loneX (c x : Nat) : BX := .and (cnt 1 (colX c x)) (.not (cnt 2 (colX c x)))
noncomputable def subX (c : Nat) (q : Nat × Nat) : BX := .and (rowX c q.1) (.andL ((List.range 5).map fun x => .or (.not (incX c q.1 x)) (incX c q.2 x)))
noncomputable def stuckX (c : Nat) : BX := .and (.andL ((List.range 5).map fun x => .not (loneX c x))) (.andL ((all25.filter fun q => q.1 != q.2).map fun q => .not (subX c q)))
noncomputable def m20 : List Nat := (List.range 20).map (· + 1)
noncomputable def leX (c m : Nat) : BX := .or (.not (cnt m (ranksX c))) (cnt m (dueX c))
noncomputable def ltX (c m : Nat) : BX := .and (cnt m (dueX c)) (.not (cnt m (ranksX c)))
noncomputable def allX (c : Nat) : BX := .and (.andL (m20.map (leX c))) (.and (.iff (knotsX c) (.orL (m20.map (ltX c)))) (.or (.not (.and (stuckX c) (.orL ((List.range 5).map (rowX c))))) (knotsX c)))
noncomputable def stB (c : Nat) : Bool := (allX c).tab 20 == BX.allT 20
end Mine.Tactic
end
section
set_option Elab.async false
namespace Mine.Tactic
theorem st_0 : stB 0 = true := by decide +kernel
theorem st_1 : stB 1 = true := by decide +kernel
theorem st_2 : stB 2 = true := by decide +kernel
theorem st_3 : stB 3 = true := by decide +kernel
theorem st_4 : stB 4 = true := by decide +kernel
theorem st_5 : stB 5 = true := by decide +kernel
theorem st_6 : stB 6 = true := by decide +kernel
theorem st_7 : stB 7 = true := by decide +kernel
theorem st_8 : stB 8 = true := by decide +kernel
theorem st_9 : stB 9 = true := by decide +kernel
theorem st_10 : stB 10 = true := by decide +kernel
theorem st_11 : stB 11 = true := by decide +kernel
theorem st_12 : stB 12 = true := by decide +kernel
theorem st_13 : stB 13 = true := by decide +kernel
theorem st_14 : stB 14 = true := by decide +kernel
theorem st_15 : stB 15 = true := by decide +kernel
theorem st_16 : stB 16 = true := by decide +kernel
theorem st_17 : stB 17 = true := by decide +kernel
theorem st_18 : stB 18 = true := by decide +kernel
theorem st_19 : stB 19 = true := by decide +kernel
theorem st_20 : stB 20 = true := by decide +kernel
theorem st_21 : stB 21 = true := by decide +kernel
theorem st_22 : stB 22 = true := by decide +kernel
theorem st_23 : stB 23 = true := by decide +kernel
theorem st_24 : stB 24 = true := by decide +kernel
theorem st_25 : stB 25 = true := by decide +kernel
theorem st_26 : stB 26 = true := by decide +kernel
theorem st_27 : stB 27 = true := by decide +kernel
theorem st_28 : stB 28 = true := by decide +kernel
theorem st_29 : stB 29 = true := by decide +kernel
theorem st_30 : stB 30 = true := by decide +kernel
theorem st_31 : stB 31 = true := by decide +kernel
theorem st_all : ∀ c, c < 32 → stB c = true
  | 0, _ => st_0
  | 1, _ => st_1
  | 2, _ => st_2
  | 3, _ => st_3
  | 4, _ => st_4
  | 5, _ => st_5
  | 6, _ => st_6
  | 7, _ => st_7
  | 8, _ => st_8
  | 9, _ => st_9
  | 10, _ => st_10
  | 11, _ => st_11
  | 12, _ => st_12
  | 13, _ => st_13
  | 14, _ => st_14
  | 15, _ => st_15
  | 16, _ => st_16
  | 17, _ => st_17
  | 18, _ => st_18
  | 19, _ => st_19
  | 20, _ => st_20
  | 21, _ => st_21
  | 22, _ => st_22
  | 23, _ => st_23
  | 24, _ => st_24
  | 25, _ => st_25
  | 26, _ => st_26
  | 27, _ => st_27
  | 28, _ => st_28
  | 29, _ => st_29
  | 30, _ => st_30
  | 31, _ => st_31
  | n + 32, h => absurd h (by walk_at "zo")
end Mine.Tactic
end
section
open PySem PySem.W PyProof.Rows PySem.Calls
set_option Elab.async false
set_option maxRecDepth 100000
namespace Mine.Tactic
noncomputable abbrev Inc := Nat → Nat → Bool
noncomputable def cntM (M : Inc) (x : Nat) : Nat := (List.range 5).countP fun k => M k x
noncomputable def wM (M : Inc) (q : Nat × Nat) : Nat := (List.range 5).countP fun x => M q.1 x && M q.2 x
noncomputable def dueM (M : Inc) : Nat := ((List.range 5).map fun x => cntM M x - 1).sum
noncomputable def adjM (M : Inc) (x y : Nat) : Bool := (List.range 5).any fun k => M k x && M k y
noncomputable def tieM (M : Inc) (S : List Nat) (x : Nat) : Nat := (S.filter (· != x)).countP (adjM M x)
noncomputable def wholeM (M : Inc) (S : List Nat) : Bool := (List.range 5).any fun k => S.all (M k)
noncomputable def knotS (M : Inc) (S : List Nat) : Bool := (S.all (fun x => tieM M S x == S.length - 1) && !wholeM M S) || (decide (3 < S.length) && S.all (fun x => tieM M S x == 2))
noncomputable def knotM (M : Inc) : Bool := picks.any (knotS M)
noncomputable def Stuck (M : Inc) : Prop := (∀ x, x < 5 → cntM M x ≠ 1) ∧ ∀ k j, k < 5 → j < 5 → k ≠ j → ¬ ((∃ x, x < 5 ∧ M k x = true) ∧ ∀ x, x < 5 → M k x = true → M j x = true)
noncomputable def vM (M : Inc) : Nat → Bool := fun n => decide (n < 20) && M (n / 5) (n % 5)
noncomputable def cM (M : Inc) : Nat := BX.placeN (M 4) 5
section
variable {M : Inc}
theorem ev_inc {k x : Nat} (hk : k < 5) (hx : x < 5) : (incX (cM M) k x).ev (vM M) = M k x := by
  unfold incX
  by_cases h : k < 4
  · rw [if_pos h]
    show (decide (5 * k + x < 20) && M ((5 * k + x) / 5) ((5 * k + x) % 5)) = _
    rw [decide_eq_true (by walk_at "zo"), Bool.true_and, show (5 * k + x) / 5 = k by walk_at "zo", show (5 * k + x) % 5 = x by walk_at "zo"]
  · have h4 : k = 4 := by walk_at "zo"
    subst h4
    rw [if_neg h]
    have := BX.placeN_bit (M 4) 5 x
    rw [decide_eq_true hx, Bool.true_and] at this
    rw [show (cM M).testBit x = M 4 x from this]
    cases M 4 x <;> rfl
theorem countP_map_congr {α : Type} {f : α → BX} {g : α → Bool} {l : List α} {v : Nat → Bool} (h : ∀ a ∈ l, (f a).ev v = g a) : (l.map f).countP (·.ev v) = l.countP g := by
  rw [List.countP_map]
  exact List.countP_congr fun a ha => by show (f a).ev v = true ↔ _; rw [h a ha]
theorem any_congr_mem {α : Type} {f g : α → Bool} {l : List α} (h : ∀ a ∈ l, f a = g a) : l.any f = l.any g := by
  rw [Bool.eq_iff_iff, List.any_eq_true, List.any_eq_true]
  exact ⟨fun ⟨a, ha, e⟩ => ⟨a, ha, h a ha ▸ e⟩, fun ⟨a, ha, e⟩ => ⟨a, ha, (h a ha).symm ▸ e⟩⟩
theorem all_congr_mem {α : Type} {f g : α → Bool} {l : List α} (h : ∀ a ∈ l, f a = g a) : l.all f = l.all g := by
  rw [Bool.eq_iff_iff, List.all_eq_true, List.all_eq_true]
  exact ⟨fun k a ha => h a ha ▸ k a ha, fun k a ha => (h a ha).symm ▸ k a ha⟩
theorem ev_w {q : Nat × Nat} (h1 : q.1 < 5) (h2 : q.2 < 5) : (wX (cM M) q).countP (·.ev (vM M)) = wM M q :=
  countP_map_congr fun x hx => by
    have hx := List.mem_range.mp hx
    show ((incX _ q.1 x).ev _ && (incX _ q.2 x).ev _) = _
    rw [ev_inc h1 hx, ev_inc h2 hx]
theorem eD_at (w : Nat × Nat → Nat) (t : Nat) : ∀ n, n < 10 → eD w all10 t n = decide (t ≤ w (all10.getD n (0, 0))) := by
  have key : ∀ n, n < 10 → ∀ q ∈ all10, eI q.1 q.2 = n ↔ q = all10.getD n (0, 0) := by decide
  have mem : ∀ n, n < 10 → all10.getD n (0, 0) ∈ all10 := by decide
  intro n hn
  unfold eD
  rw [Bool.eq_iff_iff, List.any_eq_true]
  constructor
  · rintro ⟨q, hq, h⟩
    rw [Bool.and_eq_true, beq_iff_eq, key n hn q hq] at h
    rw [← h.1]; exact h.2
  · intro h
    refine ⟨_, mem n hn, ?_⟩
    rw [Bool.and_eq_true, beq_iff_eq, key n hn _ (mem n hn)]
    exact ⟨rfl, h⟩
theorem ev_e (t : Nat) : (fun n => (eX (cM M) t n).ev (vM M)) = eD (wM M) all10 t := by
  funext n
  unfold eX
  by_cases h : n < 10
  · rw [if_pos h, eD_at _ _ n h, Bool.eq_iff_iff, ev_cnt, decide_eq_true_eq]
    have := mem10 ((by decide : ∀ n, n < 10 → all10.getD n (0, 0) ∈ all10) n h)
    rw [ev_w this.1 this.2]
  · rw [if_neg h, eD_out (fun q hq => hq) t n (by walk_at "zo")]; rfl
theorem ev_ranks : (ranksX (cM M)).countP (·.ev (vM M)) = treeR (wM M) := by
  unfold ranksX treeR
  rw [List.countP_flatMap]
  congr 2
  funext t
  show (rX (eX (cM M) t)).countP (·.ev (vM M)) = _
  rw [ev_rX, ev_e]
theorem due_col (a b c d e : Bool) : ([1, 2, 3, 4].countP fun j => ([a, b, c, d, e].getD j false) && (List.range j).any fun i => [a, b, c, d, e].getD i false) = ([a, b, c, d, e].countP fun x => x) - 1 := by
  cases a <;> cases b <;> cases c <;> cases d <;> cases e <;> rfl
theorem ev_due : (dueX (cM M)).countP (·.ev (vM M)) = dueM M := by
  unfold dueX dueM
  rw [List.countP_flatMap]
  congr 1
  refine List.map_congr_left fun x hx => ?_
  have hx := List.mem_range.mp hx
  have h := due_col (M 0 x) (M 1 x) (M 2 x) (M 3 x) (M 4 x)
  have hg : ∀ j, j < 5 → [M 0 x, M 1 x, M 2 x, M 3 x, M 4 x].getD j false = M j x := fun j hj => by
    rcases five hj with rfl | rfl | rfl | rfl | rfl <;> rfl
  show (List.map (fun j => BX.and (incX (cM M) j x) (.orL ((List.range j).map fun i => incX (cM M) i x))) [1, 2, 3, 4]).countP (fun e : BX => e.ev (vM M)) = cntM M x - 1
  rw [countP_map_congr (g := fun j => ([M 0 x, M 1 x, M 2 x, M 3 x, M 4 x].getD j false) && (List.range j).any fun i => [M 0 x, M 1 x, M 2 x, M 3 x, M 4 x].getD i false) fun j hj => ?_, h]
  · rfl
  · have hj : j < 5 := by
      simp only [List.mem_cons, List.not_mem_nil, or_false] at hj
      walk_at "zo"
    show ((incX _ j x).ev _ && (BX.orL _).ev _) = _
    rw [ev_inc hj hx, hg j hj, BX.ev_orL, List.any_map]
    congr 1
    refine any_congr_mem fun i hi => ?_
    have hi := List.mem_range.mp hi
    show (incX _ i x).ev _ = _
    rw [ev_inc (by walk_at "zo") hx, hg i (by walk_at "zo")]
theorem ev_adj {x y : Nat} (hx : x < 5) (hy : y < 5) : (adjX (cM M) x y).ev (vM M) = adjM M x y := by
  unfold adjX adjM
  rw [BX.ev_orL, List.any_map]
  refine any_congr_mem fun k hk => ?_
  have hk := List.mem_range.mp hk
  show ((incX _ k x).ev _ && (incX _ k y).ev _) = _
  rw [ev_inc hk hx, ev_inc hk hy]
theorem ev_tie {S : List Nat} (hS : ∀ x ∈ S, x < 5) (m : Nat) {x : Nat} (hx : x < 5) : (tieX (cM M) S m x).ev (vM M) = (tieM M S x == m) := by
  have e : ((S.filter (· != x)).map (adjX (cM M) x)).countP (·.ev (vM M)) = tieM M S x := countP_map_congr fun y hy => ev_adj hx (hS y (List.mem_filter.mp hy).1)
  unfold tieX
  rw [Bool.eq_iff_iff, ev_an, ev_nt, ev_cnt, ev_cnt, e, beq_iff_eq]
  walk_at "zo"
theorem ev_whole {S : List Nat} (hS : ∀ x ∈ S, x < 5) : (wholeX (cM M) S).ev (vM M) = wholeM M S := by
  unfold wholeX wholeM
  rw [BX.ev_orL, List.any_map]
  refine any_congr_mem fun k hk => ?_
  have hk := List.mem_range.mp hk
  show (BX.andL _).ev _ = _
  rw [BX.ev_andL, List.all_map]
  exact all_congr_mem fun x hx => ev_inc hk (hS x hx)
theorem ev_knot {S : List Nat} (hS : ∀ x ∈ S, x < 5) : (knotX (cM M) S).ev (vM M) = knotS M S := by
  unfold knotX knotS
  show ((BX.andL _).ev _ && (BX.not _).ev _ || _) = _
  rw [BX.ev_andL, List.all_map, BX.ev_not, ev_whole hS]
  have a : ∀ m, S.all ((fun e : BX => e.ev (vM M)) ∘ tieX (cM M) S m) = S.all fun x => tieM M S x == m := fun m => all_congr_mem fun x hx => ev_tie hS m (hS x hx)
  rw [a]
  congr 1
  by_cases h : 3 < S.length
  · rw [if_pos h, BX.ev_andL, List.all_map, a, decide_eq_true h, Bool.true_and]
  · rw [if_neg h, decide_eq_false h]; rfl
theorem picks5 : ∀ S ∈ picks, ∀ x ∈ S, x < 5 := by decide +kernel
theorem ev_knots : (knotsX (cM M)).ev (vM M) = knotM M := by
  unfold knotsX knotM
  rw [BX.ev_orL, List.any_map]
  exact any_congr_mem fun S hS => ev_knot (picks5 S hS)
theorem ev_col {x : Nat} (hx : x < 5) : (colX (cM M) x).countP (·.ev (vM M)) = cntM M x :=
  countP_map_congr fun k hk => ev_inc (List.mem_range.mp hk) hx
theorem ev_row {k : Nat} (hk : k < 5) : (rowX (cM M) k).ev (vM M) = true ↔ ∃ x, x < 5 ∧ M k x = true := by
  unfold rowX
  rw [BX.ev_orL, List.any_map, List.any_eq_true]
  constructor
  · rintro ⟨x, hx, h⟩
    have hx := List.mem_range.mp hx
    exact ⟨x, hx, (ev_inc hk hx).symm.trans h⟩
  · rintro ⟨x, hx, h⟩
    exact ⟨x, List.mem_range.mpr hx, (ev_inc hk hx).trans h⟩
theorem ev_stuck (h : Stuck M) : (stuckX (cM M)).ev (vM M) = true := by
  unfold stuckX
  rw [ev_an, ev_and, ev_and]
  constructor
  · intro e he
    obtain ⟨x, hx, rfl⟩ := List.mem_map.mp he
    have hx := List.mem_range.mp hx
    have := h.1 x hx
    unfold loneX
    rw [ev_nt, ev_an, ev_nt, ev_cnt, ev_cnt, ev_col hx]
    walk_at "zo"
  · intro e he
    obtain ⟨q, hq, rfl⟩ := List.mem_map.mp he
    obtain ⟨hq, hne⟩ := List.mem_filter.mp hq
    obtain ⟨k, hk, hq⟩ := List.mem_flatMap.mp hq
    obtain ⟨j, hj, rfl⟩ := List.mem_map.mp hq
    have hk := List.mem_range.mp hk
    have hj := List.mem_range.mp hj
    unfold subX
    rw [ev_nt, ev_an, ev_row hk, ev_and]
    rintro ⟨h1, h2⟩
    refine h.2 k j hk hj (by simpa using hne) ⟨h1, fun x hx hm => ?_⟩
    have := h2 _ (List.mem_map_of_mem (List.mem_range.mpr hx))
    rw [ev_o, ev_nt, ev_inc hk hx, ev_inc hj hx] at this
    rcases this with h | h
    · exact absurd hm h
    · exact h
theorem mem20 {m : Nat} : m ∈ m20 ↔ 1 ≤ m ∧ m ≤ 20 := by
  unfold m20
  rw [List.mem_map]
  constructor
  · rintro ⟨a, ha, rfl⟩
    have := List.mem_range.mp ha
    walk_at "zo"
  · rintro ⟨h1, h2⟩
    exact ⟨m - 1, List.mem_range.mpr (by walk_at "zo"), by walk_at "zo"⟩
theorem due_le : dueM M ≤ 20 := by
  rw [← ev_due]
  exact Nat.le_trans List.countP_le_length (Nat.le_of_ble_eq_true rfl)
theorem tree_le20 : treeR (wM M) ≤ 20 := by
  rw [← ev_ranks]
  exact Nat.le_trans List.countP_le_length (Nat.le_of_ble_eq_true rfl)
theorem static (M : Inc) : treeR (wM M) ≤ dueM M ∧ (knotM M = true ↔ treeR (wM M) < dueM M) ∧ (Stuck M → (∃ k x, k < 5 ∧ x < 5 ∧ M k x = true) → knotM M = true) := by
  have h := BX.taut (v := vM M) (eq_of_beq (st_all (cM M) (BX.placeN_lt (M 4) 5))) fun i hi => by unfold vM; rw [decide_eq_false (by walk_at "zo")]; rfl
  have ht := tree_le20 (M := M)
  have hd := due_le (M := M)
  unfold allX at h
  rw [ev_an, ev_an, ev_and, ev_if, ev_o, ev_nt, ev_an, ev_knots] at h
  obtain ⟨h1, h2, h3⟩ := h
  have le : ∀ m, 1 ≤ m → m ≤ 20 → m ≤ treeR (wM M) → m ≤ dueM M := fun m a b c => by
    have := h1 _ (List.mem_map_of_mem (mem20.mpr ⟨a, b⟩))
    unfold leX at this
    rw [ev_o, ev_nt, ev_cnt, ev_cnt, ev_ranks, ev_due] at this
    walk_at "zo"
  have lt : (BX.orL (m20.map (ltX (cM M)))).ev (vM M) = true ↔ ∃ m, 1 ≤ m ∧ m ≤ 20 ∧ m ≤ dueM M ∧ ¬ m ≤ treeR (wM M) := by
    rw [BX.ev_orL, List.any_map, List.any_eq_true]
    have e : ∀ m, ((fun e : BX => e.ev (vM M)) ∘ ltX (cM M)) m = true ↔ m ≤ dueM M ∧ ¬ m ≤ treeR (wM M) := fun m => by
      show (ltX (cM M) m).ev (vM M) = true ↔ _
      unfold ltX
      rw [ev_an, ev_nt, ev_cnt, ev_cnt, ev_ranks, ev_due]
    exact ⟨fun ⟨m, hm, h⟩ => ⟨m, (mem20.mp hm).1, (mem20.mp hm).2, (e m).mp h⟩, fun ⟨m, a, b, h⟩ => ⟨m, mem20.mpr ⟨a, b⟩, (e m).mpr h⟩⟩
  rw [lt] at h2
  refine ⟨?_, h2.trans ⟨fun ⟨m, _, _, a, b⟩ => by walk_at "zo", fun h => ⟨dueM M, by walk_at "zo", by walk_at "zo", by walk_at "zo", by walk_at "zo"⟩⟩, fun hS ⟨k, x, hk, hx, hm⟩ => ?_⟩
  · by_cases h0 : treeR (wM M) = 0
    · walk_at "zo"
    · exact le _ (by walk_at "zo") ht (Nat.le_refl _)
  · rcases h3 with h3 | h3
    · refine absurd ⟨ev_stuck hS, ?_⟩ h3
      rw [BX.ev_orL, List.any_map, List.any_eq_true]
      exact ⟨k, List.mem_range.mpr hk, (ev_row hk).mpr ⟨x, hx, hm⟩⟩
    · exact h3
end
end Mine.Tactic
end
section
open PySem PySem.W PyProof.Rows PySem.Calls
set_option Elab.async false
set_option maxRecDepth 100000
namespace Mine.Tactic
noncomputable def del1 (M : Inc) : Inc := fun k x => M k x && cntM M x != 1
noncomputable def drop1 (M : Inc) (g : Nat) : Inc := fun k x => M k x && k != g
noncomputable def rowN (M : Inc) (g : Nat) : Nat := (List.range 5).countP (M g)
section
variable {M : Inc}
theorem two_cnt {k j x : Nat} (hk : k < 5) (hj : j < 5) (hne : k ≠ j) (h1 : M k x = true) (h2 : M j x = true) : 2 ≤ cntM M x := by
  unfold cntM
  rw [List.countP_eq_length_filter]
  have hn : [k, j].Nodup := by simp [hne]
  have := hn.length_le_of_subset (l₂ := (List.range 5).filter fun k => M k x) fun y hy => by
    rcases List.mem_cons.mp hy with rfl | hy
    · exact List.mem_filter.mpr ⟨List.mem_range.mpr hk, h1⟩
    · rw [List.mem_singleton.mp hy]; exact List.mem_filter.mpr ⟨List.mem_range.mpr hj, h2⟩
  exact this
theorem del1_keep {k j x : Nat} (hk : k < 5) (hj : j < 5) (hne : k ≠ j) (h1 : M k x = true) (h2 : M j x = true) : del1 M k x = true := by
  unfold del1
  rw [h1, Bool.true_and, bne_iff_ne]
  have := two_cnt hk hj hne h1 h2
  walk_at "zo"
theorem del1_w {q : Nat × Nat} (h1 : q.1 < 5) (h2 : q.2 < 5) (hne : q.1 ≠ q.2) : wM (del1 M) q = wM M q := by
  unfold wM
  refine List.countP_congr fun x _ => ?_
  rw [Bool.and_eq_true, Bool.and_eq_true]
  refine ⟨fun ⟨a, b⟩ => ⟨(Bool.and_eq_true _ _ ▸ a).1, (Bool.and_eq_true _ _ ▸ b).1⟩, fun ⟨a, b⟩ => ⟨del1_keep h1 h2 hne a b, del1_keep h2 h1 (Ne.symm hne) b a⟩⟩
theorem cnt_del1 (x : Nat) : cntM (del1 M) x = if cntM M x = 1 then 0 else cntM M x := by
  have e : cntM (del1 M) x = (List.range 5).countP fun k => M k x && cntM M x != 1 := rfl
  rw [e]
  by_cases h : cntM M x = 1
  · rw [if_pos h, List.countP_eq_zero]
    intro k _
    rw [h]; simp
  · rw [if_neg h]
    have : (cntM M x != 1) = true := bne_iff_ne.mpr h
    rw [this]
    exact List.countP_congr fun k _ => by rw [Bool.and_true]
theorem del1_due : dueM (del1 M) = dueM M := by
  unfold dueM
  congr 1
  refine List.map_congr_left fun x _ => ?_
  rw [cnt_del1]
  split <;> walk_at "zo"
theorem treeR_congr {w w' : Nat × Nat → Nat} (h : ∀ q ∈ all10, w q = w' q) : treeR w = treeR w' := by
  have e : eD w all10 = eD w' all10 := by
    funext t n
    unfold eD
    exact any_congr_mem fun q hq => by rw [h q hq]
  unfold treeR
  rw [e]
theorem del1_tree : treeR (wM (del1 M)) = treeR (wM M) := treeR_congr fun q hq => del1_w (mem10 hq).1 (mem10 hq).2 (idx10 hq).2
theorem wM_symm (k j : Nat) : wM M (k, j) = wM M (j, k) := List.countP_congr fun x _ => by rw [Bool.and_comm]
theorem wM_le (k j : Nat) : wM M (k, j) ≤ rowN M k := List.countP_mono_left fun x _ h => (Bool.and_eq_true _ _ ▸ h).1
theorem rowN_le (k : Nat) : rowN M k ≤ 5 := List.countP_le_length
theorem eD_pair {g h : Nat} (hg : g < 5) (hh : h < 5) (hne : g ≠ h) (t : Nat) : eD (wM M) all10 t (eI g h) = decide (t ≤ wM M (g, h)) := by
  have key : ∀ g, g < 5 → ∀ h, h < 5 → g ≠ h → eI g h < 10 ∧ (all10.getD (eI g h) (0, 0) = (g, h) ∨ all10.getD (eI g h) (0, 0) = (h, g)) := by decide
  obtain ⟨k1, k2⟩ := key g hg h hh hne
  rw [eD_at _ _ _ k1]
  rcases k2 with e | e
  · rw [e]
  · rw [e, wM_symm]
theorem eD_drop {g : Nat} (hg : g < 5) {t : Nat} (ht : 1 ≤ t) : eD (wM (drop1 M g)) all10 t = fun n => if (oth g g).any (fun k => eI g k == n) then false else eD (wM M) all10 t n := by
  have key : ∀ g, g < 5 → ∀ n, n < 10 → ((oth g g).any (fun k => eI g k == n) = true ↔ (all10.getD n (0, 0)).1 = g ∨ (all10.getD n (0, 0)).2 = g) := by decide
  funext n
  by_cases hn : n < 10
  · rw [eD_at _ _ _ hn, eD_at _ _ _ hn]
    have k := key g hg n hn
    generalize all10.getD n (0, 0) = q at k ⊢
    by_cases ht2 : (oth g g).any (fun k => eI g k == n) = true
    · rw [if_pos ht2]
      have e : wM (drop1 M g) q = 0 := by
        unfold wM drop1
        rw [List.countP_eq_zero]
        intro x _
        rcases k.mp ht2 with e | e <;> simp [e]
      rw [e]
      exact decide_eq_false (by walk_at "zo")
    · rw [if_neg ht2]
      have hk := fun e => ht2 (k.mpr e)
      have e : wM (drop1 M g) q = wM M q := by
        unfold wM drop1
        refine List.countP_congr fun x _ => ?_
        rw [show (q.1 != g) = true from bne_iff_ne.mpr fun e => hk (.inl e), show (q.2 != g) = true from bne_iff_ne.mpr fun e => hk (.inr e), Bool.and_true, Bool.and_true]
      rw [e]
  · rw [eD_out (fun q hq => hq) t n (by walk_at "zo"), eD_out (fun q hq => hq) t n (by walk_at "zo")]
    split <;> rfl
theorem mem_oth {i j m : Nat} : m ∈ oth i j ↔ m < 5 ∧ m ≠ i ∧ m ≠ j := by
  unfold oth
  rw [List.mem_filter, List.mem_range, Bool.and_eq_true, bne_iff_ne, bne_iff_ne]
theorem drop_tree {g h : Nat} (hg : g < 5) (hh : h < 5) (hne : g ≠ h) (hs : ∀ x, x < 5 → M g x = true → M h x = true) : treeR (wM M) = treeR (wM (drop1 M g)) + rowN M g := by
  have hw : wM M (g, h) = rowN M g := List.countP_congr fun x hx => by
    rw [Bool.and_eq_true]
    exact ⟨fun a => a.1, fun a => ⟨a, hs x (List.mem_range.mp hx) a⟩⟩
  have hle : ∀ k, wM M (g, k) ≤ wM M (h, k) := fun k => List.countP_mono_left fun x hx a => by
    rw [Bool.and_eq_true] at a ⊢
    exact ⟨hs x (List.mem_range.mp hx) a.1, a.2⟩
  have hpos : ∀ t ∈ five5, 1 ≤ t := by decide
  unfold treeR
  rw [sum_pick (fun t => rkB (eD (wM (drop1 M g)) all10 t)) (fun t => rkB (eD (wM M) all10 t)) 1 (rowN M g) (rowN_le g) (fun t h5 ht => ?_) (fun t h5 ht => ?_), Nat.one_mul]
  · show rkB _ = rkB _ + 1
    rw [eD_drop hg (hpos t h5)]
    refine dom_edge hg hh hne (eD_out (fun q hq => hq) t) (by rw [eD_pair hg hh hne, hw]; exact decide_eq_true ht) fun k hk a => ?_
    obtain ⟨k1, k2, k3⟩ := mem_oth.mp hk
    rw [eD_pair hg k1 (Ne.symm k2)] at a
    rw [eD_pair hh k1 (Ne.symm k3)]
    exact decide_eq_true (Nat.le_trans (of_decide_eq_true a) (hle k))
  · show rkB _ = rkB _
    rw [eD_drop hg (hpos t h5)]
    congr 1
    funext n
    by_cases hn : (oth g g).any (fun k => eI g k == n) = true
    · rw [if_pos hn]
      obtain ⟨k, hk, e⟩ := List.any_eq_true.mp hn
      obtain ⟨k1, k2, _⟩ := mem_oth.mp hk
      rw [← eq_of_beq e, eD_pair hg k1 (Ne.symm k2)]
      have := wM_le (M := M) g k
      exact decide_eq_false (by walk_at "zo")
    · rw [if_neg hn]
theorem cnt_drop {g : Nat} (hg : g < 5) (x : Nat) : cntM M x = cntM (drop1 M g) x + if M g x then 1 else 0 := by
  unfold cntM drop1
  rcases five hg with rfl | rfl | rfl | rfl | rfl <;> simp only [show List.range 5 = [0, 1, 2, 3, 4] from rfl, List.countP_cons, List.countP_nil] <;> simp <;> walk_at "zo"
theorem drop_due {g h : Nat} (hg : g < 5) (hh : h < 5) (hne : g ≠ h) (hs : ∀ x, x < 5 → M g x = true → M h x = true) : dueM M = dueM (drop1 M g) + rowN M g := by
  have key : ∀ x, x < 5 → cntM M x - 1 = (cntM (drop1 M g) x - 1) + if M g x then 1 else 0 := fun x hx => by
    have e := cnt_drop (M := M) hg x
    by_cases hm : M g x = true
    · rw [if_pos hm] at e ⊢
      have h2 := two_cnt hg hh hne hm (hs x hx hm)
      walk_at "zo"
    · rw [if_neg hm] at e ⊢
      walk_at "zo"
  unfold dueM rowN
  simp only [show List.range 5 = [0, 1, 2, 3, 4] from rfl, List.map_cons, List.map_nil, List.sum_cons, List.sum_nil, List.countP_cons, List.countP_nil]
  rw [key 0 (by walk_at "zo"), key 1 (by walk_at "zo"), key 2 (by walk_at "zo"), key 3 (by walk_at "zo"), key 4 (by walk_at "zo")]
  walk_at "zo"
end
end Mine.Tactic
end
section
open PySem PySem.W PyProof.Rows PySem.Calls
set_option Elab.async false
set_option maxRecDepth 100000
namespace Mine.Tactic

theorem compItems.fi {G : Gx} {g : Comprehension} {inner : List PV → Rho → Led → (List PV → Rho → Led → Prop) → Prop} (hm : InnerMono inner) {K : List PV → Rho → Led → Prop} (I : Led → Prop) (ρ₀ : Rho) {α : Type} (f : α → PV) (r : α → List PV) (B : Nat) : ∀ (xs : List α) (acc : List PV) (ρ : Rho) (σ : Led),
    (∀ x ∈ xs, ∀ acc ρ σ, acc.length ≤ B → Sub ρ₀ ρ → I σ → As G g.target (f x) ρ σ (fun ρ₁ σ₁ => TsIfs G g.ifs ρ₁ σ₁ (fun ok ρ₂ σ₂ => if ok then inner acc ρ₂ σ₂ (fun acc' ρ₃ σ₃ => acc' = acc ++ r x ∧ I σ₃ ∧ Sub ρ₀ ρ₃) else r x = [] ∧ I σ₂ ∧ Sub ρ₀ ρ₂))) →
    I σ → Sub ρ₀ ρ → (acc ++ xs.flatMap r).length ≤ B → (∀ ρ σ, I σ → Sub ρ₀ ρ → K (acc ++ xs.flatMap r) ρ σ) → compItems G g inner (xs.map f) acc ρ σ K
  | [], acc, ρ, σ, _, hI, hs, _, fin => by simpa [compItems] using fin ρ σ hI hs
  | x :: items, acc, ρ, σ, turn, hI, hs, hB, fin => by
    rw [List.map_cons]
    unfold compItems
    rw [List.flatMap_cons] at hB fin
    have hacc : acc.length ≤ B := by rw [List.length_append] at hB; walk_at "zo"
    have next : ∀ ρ₂ σ₂, I σ₂ → Sub ρ₀ ρ₂ → compItems G g inner (items.map f) (acc ++ r x) ρ₂ σ₂ K := fun ρ₂ σ₂ h₁ h₂ => compItems.fi hm I ρ₀ f r B items (acc ++ r x) ρ₂ σ₂ (fun y hy => turn y (.tail _ hy)) h₁ h₂ (by rw [List.append_assoc]; exact hB) fun ρ σ a h => by rw [List.append_assoc]; exact fin ρ σ a h
    refine Con.mono (turn x (.head _) acc ρ σ hacc hs hI) fun _ ρ₁ σ₁ h₁ => TsIfs.mono _ (fun b ρ₂ s h₂ => ?_) h₁
    cases b with
    | true => exact hm _ _ _ _ _ (fun a ρ₂ s ⟨e1, e2, e3⟩ => by subst e1; exact next ρ₂ s e2 e3) h₂
    | false =>
      obtain ⟨e1, e2, e3⟩ := h₂
      have := next ρ₂ s e2 e3
      rw [e1, List.append_nil] at this
      exact this
structure SetG (cT : Array Nat) (s : List Nat) : Prop where
  ne : s ≠ []
  bra : (patB s).2 ≠ [] → BraOk cT (patB s).1 (patB s).2
  sz : (patB s).2.length ≤ 5
  no94 : 94 ∉ (patB s).2
  taken : takenP (patB s).1 (patB s).2 = s
noncomputable def presL (Ss : List (List Nat)) : List Nat := AB5.filter fun x => Ss.flatten.contains x
structure PlainOk (Ss : List (List Nat)) : Prop where
  le : (presL Ss).length ≤ Ss.flatten.length
  good : (redP Ss 5 0 (tabK Ss 5)).2 = [] → knotsI Ss 32 = [] ∧ (∀ t, TreeP (wS Ss) t → t + (presL Ss).length = Ss.flatten.length) ∧ (redP Ss 5 0 (tabK Ss 5)).1 + (presL Ss).length = Ss.flatten.length
  bad : (redP Ss 5 0 (tabK Ss 5)).2 ≠ [] → knotsI Ss 32 ≠ [] ∧ ∀ t, TreeP (wS Ss) t → t + (presL Ss).length < Ss.flatten.length
noncomputable abbrev nsLL : Names := [("script", .local), ("sets", .cell), ("taken", .local), ("shared", .local), ("left", .local), ("due", .local), ("tree", .local), ("knots", .local)]
noncomputable abbrev glLL : Rho := [("_law_sets", .ref aG__law_sets), ("_law_reduced", .ref aG__law_reduced), ("_law_table", .ref aG__law_table), ("len", .con (.builtin "len")), ("_law_tree", .ref aG__law_tree), ("_law_knots", .ref aG__law_knots)]
noncomputable abbrev glLK : Rho := [("_law_taken", .ref aG__law_taken), ("translate", .ref aG_translate), ("_law_pattern", .ref aG__law_pattern)]
noncomputable def TabP (P : Addr) : Led → Prop := fun σ => ∃ qs : Array Value, TriplesOk qs.toList ∧ σ = [(P, .obj (tabObj qs))]
set_option maxHeartbeats 16000000 in
theorem law_spec {C : Cx} {p : Params} {n : Nat} {cN cV cT : Array Nat} {mg mb : Str → Option Value} {cd P : Addr} (K : HdrK C p cN cV) (K2 : HdrK2 C p) (O : NamesOk cN cV isLet isDig lowL) (T : TrB C p cT mg mb cd P) (HK : HeapK C p) (hd : C.K.lookup aD___init__ = some (tupO [.none] 0))
    (hf : FnAt C aG_law (fdOf p aG_law)) (hf1 : FnAt C aG__law_sets (fdOf p aG__law_sets)) (hf2 : FnAt C aG__law_pattern (fdOf p aG__law_pattern)) (hf3 : FnAt C aG__law_taken (fdOf p aG__law_taken)) (hf4 : FnAt C aG__law_table (fdOf p aG__law_table)) (hf5 : FnAt C aG__law_reduced (fdOf p aG__law_reduced)) (hf6 : FnAt C aG__law_tree (fdOf p aG__law_tree)) (hf7 : FnAt C aG__law_knots (fdOf p aG__law_knots))
    (hg : Sub glLL C.gl) (g1 : Sub glSE C.gl) (g2 : Sub glPA C.gl) (g3 : Sub glTL C.gl) (g4 : Sub glRA C.gl) (g5 : Sub glTA C.gl) (g6 : Sub glKN C.gl) (g7 : Sub glLK C.gl)
    {l : List Int} (hl : l.length ≤ 1000) (hS : SetsOk (setsP (nums1 l))) (hG : ∀ s ∈ setsP (nums1 l), SetG cT s) (PL : PlainOk (setsP (nums1 l))) {ps : Array Value} (ht : TriplesOk ps.toList) :
    FnSpec C (n + 5) (.ref aG_law) [.lst (l.map .int)] [] [(P, .obj (tabObj ps))] (fun r σ' => r = .bool true ∧ ∃ (qs : Array Value) (φ : Led), TriplesOk qs.toList ∧ σ' = (P, .obj (tabObj qs)) :: φ) := by
  refine FnSpec.of (body := ?bd) ["script"] [.lst (l.map .int)] nsLL ["sets"] glLL (sc := ?sc) hf ?hb ?hsc ?hgl ?hbi ?hcl ?hok hg rfl ?_ ?_
  case hb => with_unfolding_all rfl
  case hsc => with_unfolding_all rfl
  case hgl => with_unfolding_all rfl
  case hbi => with_unfolding_all rfl
  case hcl => with_unfolding_all rfl
  case hok => kernel_rfl
  · intro im s vs kvs hk hv hkw
    obtain ⟨v, rfl, h1⟩ := one_v hv
    have : kvs = [] := by have := hkw.1; simpa using this
    subst this
    have e : bindArgs (fdOf p aG_law) ⟨[v], []⟩ = pure ((["script"].map Str.ofString).zip [v]) := by kernel_rfl
    refine ⟨[v], hv, ?_⟩
    intro M A E Q h
    rw [e]
    exact wpAny_pure h
  · intro env κ
    show Ex _ _ [("_law_sets", .ref aG__law_sets), ("_law_reduced", .ref aG__law_reduced), ("_law_table", .ref aG__law_table), ("len", .con (.builtin "len")), ("_law_tree", .ref aG__law_tree), ("_law_knots", .ref aG__law_knots), ("script", .lst (l.map .int))] _ _
    refine Ex.cons <| Ex1.asg <| Ev.call (by walk_at "zm") <| EvL.cons <| Ev.name (by walk_at "zm") <| EvL.nil <| CallP.of (φ := [(P, .obj (tabObj ps))]) ((sets_spec (n := n) hf1 g1 hl).more (by show n + 1 ≤ n + 4; walk_at "zo")) (by simp) (.inr (by simp)) ?_
    rintro r σ' ⟨rfl, rfl⟩
    generalize setsP (nums1 l) = Ss at hS hG PL ⊢
    have h5 := hS.len
    refine As.nameC (by walk_at "zm") (by walk_at "zs") ?_
    show Ex _ _ _ [(P, .obj (tabObj ps))] _
    refine Ex.cons <| Ex1.asgComp (hy := ?hy) (hsw := ?hsw) (hsc := ?hsc) <| Ev.name (by walk_at "zm") ⟨[], [], [(P, .obj (tabObj ps))], _, [("letters", .local)], [], [], [("_law_taken", .ref aG__law_taken), ("translate", .ref aG_translate), ("_law_pattern", .ref aG__law_pattern)], ItSrc.lst, fun _ h => h, .inr rfl, List.nodup_nil, ?hck, (fun _ h => nomatch h), ?hrg, ?_⟩
    case hy => walk_at "zm"
    case hsw => kernel_rfl
    case hsc => kernel_rfl
    case hck => kernel_rfl
    case hrg => exact g7.in (by walk_at "zb")
    intro env1 κ1
    refine compItems.fi (compInner_mono _) (TabP P) [("_law_taken", .ref aG__law_taken), ("translate", .ref aG_translate), ("_law_pattern", .ref aG__law_pattern)] PV.str (fun s => [.str s]) 1000 Ss [] _ _ ?_ ⟨ps, ht, rfl⟩ (by walk_at "zb") ?_ ?_
    · rintro s hs acc ρ σ hacc hs' ⟨qs, hqs, rfl⟩
      obtain ⟨b1, b2, b3, b4, b5⟩ := hG s hs
      have hsz := hS.sz s hs
      refine Con.rho2 ["_law_taken", "translate", "_law_pattern"] hs' ?_
      refine As.name (by walk_at "zm") (by walk_at "zs") ?_
      show compInner _ _ _ _ _ _ _
      refine Ev.call (by walk_at "zm") <| EvL.cons <| Ev.call (by walk_at "zm") <| EvL.cons <| Ev.call (by walk_at "zm") <| EvL.cons <| Ev.name (by walk_at "zm") <| EvL.nil <| CallP.of (φ := [(P, .obj (tabObj qs))]) ((pattern_spec (n := n) hf2 g2 hsz b1).more (by show n + 1 ≤ n + 4; walk_at "zo")) (by simp) (.inr (by simp)) ?_
      rintro r σ' ⟨rfl, rfl⟩
      refine EvL.nil <| CallP.of (φ := []) ((translate_spec (n := n) T b2 hqs).more (by show n + 2 ≤ n + 4; walk_at "zo")) (fun _ h => h) (.inr rfl) ?_
      rintro r σ' ⟨rfl, qs2, hqs2, rfl⟩
      refine EvL.nil <| CallP.of (φ := [(P, .obj (tabObj qs2))]) ((taken_spec (n := n) hf3 b3 b4).more (by show n + 1 ≤ n + 4; walk_at "zo")) (by simp) (.inr (by simp)) ?_
      rintro r σ' ⟨rfl, rfl⟩
      exact ⟨by walk_at "zo", by rw [b5], ⟨qs2, hqs2, rfl⟩, by walk_at "zb"⟩
    · rw [flat_one, List.nil_append, List.length_map]; walk_at "zo"
    rintro ρ2 _ ⟨qs, hqs, rfl⟩ _
    rw [flat_one, List.nil_append]
    intro _
    refine As.name (by walk_at "zm") (by walk_at "zs") ?_
    show Ex _ _ _ [(P, .obj (tabObj qs))] _
    refine Ex.cons <| Ex1.asgTup (hw := fun _ _ _ _ => by rfl) <| Ev.call (by walk_at "zm") <| EvL.cons <| Ev.call (by walk_at "zm") <| EvL.cons <| Ev.name (by walk_at "zm") <| EvL.nil <| CallP.of (φ := [(P, .obj (tabObj qs))]) ((table_spec (n := n) K O hd hf4 g3 hS).more (by show n + 3 ≤ n + 4; walk_at "zo")) (by simp) (.inr (by simp)) ?_
    rintro r σ' ⟨D, rfl, rfl⟩
    have hH0 : HdOk (tabK Ss 5) := ⟨tabK_let hS (Nat.le_refl _), tabK_len hS 5 (Nat.le_refl _)⟩
    refine EvL.cons <| Ev.name (by walk_at "zm") <| EvL.nil <| CallP.of (φ := [(P, .obj (tabObj qs))]) (reduced_spec (n := n) K K2 O hd hf5 g4 hS hH0) (by simp) (.inr (by simp)) ?_
    rintro r σ' ⟨rfl, rfl⟩
    obtain ⟨pl, pg, pb⟩ := PL
    generalize redP Ss 5 0 (tabK Ss 5) = red at pg pb ⊢
    refine As.tup (ps := [.int (red.1 : Nat), .lst ((red.2.map fun h : List Nat × List Nat => h.1).map .str)]) (As.name (by walk_at "zm") (by walk_at "zs") <| As.name (by walk_at "zm") (by walk_at "zs") ?_) rfl rfl
    show Ex _ _ _ [(P, .obj (tabObj qs))] _
    have hfl : (Ss.map List.length).sum ≤ 25 := by
      have key : ∀ L : List (List Nat), (∀ s ∈ L, s.length ≤ 5) → (L.map List.length).sum ≤ 5 * L.length := by
        intro L
        induction L with
        | nil => intro _; exact Nat.le_refl _
        | cons s L ih =>
          intro h
          have := ih fun x hx => h x (.tail _ hx)
          have := h s (.head _)
          rw [List.map_cons, List.sum_cons, List.length_cons]; walk_at "zo"
      have := key Ss hS.sz
      walk_at "zo"
    have hfl2 : Ss.flatten.length ≤ 25 := by rw [List.length_flatten]; exact hfl
    have hc0 : (cs "").length = 0 := by decide
    refine Ex.cons <| Ex1.asg <| Ev.binop <| Ev.call (by walk_at "zm") <| EvL.cons <| Ev.meth <| Ev.str ⟨_, _, MethP.str F.slot_str_join F.type_str_join, EvL.cons <| Ev.name (by walk_at "zm") <| EvL.nil <| CallP.joinL (ls := Ss) rfl (by rw [hc0]; walk_at "zo") ?_⟩
    rw [pyJoin_flat]
    refine EvL.nil <| CallP.lenS (by walk_at "zo") ?_
    refine Ev.call (by walk_at "zm") <| EvL.cons <| Ev.comp (hsc := ?hsc) <| Ev.str ⟨[], [], [(P, .obj (tabObj qs))], _, [("x", .local)], [], [("sets", .lst (Ss.map .str))], [], ItSrc.str, fun _ h => h, .inr rfl, List.nodup_nil, ?hck, ?hrc, (fun _ h => nomatch h), ?_⟩
    case hsc => kernel_rfl
    case hck => kernel_rfl
    case hrc => walk_at "zb"
    intro env3 κ3
    rw [signs_map, cs5]
    refine compItems.fa (compInner_mono _) [("sets", .lst (Ss.map .str))] (fun x : Nat => .str [x]) (fun x => itIf (Ss.flatten.contains x) (.str [x])) 1000 AB5 [] _ ?_ (by walk_at "zb") ?_ ?_
    · intro x hx acc ρ hacc hs'
      refine Con.rho2 ["sets"] hs' ?_
      refine As.name (by walk_at "zm") (by walk_at "zs") ?_
      refine Ts.compare <| Ev.name (by walk_at "zm") <| Ev.meth <| Ev.str ⟨_, _, MethP.str F.slot_str_join F.type_str_join, EvL.cons <| Ev.name (by walk_at "zm") <| EvL.nil <| CallP.joinL (ls := Ss) rfl (by rw [hc0]; walk_at "zo") ?_⟩
      rw [pyJoin_flat]
      refine Op2.inS <| TrueOf.bool ?_
      rw [contains_sign, ← List.contains_eq_mem]
      refine ite_b (fun h1 => ?_) (fun h1 => ?_)
      · show compInner _ _ _ _ _ _ _
        exact Ev.name (by walk_at "zm") ⟨by walk_at "zo", by rw [h1]; rfl, rfl, by walk_at "zb"⟩
      · exact ⟨by rw [h1]; rfl, rfl, by walk_at "zb"⟩
    · rw [flat_if, List.nil_append]; exact Nat.le_trans (if_len _ _ _) (by decide)
    intro ρ4 _
    rw [flat_if, List.nil_append]
    refine EvL.nil <| CallP.lenL (Nat.le_trans (if_len _ _ _) (by decide)) ?_
    rw [List.length_map, show (AB5.filter fun x => Ss.flatten.contains x) = presL Ss from rfl]
    refine Op2.sub ?_
    refine As.name (by walk_at "zm") (by walk_at "zs") ?_
    show Ex _ _ _ [(P, .obj (tabObj qs))] _
    refine Ex.cons <| Ex1.asgSwap (x := "tree") (y := "knots") (by walk_at "zm") (by walk_at "zm") (ok := by kernel_rfl) <| Ev.tuple <| EvL.cons <| Ev.call (by walk_at "zm") <| EvL.cons <| Ev.name (by walk_at "zm") <| EvL.nil <| CallP.of (φ := [(P, .obj (tabObj qs))]) (tree_spec (n := n) HK hf6 g5 hS) (by simp) (.inr (by simp)) ?_
    rintro r σ' ⟨⟨t, rfl, htr⟩, rfl⟩
    refine EvL.cons <| Ev.call (by walk_at "zm") <| EvL.cons <| Ev.name (by walk_at "zm") <| EvL.nil <| CallP.of (φ := [(P, .obj (tabObj qs))]) ((knots_spec (n := n) K.o3 hf7 g6 hS).more (by show n + 1 ≤ n + 4; walk_at "zo")) (by simp) (.inr (by simp)) ?_
    rintro r σ' ⟨rfl, rfl⟩
    refine EvL.nil ⟨by simp, _, _, _, _, rfl, by walk_at "zs", by walk_at "zs", ?_⟩
    show Ex _ _ _ [(P, .obj (tabObj qs))] _
    refine Ex.cons <| Ex1.if <| Ts.compare <| Ev.name (by walk_at "zm") <| Ev.list <| EvL.nil ⟨by simp, Op2.eqEmptyL <| TrueOf.bool ?_⟩
    rw [List.isEmpty_map, List.isEmpty_map]
    by_cases hr : red.2 = []
    · obtain ⟨q1, q2, q3⟩ := pg hr
      have q4 := q2 t htr
      rw [hr]
      show Ex _ _ _ _ _
      refine Ex.cons <| Ex1.ret <| Ev.and <| Ev.compare <| Ev.name (by walk_at "zm") <| Ev.list <| EvL.nil ⟨by simp, Op2.eqEmptyL <| TrueOf.bool ?_⟩
      rw [q1]
      show Ev _ _ _ _ _
      refine Ev.and <| Ev.compare <| Ev.name (by walk_at "zm") <| Ev.name (by walk_at "zm") <| Op2.eq <| TrueOf.bool ?_
      rw [show ((t : Int) == (Ss.flatten.length : Int) - ((presL Ss).length : Int)) = true by rw [beq_iff_eq]; walk_at "zo"]
      show Ev _ _ _ _ _
      refine Ev.boolOne <| Ev.compare <| Ev.name (by walk_at "zm") <| Ev.name (by walk_at "zm") <| Op2.eq ⟨?_, qs, [], hqs, rfl⟩
      rw [show (((red.1 : Nat) : Int) == (Ss.flatten.length : Int) - ((presL Ss).length : Int)) = true by rw [beq_iff_eq]; walk_at "zo"]
    · obtain ⟨q1, q2⟩ := pb hr
      have q4 := q2 t htr
      rw [show red.2.isEmpty = false by simpa using hr]
      show Ex _ _ _ _ _
      refine Ex.nil ?_
      refine Ex.cons <| Ex1.ret <| Ev.and <| Ev.compare <| Ev.name (by walk_at "zm") <| Ev.list <| EvL.nil ⟨by simp, Op2.neEmptyL <| TrueOf.bool ?_⟩
      rw [List.isEmpty_map, show (knotsI Ss 32).isEmpty = false by simpa using q1]
      show Ev _ _ _ _ _
      refine Ev.boolOne <| Ev.compare <| Ev.name (by walk_at "zm") <| Ev.name (by walk_at "zm") <| Op2.lt ⟨?_, qs, [], hqs, rfl⟩
      rw [decide_eq_true (by walk_at "zo" : (t : Int) < (Ss.flatten.length : Int) - ((presL Ss).length : Int))]
end Mine.Tactic
end
section
open PySem PySem.W PyProof.Rows PySem.Calls
set_option Elab.async false
set_option maxRecDepth 100000
namespace Mine.Tactic
noncomputable def rwL (M : Inc) (k : Nat) : List Nat := ((List.range 5).filter (M k)).map (97 + ·)
noncomputable def rwH (M : Inc) (k : Nat) : Hdrs := ((List.range 5).filter (M k)).map fun x => hdK k (97 + x)
noncomputable def tabM (M : Inc) : Hdrs := (List.range 5).flatMap (rwH M)
theorem tabM_congr {M N : Inc} (h : ∀ k x, k < 5 → x < 5 → M k x = N k x) : tabM M = tabM N := by
  unfold tabM
  rw [List.flatMap_def, List.flatMap_def]
  congr 1
  refine List.map_congr_left fun k hk => ?_
  unfold rwH
  congr 1
  exact List.filter_congr fun x hx => h k x (List.mem_range.mp hk) (List.mem_range.mp hx)
theorem tabM_filter (M : Inc) (p : List Nat × List Nat → Bool) : (tabM M).filter p = tabM fun k x => M k x && p (hdK k (97 + x)) := by
  unfold tabM
  rw [List.filter_flatMap]
  congr 1
  funext k
  unfold rwH
  rw [List.filter_map, List.filter_filter]
  congr 1
  refine List.filter_congr fun x _ => ?_
  show (p (hdK k (97 + x)) && M k x) = _
  exact Bool.and_comm _ _
theorem low_hd {k x : Nat} (hx : x < 5) : lowL (hdK k (97 + x)).1 = [97 + x] := by
  have key : ∀ x, x < 5 → lowL [97 + x - 32] = [97 + x] ∧ lowL [97 + x] = [97 + x] := by decide
  unfold hdK
  cases k % 2 == 1 with
  | true => exact (key x hx).1
  | false => exact (key x hx).2
theorem sgn97 (x y : Nat) : ([97 + x] == [97 + y]) = (x == y) := by rw [Bool.eq_iff_iff, beq_iff_eq, beq_iff_eq]; simp
theorem sgn48 (x y : Nat) : ([48 + x] == [48 + y]) = (x == y) := by rw [Bool.eq_iff_iff, beq_iff_eq, beq_iff_eq]; simp
theorem pick_one {p : Nat → Bool} {x : Nat} (hx : x < 5) : (List.range 5).filter (fun y => y == x && p y) = if p x then [x] else [] := by
  rcases five hx with rfl | rfl | rfl | rfl | rfl <;> simp [show List.range 5 = [0, 1, 2, 3, 4] from rfl, List.filter_cons]
theorem flat_pick {p : Nat → Bool} {β : Type} (f : Nat → β) : ∀ l : List Nat, (l.flatMap fun k => if p k then [f k] else []) = (l.filter p).map f
  | [] => rfl
  | k :: l => by
    rw [List.flatMap_cons, flat_pick f l]
    cases h : p k with
    | true => rw [List.filter_cons_of_pos h]; rfl
    | false => rw [List.filter_cons_of_neg (by rw [h]; decide)]; rfl
theorem held_tab (M : Inc) {x : Nat} (hx : x < 5) : heldP (tabM M) (97 + x) = ((List.range 5).filter fun k => M k x).map fun k => [48 + k] := by
  unfold heldP getAll
  rw [tabM_filter]
  unfold tabM
  rw [List.map_flatMap, ← flat_pick]
  congr 1
  funext k
  unfold rwH
  rw [List.map_map]
  have e : (List.range 5).filter (fun y => M k y && (lowL (hdK k (97 + y)).1 == [97 + x])) = (List.range 5).filter (fun y => y == x && M k y) := List.filter_congr fun y hy => by
    rw [low_hd (List.mem_range.mp hy), sgn97, Bool.and_comm]
  rw [e, pick_one hx]
  cases M k x <;> rfl
theorem held_len (M : Inc) {x : Nat} (hx : x < 5) : (heldP (tabM M) (97 + x)).length = cntM M x := by
  rw [held_tab M hx, List.length_map]
  exact List.countP_eq_length_filter.symm
noncomputable def delP (M : Inc) (i : Nat) : Inc := fun k x => M k x && !(decide (x < i) && cntM M x == 1)
theorem ab_at {i : Nat} (h : i < 5) : AB5[i]? = some (97 + i) := of_below (p := fun i => AB5[i]? = some (97 + i)) h (by decide)
theorem delI_tab (M : Inc) : ∀ i, i ≤ 5 → delI (tabM M) i = tabM (delP M i)
  | 0, _ => tabM_congr fun k x _ _ => by unfold delP; simp
  | i + 1, hi => by
    rw [delI_succ (ab_at (show i < 5 by walk_at "zo")), delI_tab M i (by walk_at "zo")]
    unfold delStep
    rw [held_len M (by walk_at "zo")]
    by_cases h : cntM M i = 1
    · rw [if_pos (by rw [h]; rfl)]
      unfold delH
      rw [tabM_filter]
      refine tabM_congr fun k x hk hx => ?_
      rw [low_hd hx, bne, sgn97]
      unfold delP
      by_cases hxi : x = i
      · subst hxi; rw [h]; simp
      · have e : decide (x < i + 1) = decide (x < i) := by rw [decide_eq_decide]; walk_at "zo"
        rw [e, beq_eq_false_iff_ne.mpr hxi]; simp
    · rw [if_neg (by rw [beq_iff_eq]; exact h)]
      refine tabM_congr fun k x hk hx => ?_
      unfold delP
      by_cases hxi : x = i
      · subst hxi; rw [beq_eq_false_iff_ne.mpr h]; simp
      · have e : decide (x < i + 1) = decide (x < i) := by rw [decide_eq_decide]; walk_at "zo"
        rw [e]
theorem del_tab (M : Inc) : delI (tabM M) 5 = tabM (del1 M) := by
  rw [delI_tab M 5 (Nat.le_refl _)]
  refine tabM_congr fun k x hk hx => ?_
  unfold delP del1
  rw [decide_eq_true hx, Bool.true_and]; rfl
theorem drop_tab (M : Inc) (g : Nat) : dropK (tabM M) g = tabM (drop1 M g) := by
  unfold dropK
  rw [tabM_filter]
  refine tabM_congr fun k x _ _ => ?_
  show (M k x && ([48 + k] != [48 + g])) = _
  unfold drop1
  rw [bne, sgn48]; rfl
theorem pos_cnt {M : Inc} {k x : Nat} (hk : k < 5) (h : M k x = true) : 1 ≤ cntM M x := List.countP_pos_iff.mpr ⟨k, List.mem_range.mpr hk, h⟩
theorem left_tab (M : Inc) {k : Nat} (hk : k < 5) : leftS (tabM M) k = rwL (del1 M) k := by
  unfold leftS rwL
  rw [show AB5 = (List.range 5).map (97 + ·) from rfl, List.filter_map]
  congr 1
  refine List.filter_congr fun x hx => ?_
  have hx := List.mem_range.mp hx
  show (decide (1 < (heldP (tabM M) (97 + x)).length) && (heldP (tabM M) (97 + x)).contains [48 + k]) = del1 M k x
  rw [held_len M hx, held_tab M hx]
  have e : (((List.range 5).filter fun k => M k x).map fun k => [48 + k]).contains [48 + k] = M k x := by
    rw [Bool.eq_iff_iff, List.contains_iff_mem, List.mem_map]
    constructor
    · rintro ⟨j, hj, e⟩
      have : j = k := by simpa using e
      rw [← this]; exact (List.mem_filter.mp hj).2
    · intro h
      exact ⟨k, List.mem_filter.mpr ⟨List.mem_range.mpr hk, h⟩, rfl⟩
  rw [e]
  unfold del1
  cases hm : M k x with
  | false => rw [Bool.and_false]; rfl
  | true =>
    have := pos_cnt hk hm
    rw [Bool.and_true, Bool.true_and, Bool.eq_iff_iff, decide_eq_true_eq, bne_iff_ne]; walk_at "zo"
theorem left_get (M : Inc) {k : Nat} (hk : k < 5) : (leftL (tabM M)).getD k [] = rwL (del1 M) k := by
  unfold leftL
  rw [List.getD_eq_getElem?_getD, List.getElem?_map, List.getElem?_range hk]
  exact left_tab M hk
theorem mem_row {M : Inc} {k x : Nat} (hx : x < 5) : 97 + x ∈ rwL M k ↔ M k x = true := by
  unfold rwL
  rw [List.mem_map]
  constructor
  · rintro ⟨y, hy, e⟩
    have : y = x := by walk_at "zo"
    rw [← this]; exact (List.mem_filter.mp hy).2
  · intro h
    exact ⟨x, List.mem_filter.mpr ⟨List.mem_range.mpr hx, h⟩, rfl⟩
theorem row_in {M : Inc} {k c : Nat} (h : c ∈ rwL M k) : ∃ x, x < 5 ∧ c = 97 + x := by
  obtain ⟨x, hx, rfl⟩ := List.mem_map.mp h
  exact ⟨x, List.mem_range.mp (List.mem_filter.mp hx).1, rfl⟩
theorem pair_tab (M : Inc) {k j : Nat} (hk : k < 5) (hj : j < 5) : pairB (leftL (tabM M)) k j = true ↔ k ≠ j ∧ (∃ x, x < 5 ∧ del1 M k x = true) ∧ ∀ x, x < 5 → del1 M k x = true → del1 M j x = true := by
  unfold pairB
  rw [left_get M hk, left_get M hj, Bool.and_eq_true, Bool.and_eq_true, bne_iff_ne, bne_iff_ne, List.isEmpty_iff, List.filter_eq_nil_iff]
  refine and_congr_right fun _ => and_congr ?_ ?_
  · constructor
    · intro h
      obtain ⟨c, l, e⟩ := List.exists_cons_of_ne_nil h
      have hc : c ∈ rwL (del1 M) k := e ▸ .head _
      obtain ⟨x, hx, rfl⟩ := row_in hc
      exact ⟨x, hx, (mem_row hx).mp hc⟩
    · rintro ⟨x, hx, h⟩ e
      have := (mem_row hx).mpr h
      rw [e] at this; cases this
  · constructor
    · intro h x hx hm
      have := h _ ((mem_row hx).mpr hm)
      rw [Bool.not_eq_true', Bool.not_eq_false, List.contains_iff_mem] at this
      exact (mem_row hx).mp this
    · intro h c hc
      obtain ⟨x, hx, rfl⟩ := row_in hc
      rw [Bool.not_eq_true', Bool.not_eq_false, List.contains_iff_mem]
      exact (mem_row hx).mpr (h x hx ((mem_row hx).mp hc))
end Mine.Tactic
end
section
open PySem PySem.W PyProof.Rows PySem.Calls
set_option Elab.async false
set_option maxRecDepth 100000
namespace Mine.Tactic
structure RowsOk (Ss : List (List Nat)) (M : Inc) : Prop where
  len : Ss.length = 5
  row : ∀ k, k < 5 → Ss.getD k [] = rwL M k
theorem inter_len {Ss : List (List Nat)} {M : Inc} (h : RowsOk Ss M) {g j : Nat} (hg : g < 5) (hj : j < 5) : (interL Ss g j).length = wM M (g, j) := by
  unfold interL
  rw [h.row g hg, h.row j hj]
  have e : (rwL M g).filter (fun x => (rwL M j).contains x) = ((List.range 5).filter fun x => M g x && M j x).map (97 + ·) := by
    have e2 : rwL M g = ((List.range 5).filter (M g)).map (97 + ·) := rfl
    rw [e2, List.filter_map, List.filter_filter]
    congr 1
    refine List.filter_congr fun x hx => ?_
    have hx := List.mem_range.mp hx
    show ((rwL M j).contains (97 + x) && M g x) = _
    have : (rwL M j).contains (97 + x) = M j x := by rw [Bool.eq_iff_iff, List.contains_iff_mem]; exact mem_row hx
    rw [this, Bool.and_comm]
  rw [e, List.length_map]
  exact List.countP_eq_length_filter.symm
structure Red (M0 : Inc) (f sh : Nat) (M : Inc) (A : Nat → Bool) : Prop where
  due : sh + dueM M = dueM M0
  tree : treeR (wM M) + dueM M0 = treeR (wM M0) + dueM M
  sub : ∀ k x, k < 5 → x < 5 → M k x = true → M0 k x = true ∧ A k = true
  keep : ∀ k j x, k < 5 → j < 5 → x < 5 → k ≠ j → A k = true → A j = true → M0 k x = true → M0 j x = true → M k x = true
  few : (List.range 5).countP A ≤ f
noncomputable def EmptyM (M : Inc) : Prop := ∀ k x, k < 5 → x < 5 → M k x = false
structure RedEnd (M0 : Inc) (r : Nat × Hdrs) (N : Inc) : Prop where
  hs : r.2 = tabM N
  due : r.1 + dueM N = dueM M0
  tree : treeR (wM N) + dueM M0 = treeR (wM M0) + dueM N
  fin : Stuck N ∨ EmptyM N
theorem del1_le {M : Inc} {k x : Nat} (h : del1 M k x = true) : M k x = true := (Bool.and_eq_true _ _ ▸ h).1
theorem cnt_rm {A : Nat → Bool} {g : Nat} (hg : g < 5) (h : A g = true) : (List.range 5).countP A = (List.range 5).countP (fun k => A k && k != g) + 1 := by
  rcases five hg with rfl | rfl | rfl | rfl | rfl <;> simp only [show List.range 5 = [0, 1, 2, 3, 4] from rfl, List.countP_cons, List.countP_nil] <;> simp [h] <;> walk_at "zo"
theorem red_end {Ss : List (List Nat)} {M0 : Inc} (h : RowsOk Ss M0) : ∀ (f sh : Nat) (M : Inc) (A : Nat → Bool), Red M0 f sh M A → ∃ N, RedEnd M0 (redP Ss f sh (tabM M)) N
  | 0, sh, M, A, R => by
    refine ⟨M, rfl, R.due, R.tree, .inr fun k x hk hx => ?_⟩
    cases hm : M k x with
    | false => rfl
    | true =>
      have h1 := (R.sub k x hk hx hm).2
      have h2 := R.few
      have : 0 < (List.range 5).countP A := List.countP_pos_iff.mpr ⟨k, List.mem_range.mpr hk, h1⟩
      walk_at "zo"
  | f + 1, sh, M, A, R => by
    unfold redP
    cases e : pairsL (leftL (tabM M)) with
    | nil =>
      refine ⟨del1 M, del_tab M, by rw [del1_due]; exact R.due, by rw [del1_due, del1_tree]; exact R.tree, .inl ⟨fun x _ => ?_, fun k j hk hj hne hp => ?_⟩⟩
      · rw [cnt_del1]; split <;> walk_at "zo"
      · have hp := (pair_tab M hk hj).mpr ⟨hne, hp⟩
        have : (k, j) ∈ pairsL (leftL (tabM M)) := List.mem_flatMap.mpr ⟨k, List.mem_range.mpr hk, List.mem_map.mpr ⟨j, List.mem_filter.mpr ⟨List.mem_range.mpr hj, hp⟩, rfl⟩⟩
        rw [e] at this; cases this
    | cons q l =>
      obtain ⟨g, j⟩ := q
      show ∃ N, RedEnd M0 (redP Ss f (sh + (interL Ss g j).length) (dropK (delI (tabM M) 5) g)) N
      have hm := pairsL_mem (L := leftL (tabM M)) (x := (g, j)) (by rw [e]; exact .head _)
      have hg : g < 5 := hm.1
      have hj : j < 5 := hm.2.1
      have hp : pairB (leftL (tabM M)) g j = true := hm.2.2
      obtain ⟨hne, ⟨x0, hx0, hg0⟩, hs⟩ := (pair_tab M hg hj).mp hp
      have ag := (R.sub g x0 hg hx0 (del1_le hg0)).2
      have aj := (R.sub j x0 hj hx0 (del1_le (hs x0 hx0 hg0))).2
      have hN : rowN (del1 M) g = wM M0 (g, j) := List.countP_congr fun x hx => by
        have hx := List.mem_range.mp hx
        rw [Bool.and_eq_true]
        constructor
        · intro a
          exact ⟨(R.sub g x hg hx (del1_le a)).1, (R.sub j x hj hx (del1_le (hs x hx a))).1⟩
        · rintro ⟨a, b⟩
          exact del1_keep hg hj hne (R.keep g j x hg hj hx hne ag aj a b) (R.keep j g x hj hg hx (Ne.symm hne) aj ag b a)
      have dt := drop_tree (M := del1 M) hg hj hne hs
      have dd := drop_due (M := del1 M) hg hj hne hs
      have d0 := del1_due (M := M)
      have t0 := del1_tree (M := M)
      have r1 := R.due
      have r2 := R.tree
      have r5 := R.few
      have r6 := cnt_rm hg ag
      rw [inter_len h hg hj, ← hN, del_tab, drop_tab]
      refine red_end h f _ (drop1 (del1 M) g) (fun k => A k && k != g) ⟨by walk_at "zo", by walk_at "zo", fun k x hk hx a => ?_, fun k i x hk hi hx hki ak ai a b => ?_, by walk_at "zo"⟩
      · have a := Bool.and_eq_true _ _ ▸ (show (del1 M k x && k != g) = true from a)
        have := R.sub k x hk hx (del1_le a.1)
        exact ⟨this.1, by rw [this.2]; exact a.2⟩
      · rw [Bool.and_eq_true] at ak ai
        show (del1 M k x && k != g) = true
        rw [Bool.and_eq_true]
        exact ⟨del1_keep hk hi hki (R.keep k i x hk hi hx hki ak.1 ai.1 a b) (R.keep i k x hi hk hx (Ne.symm hki) ai.1 ak.1 b a), ak.2⟩
theorem red_start (M : Inc) : Red M 5 0 M (fun _ => true) := ⟨Nat.zero_add _, rfl, fun _ _ _ _ h => ⟨h, rfl⟩, fun _ _ _ _ _ _ _ _ _ h _ => h, Nat.le_of_ble_eq_true rfl⟩
theorem tab_start {Ss : List (List Nat)} {M : Inc} (h : RowsOk Ss M) : tabK Ss 5 = tabM M := by
  unfold tabK tabM
  rw [List.flatMap_def, List.flatMap_def]
  congr 1
  refine List.map_congr_left fun k hk => ?_
  rw [h.row k (List.mem_range.mp hk)]
  unfold rwL rwH
  rw [List.map_map]; rfl
theorem tab_nil {M : Inc} : tabM M = [] ↔ EmptyM M := by
  unfold tabM
  rw [List.flatMap_eq_nil_iff]
  constructor
  · intro h k x hk hx
    have := h k (List.mem_range.mpr hk)
    unfold rwH at this
    rw [List.map_eq_nil_iff, List.filter_eq_nil_iff] at this
    have := this x (List.mem_range.mpr hx)
    simpa using this
  · intro h k hk
    unfold rwH
    rw [List.map_eq_nil_iff, List.filter_eq_nil_iff]
    intro x hx
    rw [h k x (List.mem_range.mp hk) (List.mem_range.mp hx)]; decide
theorem due_empty {M : Inc} (h : EmptyM M) : dueM M = 0 := by
  have e : ∀ x, x < 5 → cntM M x = 0 := fun x hx => List.countP_eq_zero.mpr fun k hk => by rw [h k x (List.mem_range.mp hk) hx]; decide
  unfold dueM
  simp only [show List.range 5 = [0, 1, 2, 3, 4] from rfl, List.map_cons, List.map_nil, List.sum_cons, List.sum_nil]
  rw [e 0 (by walk_at "zo"), e 1 (by walk_at "zo"), e 2 (by walk_at "zo"), e 3 (by walk_at "zo"), e 4 (by walk_at "zo")]; rfl
theorem red_plain {Ss : List (List Nat)} {M : Inc} (h : RowsOk Ss M) : ((redP Ss 5 0 (tabK Ss 5)).2 = [] → knotM M = false ∧ treeR (wM M) = dueM M ∧ (redP Ss 5 0 (tabK Ss 5)).1 = dueM M) ∧ ((redP Ss 5 0 (tabK Ss 5)).2 ≠ [] → knotM M = true ∧ treeR (wM M) < dueM M) := by
  rw [tab_start h]
  obtain ⟨N, R⟩ := red_end h 5 0 M _ (red_start M)
  generalize redP Ss 5 0 (tabM M) = r at R ⊢
  have s0 := static M
  have sN := static N
  have h1 := R.due
  have h2 := R.tree
  rw [R.hs]
  constructor
  · intro hn
    have hd := due_empty (tab_nil.mp hn)
    have : treeR (wM M) = dueM M := by walk_at "zo"
    refine ⟨?_, this, by walk_at "zo"⟩
    rw [← Bool.not_eq_true, s0.2.1]; walk_at "zo"
  · intro hn
    rcases R.fin with hs | he
    · have hx : ∃ k x, k < 5 ∧ x < 5 ∧ N k x = true := Classical.byContradiction fun hc => hn (tab_nil.mpr fun k x hk hx => by
        cases hm : N k x with
        | false => rfl
        | true => exact absurd ⟨k, x, hk, hx, hm⟩ hc)
      have := sN.2.1.mp (sN.2.2 hs hx)
      have lt : treeR (wM M) < dueM M := by walk_at "zo"
      exact ⟨s0.2.1.mpr lt, lt⟩
    · exact absurd (tab_nil.mpr he) hn
end Mine.Tactic
end
section
open PySem PySem.W PyProof.Rows PySem.Calls
set_option Elab.async false
set_option maxRecDepth 100000
namespace Mine.Tactic
section
variable {Ss : List (List Nat)} {M : Inc}
theorem rows_eq (h : RowsOk Ss M) : Ss = (List.range 5).map (rwL M) := by
  refine List.ext_getElem (by rw [h.len, List.length_map, List.length_range]) fun k h1 h2 => ?_
  have hk : k < 5 := by rw [← h.len]; exact h1
  have := h.row k hk
  rw [List.getD_eq_getElem?_getD, List.getElem?_eq_getElem h1] at this
  rw [List.getElem_map, List.getElem_range]
  exact this
theorem row_has {k x : Nat} (hx : x < 5) : (rwL M k).contains (97 + x) = M k x := by rw [Bool.eq_iff_iff, List.contains_iff_mem]; exact mem_row hx
theorem any_rows (h : RowsOk Ss M) (f : List Nat → Bool) : Ss.any f = (List.range 5).any fun k => f (rwL M k) := by rw [rows_eq h, List.any_map]; rfl
theorem adj_ok (h : RowsOk Ss M) {x y : Nat} (hx : x < 5) (hy : y < 5) : adjB Ss (97 + x) (97 + y) = adjM M x y := by
  unfold adjB adjM
  rw [any_rows h]
  exact any_congr_mem fun k _ => by rw [row_has hx, row_has hy]
theorem near_ok (h : RowsOk Ss M) {x y : Nat} (hx : x < 5) (hy : y < 5) : (nearL Ss (97 + x)).contains (97 + y) = (y != x && adjM M x y) := by
  rw [Bool.eq_iff_iff, List.contains_iff_mem]
  unfold nearL
  rw [List.mem_filter, adj_ok h hx hy]
  have : 97 + y ∈ AB5 := of_below (p := fun y => 97 + y ∈ AB5) hy (by decide)
  have e : (97 + y != 97 + x) = (y != x) := by rw [Bool.eq_iff_iff, bne_iff_ne, bne_iff_ne]; walk_at "zo"
  rw [e]
  exact ⟨fun a => a.2, fun a => ⟨this, a⟩⟩
theorem tie_ok (h : RowsOk Ss M) {S : List Nat} (hS : ∀ x ∈ S, x < 5) {x : Nat} (hx : x < 5) : tieN Ss (S.map (97 + ·)) (97 + x) = tieM M S x := by
  unfold tieN tieM
  rw [← List.countP_eq_length_filter, List.countP_map, List.countP_filter]
  refine List.countP_congr fun y hy => ?_
  show (nearL Ss (97 + x)).contains (97 + y) = true ↔ _
  rw [near_ok h hx (hS y hy), Bool.and_comm]
theorem rep_all {f : Nat → Nat} (m : Nat) : ∀ S : List Nat, (S.map f == List.replicate S.length m) = S.all fun x => f x == m
  | [] => rfl
  | x :: S => by
    rw [List.map_cons, List.length_cons, List.replicate_succ, List.all_cons, ← rep_all m S]; rfl
theorem not_filter_empty {p : Nat → Bool} : ∀ S : List Nat, (S.filter fun x => !p x).isEmpty = S.all p
  | [] => rfl
  | x :: S => by
    rw [List.all_cons, ← not_filter_empty S]
    cases h : p x with
    | true => rw [List.filter_cons_of_neg (by rw [h]; decide)]; rfl
    | false => rw [List.filter_cons_of_pos (by rw [h]; decide)]; rfl
theorem knot_ok (h : RowsOk Ss M) {S : List Nat} (hS : ∀ x ∈ S, x < 5) : knotB Ss (S.map (97 + ·)) = knotS M S := by
  have t : ∀ m, ((S.map (97 + ·)).map (tieN Ss (S.map (97 + ·))) == List.replicate (S.map (97 + ·)).length m) = S.all fun x => tieM M S x == m := fun m => by
    rw [rep_all, List.all_map]
    exact all_congr_mem fun x hx => by show (tieN Ss _ (97 + x) == m) = _; rw [tie_ok h hS (hS x hx)]
  have w : (wholeL Ss (S.map (97 + ·))).isEmpty = !wholeM M S := by
    have := filter_any (fun s : List Nat => ((S.map (97 + ·)).filter fun x => !s.contains x).isEmpty) Ss
    unfold wholeL
    rw [← Bool.not_inj_iff, this, Bool.not_not, any_rows h]
    unfold wholeM
    refine any_congr_mem fun k _ => ?_
    rw [not_filter_empty, List.all_map]
    exact all_congr_mem fun x hx => row_has (hS x hx)
  unfold knotB knotS
  rw [t, t, w, List.length_map, Bool.and_comm (S.all fun x => tieM M S x == 2)]
theorem knots_ok (h : RowsOk Ss M) : knotsI Ss 32 = [] ↔ knotM M = false := by
  have e : knotM M = true ↔ ∃ c ∈ List.range 32, knotK Ss c ≠ [] := by
    unfold knotM picks
    rw [List.any_eq_true]
    have key : ∀ c : Nat, knotK Ss c ≠ [] ↔ (2 < ((List.range 5).filter (bitK c)).length ∧ knotS M ((List.range 5).filter (bitK c)) = true) := fun c => by
      have hS : ∀ x ∈ (List.range 5).filter (bitK c), x < 5 := fun x hx => List.mem_range.mp (List.mem_filter.mp hx).1
      have hb : setB c = ((List.range 5).filter (bitK c)).map (97 + ·) := rfl
      unfold knotK
      rw [hb, knot_ok h hS, List.length_map]
      by_cases a : 2 < ((List.range 5).filter (bitK c)).length
      · rw [decide_eq_true a, Bool.true_and]
        cases knotS M ((List.range 5).filter (bitK c)) <;> simp [a]
      · rw [decide_eq_false a, Bool.false_and]; simp [a]
    constructor
    · rintro ⟨S, hS, hk⟩
      obtain ⟨h1, h2⟩ := List.mem_filter.mp hS
      obtain ⟨c, hc, rfl⟩ := List.mem_map.mp h1
      exact ⟨c, hc, (key c).mpr ⟨of_decide_eq_true h2, hk⟩⟩
    · rintro ⟨c, hc, hk⟩
      obtain ⟨h1, h2⟩ := (key c).mp hk
      exact ⟨_, List.mem_filter.mpr ⟨List.mem_map_of_mem hc, decide_eq_true h1⟩, h2⟩
  rw [← Bool.not_eq_true, e]
  unfold knotsI
  rw [List.flatMap_eq_nil_iff]
  constructor
  · rintro h1 ⟨c, hc, hk⟩; exact hk (h1 c hc)
  · intro h1 c hc
    exact Classical.byContradiction fun hk => h1 ⟨c, hc, hk⟩
theorem cnt_swap (R : Nat → Nat → Bool) (l m : List Nat) : (l.map fun k => m.countP (R k)).sum = (m.map fun x => l.countP fun k => R k x).sum := by
  induction l with
  | nil =>
    induction m with
    | nil => rfl
    | cons x m ih => exact ih.trans (Nat.zero_add _).symm
  | cons k l ih =>
    rw [List.map_cons, List.sum_cons, ih]
    clear ih
    induction m with
    | nil => rfl
    | cons x m ih =>
      rw [List.map_cons, List.sum_cons, List.map_cons, List.sum_cons, List.countP_cons, List.countP_cons, ← ih, Nat.add_right_comm, Nat.add_assoc, Nat.add_assoc, Nat.add_assoc, Nat.add_comm _ (List.countP (R k) m + _)]
      simp only [Nat.add_assoc, Nat.add_left_comm, Nat.add_comm]
theorem sum_pos (f : Nat → Nat) (l : List Nat) : (l.map f).sum = (l.countP fun x => decide (0 < f x)) + (l.map fun x => f x - 1).sum := by
  induction l with
  | nil => rfl
  | cons x l ih =>
    rw [List.map_cons, List.sum_cons, List.map_cons, List.sum_cons, List.countP_cons, ih]
    by_cases h : 0 < f x
    · rw [if_pos (decide_eq_true h)]; walk_at "zo"
    · rw [if_neg (fun k => h (of_decide_eq_true k))]; walk_at "zo"
theorem flat_len5 (h : RowsOk Ss M) : Ss.flatten.length = ((List.range 5).map fun k => rowN M k).sum := by
  rw [rows_eq h, List.length_flatten, List.map_map]
  refine congrArg _ (List.map_congr_left fun k _ => ?_)
  show (rwL M k).length = rowN M k
  unfold rwL rowN
  rw [List.length_map]; exact List.countP_eq_length_filter.symm
theorem pres_len (h : RowsOk Ss M) : (presL Ss).length = (List.range 5).countP fun x => decide (0 < cntM M x) := by
  unfold presL
  rw [← List.countP_eq_length_filter, show AB5 = (List.range 5).map (97 + ·) from rfl, List.countP_map]
  refine List.countP_congr fun x hx => ?_
  have hx := List.mem_range.mp hx
  show Ss.flatten.contains (97 + x) = true ↔ _
  rw [List.contains_iff_mem, decide_eq_true_eq, rows_eq h, List.mem_flatten]
  unfold cntM
  rw [List.countP_pos_iff]
  constructor
  · rintro ⟨l, hl, hm⟩
    obtain ⟨k, hk, rfl⟩ := List.mem_map.mp hl
    exact ⟨k, hk, (mem_row hx).mp hm⟩
  · rintro ⟨k, hk, hm⟩
    exact ⟨_, List.mem_map_of_mem hk, (mem_row hx).mpr hm⟩
theorem due_ok (h : RowsOk Ss M) : Ss.flatten.length = (presL Ss).length + dueM M := by
  rw [flat_len5 h, pres_len h]
  exact (cnt_swap M _ _).trans (sum_pos (cntM M) _)
theorem plain_rows (h : RowsOk Ss M) : PlainOk Ss := by
  have hd := due_ok h
  have hw : ∀ q ∈ all10, wS Ss q = wM M q := fun q hq => inter_len h (mem10 hq).1 (mem10 hq).2
  have h5 : ∀ q ∈ all10, wS Ss q ≤ 5 := fun q hq => by rw [hw q hq]; exact List.countP_le_length
  have ht : ∀ t, TreeP (wS Ss) t → t = treeR (wM M) := fun t a => (tree_val h5 a).trans (treeR_congr hw)
  obtain ⟨g, b⟩ := red_plain h
  refine ⟨by walk_at "zo", fun e => ?_, fun e => ?_⟩
  · obtain ⟨a1, a2, a3⟩ := g e
    exact ⟨(knots_ok h).mpr a1, fun t a => by rw [ht t a]; walk_at "zo", by walk_at "zo"⟩
  · obtain ⟨a1, a2⟩ := b e
    exact ⟨fun k => (by rw [(knots_ok h).mp k] at a1; cases a1), fun t a => by rw [ht t a]; walk_at "zo"⟩
end
end Mine.Tactic
end
section
open PySem PySem.W PyProof.Rows PySem.Calls Builtin Builtin.Re
set_option Elab.async false
set_option maxRecDepth 100000
namespace Mine.Tactic
noncomputable abbrev glAll : Rho := [("type", .con (.type "type")), ("str", .con (.type "str")), ("list", .con (.type "list")), ("_name_disallowed_re", .con (.ref aG__name_disallowed_re)), ("_value_disallowed_re", .con (.ref aG__value_disallowed_re)),
  ("_siftup", .ref aG__siftup), ("_siftdown", .ref aG__siftdown), ("len", .con (.builtin "len")), ("range", .con (.type "range")), ("reversed", .con (.type "reversed")), ("_twin_re_1", .con (.ref aG__twin_re_1)),
  ("object", .con (.type "object")), ("_translate", .ref aG__translate), ("_join_translated_parts", .ref aG__join_translated_parts), ("heapify", .ref aG_heapify), ("heappop", .ref aG_heappop), ("Headers", .ref aG_Headers), ("translate", .ref aG_translate),
  ("zip", .con (.type "zip")), ("_law_sets", .ref aG__law_sets), ("_law_pattern", .ref aG__law_pattern), ("_law_taken", .ref aG__law_taken), ("_law_table", .ref aG__law_table), ("_law_reduced", .ref aG__law_reduced), ("_law_tree", .ref aG__law_tree), ("_law_knots", .ref aG__law_knots)]
noncomputable abbrev KK (oB oS oM : Obj) (p : Params) : Frag := (0, oB) :: (2, oS) :: (4, oM) :: Kp p
section
variable {p : Params} {oB oS oM : Obj} {C : Cx} {mg mb : Str → Option Value}
theorem glAll_ok (hK : C.K = KK oB oS oM p) (T : TopC C.K mg mb) : ∀ q ∈ glAll, GlobP C q.1 q.2 := by
  have k : ∀ {x : String} {q : PV} {v : Value}, nsIn (KK oB oS oM p) mainGlobals (Str.ofString x) = some (some v) → (∀ im, VR im q v) → plainB (Str.ofString x) = true → GlobP C x q := fun e => GlobP.K T (hK ▸ e)
  have b : ∀ {x : String} {q : PV} {v : Value}, nsIn (KK oB oS oM p) mainGlobals (Str.ofString x) = some none → bootBuiltins (Str.ofString x) = some v → (∀ im, VR im q v) → (plainB (Str.ofString x) && Str.ofString x != Str.ofString "__name__") = true → GlobP C x q := fun e => GlobP.B T (hK ▸ e)
  simp only [List.forall_mem_cons]
  refine ⟨?_, ?_, ?_, ?_, ?_, ?_, ?_, ?_, ?_, ?_, ?_, ?_, ?_, ?_, ?_, ?_, ?_, ?_, ?_, ?_, ?_, ?_, ?_, ?_, ?_, ?_, fun _ h => nomatch h⟩
  · exact b (by kernel_rfl) (by kernel_rfl) (fun _ => VR.con) (by decide +kernel)
  · exact b (by kernel_rfl) (by kernel_rfl) (fun _ => VR.con) (by decide +kernel)
  · exact b (by kernel_rfl) (by kernel_rfl) (fun _ => VR.con) (by decide +kernel)
  · exact k (by kernel_rfl) (fun _ => VR.con) (by decide +kernel)
  · exact k (by kernel_rfl) (fun _ => VR.con) (by decide +kernel)
  · exact k (by kernel_rfl) (fun _ => VR.ref) (by decide +kernel)
  · exact k (by kernel_rfl) (fun _ => VR.ref) (by decide +kernel)
  · exact b (by kernel_rfl) (by kernel_rfl) (fun _ => VR.con) (by decide +kernel)
  · exact b (by kernel_rfl) (by kernel_rfl) (fun _ => VR.con) (by decide +kernel)
  · exact b (by kernel_rfl) (by kernel_rfl) (fun _ => VR.con) (by decide +kernel)
  · exact k (by kernel_rfl) (fun _ => VR.con) (by decide +kernel)
  · exact b (by kernel_rfl) (by kernel_rfl) (fun _ => VR.con) (by decide +kernel)
  · exact k (by kernel_rfl) (fun _ => VR.ref) (by decide +kernel)
  · exact k (by kernel_rfl) (fun _ => VR.ref) (by decide +kernel)
  · exact k (by kernel_rfl) (fun _ => VR.ref) (by decide +kernel)
  · exact k (by kernel_rfl) (fun _ => VR.ref) (by decide +kernel)
  · exact k (by kernel_rfl) (fun _ => VR.ref) (by decide +kernel)
  · exact k (by kernel_rfl) (fun _ => VR.ref) (by decide +kernel)
  · exact b (by kernel_rfl) (by kernel_rfl) (fun _ => VR.con) (by decide +kernel)
  · exact k (by kernel_rfl) (fun _ => VR.ref) (by decide +kernel)
  · exact k (by kernel_rfl) (fun _ => VR.ref) (by decide +kernel)
  · exact k (by kernel_rfl) (fun _ => VR.ref) (by decide +kernel)
  · exact k (by kernel_rfl) (fun _ => VR.ref) (by decide +kernel)
  · exact k (by kernel_rfl) (fun _ => VR.ref) (by decide +kernel)
  · exact k (by kernel_rfl) (fun _ => VR.ref) (by decide +kernel)
  · exact k (by kernel_rfl) (fun _ => VR.ref) (by decide +kernel)
theorem fnAll (hK : C.K = KK oB oS oM p) (T : TopC C.K mg mb) {a : Addr} (e : fdAt (KK oB oS oM p) a = some (fdOf p a)) (c : codeIn (KK oB oS oM p) (fdOf p a).code (fdOf p a).qualname = true) : FnAt C a (fdOf p a) := FnAt.K T (hK ▸ e) (hK ▸ c)
set_option maxHeartbeats 8000000 in
theorem hdrAll (hK : C.K = KK oB oS oM p) (T : TopC C.K mg mb) (hg : Sub glAll C.gl) : HdrK C p (reCode C.K aG__name_disallowed_re) (reCode C.K aG__value_disallowed_re) := by
  have fn := @fnAll p oB oS oM C mg mb hK T
  constructor
  · rw [hK]; exact clsOk_iff (by kernel_rfl)
  · rw [hK]; kernel_rfl
  · rw [hK]; kernel_rfl
  · rw [hK]; kernel_rfl
  · rw [hK]; kernel_rfl
  · rw [hK]; kernel_rfl
  · rw [hK]; kernel_rfl
  · rw [hK]; kernel_rfl
  · rw [hK]; kernel_rfl
  · rw [hK]; kernel_rfl
  · rw [hK]; kernel_rfl
  · rw [hK]; kernel_rfl
  · rw [hK]; kernel_rfl
  · rw [hK]; kernel_rfl
  · exact .of (by rw [hK]; kernel_rfl)
  · exact .of (by rw [hK]; kernel_rfl)
  · exact fn (by kernel_rfl) (by kernel_rfl)
  · exact fn (by kernel_rfl) (by kernel_rfl)
  · exact fn (by kernel_rfl) (by kernel_rfl)
  · exact fn (by kernel_rfl) (by kernel_rfl)
  · exact fn (by kernel_rfl) (by kernel_rfl)
  · have e : (C.K.lookup 3).isSome = true := by rw [hK]; kernel_rfl
    exact Option.isSome_iff_exists.mp e
  · exact .cons (hg _ (by walk_at "zm")) (.cons (hg _ (by walk_at "zm")) (.cons (hg _ (by walk_at "zm")) (.cons (hg _ (by walk_at "zm")) (.cons (hg _ (by walk_at "zm")) .nil))))
set_option maxHeartbeats 8000000 in
theorem hdrAll2 (hK : C.K = KK oB oS oM p) (T : TopC C.K mg mb) : HdrK2 C p := by
  have fn := @fnAll p oB oS oM C mg mb hK T
  constructor
  · rw [hK]; kernel_rfl
  · rw [hK]; kernel_rfl
  · rw [hK]; kernel_rfl
  · rw [hK]; kernel_rfl
  · rw [hK]; kernel_rfl
  · exact fn (by kernel_rfl) (by kernel_rfl)
  · exact fn (by kernel_rfl) (by kernel_rfl)
theorem heapAll (hK : C.K = KK oB oS oM p) (T : TopC C.K mg mb) (hg : Sub glAll C.gl) : HeapK C p :=
  ⟨fnAll hK T (by kernel_rfl) (by kernel_rfl), fnAll hK T (by kernel_rfl) (by kernel_rfl), fnAll hK T (by kernel_rfl) (by kernel_rfl), fnAll hK T (by kernel_rfl) (by kernel_rfl),
    .cons (hg _ (by walk_at "zm")) (.cons (hg _ (by walk_at "zm")) (.cons (hg _ (by walk_at "zm")) (.cons (hg _ (by walk_at "zm")) (.cons (hg _ (by walk_at "zm")) .nil))))⟩
noncomputable abbrev aC__translate : Addr := 216
noncomputable abbrev aT__translate : Addr := 212
theorem trAll (hK : C.K = KK oB oS oM p) (T : TopC C.K mg mb) (hg : Sub glAll C.gl) : TrB C p (reCode C.K aG__twin_re_1) mg mb aC__translate aT__translate where
  tra := fnAll hK T (by kernel_rfl) (by kernel_rfl)
  joi := fnAll hK T (by kernel_rfl) (by kernel_rfl)
  top := fnAll hK T (by kernel_rfl) (by kernel_rfl)
  T := T
  ce := by kernel_rfl
  cd := fun h X => codeHd_of_K X (by rw [hK]; kernel_rfl)
  P4 := by decide
  P3 := by decide
  re := .of (by rw [hK]; kernel_rfl)
  gl := .cons (hg _ (by walk_at "zm")) (.cons (hg _ (by walk_at "zm")) (.cons (hg _ (by walk_at "zm")) (.cons (hg _ (by walk_at "zm")) (.cons (hg _ (by walk_at "zm")) .nil))))
noncomputable def namesB (cN : Array Nat) (cV : Array Nat) : Bool :=
  ((List.range 6).all fun j => missB cN [97 + j] && missB cN [65 + j]) && (List.range 5).all fun j => missB cV [48 + j]
theorem lower_small : ∀ j, j < 6 → Txt.lower (S [97 + j]) = S [97 + j] := by decide +kernel
theorem lower_great : ∀ j, j < 6 → Txt.lower (S [65 + j]) = S [97 + j] := by decide +kernel
theorem low_small : ∀ j, j < 6 → lowL [97 + j] = [97 + j] := by decide
theorem low_great : ∀ j, j < 6 → lowL [65 + j] = [97 + j] := by decide
theorem one_le (c : Nat) : [c].length ≤ 1000 := by simp
theorem names_of {cN cV : Array Nat} (h : namesB cN cV = true) : NamesOk cN cV isLet isDig lowL := by
  unfold namesB at h
  rw [Bool.and_eq_true, List.all_eq_true, List.all_eq_true] at h
  obtain ⟨h1, h2⟩ := h
  refine ⟨fun k hk => ?_, fun v hv => ?_⟩
  · obtain ⟨j, hj, hk⟩ := hk
    have hm := h1 j (List.mem_range.mpr hj)
    rw [Bool.and_eq_true] at hm
    rcases hk with rfl | rfl
    · rw [low_small j hj]
      exact ⟨lower_small j hj, one_le _, one_le _, hm.1, hm.1⟩
    · rw [low_great j hj]
      exact ⟨lower_great j hj, one_le _, one_le _, hm.2, hm.1⟩
  · obtain ⟨j, hj, rfl⟩ := hv
    exact ⟨one_le _, h2 j (List.mem_range.mpr hj)⟩
theorem namesAll (hK : C.K = KK oB oS oM p) : NamesOk (reCode C.K aG__name_disallowed_re) (reCode C.K aG__value_disallowed_re) isLet isDig lowL := names_of (by rw [hK]; kernel_rfl)
theorem twin_code (hK : C.K = KK oB oS oM p) : reCode C.K aG__twin_re_1 = twinC := by rw [hK]; kernel_rfl
noncomputable def setOkB (j : Nat) : Bool := decide (setB ((j + 1 : Nat) : Int) ≠ []) && (decide ((patB (setB ((j + 1 : Nat) : Int))).2.length ≤ 5) && (decide (94 ∉ (patB (setB ((j + 1 : Nat) : Int))).2) && (decide (takenP (patB (setB ((j + 1 : Nat) : Int))).1 (patB (setB ((j + 1 : Nat) : Int))).2 = setB ((j + 1 : Nat) : Int)) && ((patB (setB ((j + 1 : Nat) : Int))).2.all plainL && (33 :: (patB (setB ((j + 1 : Nat) : Int))).2).all fun c => decide (c ∈ lettersC)))))
theorem sets_all : ((List.range 31).all setOkB) = true := by decide +kernel
theorem setG_all (hK : C.K = KK oB oS oM p) (m : Int) : SetG (reCode C.K aG__twin_re_1) (setB (m % 31 + 1)) := by
  have hm := Int.emod_nonneg m (show (31 : Int) ≠ 0 by decide)
  have hm2 := Int.emod_lt_of_pos m (show (0 : Int) < 31 by decide)
  obtain ⟨j, hj, e⟩ : ∃ j : Nat, j < 31 ∧ m % 31 + 1 = ((j + 1 : Nat) : Int) := ⟨(m % 31).toNat, by walk_at "zo", by walk_at "zo"⟩
  rw [e]
  have h := List.all_eq_true.mp sets_all j (List.mem_range.mpr hj)
  unfold setOkB at h
  simp only [Bool.and_eq_true, decide_eq_true_eq, List.all_eq_true] at h
  obtain ⟨h1, h2, h3, h4, h5, h6⟩ := h
  refine ⟨h1, fun hne => ⟨hne, h5, Nat.le_trans h2 (by decide), ?_⟩, h2, h3, h4⟩
  rw [twin_code hK]
  refine twin_plain ?_ fun c hc => letters_out c ?_
  · split
    · simp
    · exact hne
  · split at hc
    · exact h6 c hc
    · exact h6 c (.tail _ hc)
theorem sets_ok (l : List Int) : SetsOk (setsP (nums1 l)) := ⟨by unfold setsP; rw [List.length_map]; exact nums1_len l, fun s hs x hx => by
    obtain ⟨m, _, rfl⟩ := List.mem_map.mp hs
    exact setB_ab _ x hx, fun s hs => by
    obtain ⟨m, _, rfl⟩ := List.mem_map.mp hs
    exact setB_len _⟩
theorem sets_rows (l : List Int) : RowsOk (setsP (nums1 l)) fun k x => bitK ((nums1 l).getD k 0 % 31 + 1) x := ⟨(sets_ok l).len, fun k hk => by
    have h5 := nums1_len l
    unfold setsP
    rw [List.getD_eq_getElem?_getD, List.getElem?_map, List.getElem?_eq_getElem (by walk_at "zo")]
    have e : (nums1 l).getD k 0 = (nums1 l)[k] := by rw [List.getD_eq_getElem?_getD, List.getElem?_eq_getElem (by walk_at "zo")]; rfl
    show setB ((nums1 l)[k] % 31 + 1) = List.map (97 + ·) (List.filter (fun x => bitK ((nums1 l).getD k 0 % 31 + 1) x) (List.range 5))
    rw [e]; rfl⟩
set_option maxHeartbeats 8000000 in
theorem law_all {n : Nat} (hK : C.K = KK oB oS oM p) (T : TopC C.K mg mb) (hg : Sub glAll C.gl) {l : List Int} (hl : l.length ≤ 1000) :
    FnSpec C (n + 5) (.ref aG_law) [.lst (l.map .int)] [] [(aT__translate, .obj (tabObj #[]))] (fun r σ' => r = .bool true ∧ ∃ (qs : Array Value) (φ : Led), TriplesOk qs.toList ∧ σ' = (aT__translate, .obj (tabObj qs)) :: φ) := by
  have sub : ∀ {r : Rho}, (∀ q ∈ r, q ∈ glAll) → Sub r C.gl := fun h q hq => hg q (h q hq)
  have fn := @fnAll p oB oS oM C mg mb hK T
  refine law_spec (hdrAll hK T hg) (hdrAll2 hK T) (namesAll hK) (trAll hK T hg) (heapAll hK T hg) (by rw [hK]; kernel_rfl) (fn (by kernel_rfl) (by kernel_rfl)) (fn (by kernel_rfl) (by kernel_rfl)) (fn (by kernel_rfl) (by kernel_rfl)) (fn (by kernel_rfl) (by kernel_rfl)) (fn (by kernel_rfl) (by kernel_rfl)) (fn (by kernel_rfl) (by kernel_rfl)) (fn (by kernel_rfl) (by kernel_rfl)) (fn (by kernel_rfl) (by kernel_rfl))
    (sub ?_) (sub ?_) (sub ?_) (sub ?_) (sub ?_) (sub ?_) (sub ?_) (sub ?_) hl (sets_ok l) (fun s hs => by
      obtain ⟨m, _, rfl⟩ := List.mem_map.mp hs
      exact setG_all hK m) (plain_rows (sets_rows l)) trivial
  all_goals
    simp only [List.forall_mem_cons]
    repeat' apply And.intro
    all_goals first
      | exact fun _ h => nomatch h
      | walk_at "zm"
end
end Mine.Tactic
end
open PySem PySem.W PyProof.Rows PySem.Calls
set_option Elab.async false
set_option maxRecDepth 100000
set_option maxHeartbeats 8000000 in
theorem PySem.Challenge.cw_kt0061_01_holds : PySem.Challenge.rw_kt0061_01.Holds :=
  Mine.Tactic.hd (by
  w_strict (
  intro d kwd hdef w s₀ s₁ mg mb G Y fa o pm cd doc dV kV ho hd hcd hD hmg hg args vals as hpre hlay hrd hwl hlo
  have X := km_in_of Y
  have hT8 := km_tabs_of Y
  refine Ground.open G ?_
  intro T B D TE TW
  obtain ⟨oB, oS, oM, TC, XI⟩ := Mine.Tactic.topC_of X T (by kernel_rfl) (by kernel_rfl)
  have hP : s₁.heap.get? Mine.Tactic.aT__translate = some (tabObj #[]) := hT8 Mine.Tactic.aT__translate (.head _)
  have hT : TabsAt [(Mine.Tactic.aC__translate, Mine.Tactic.aT__translate)] s₁.heap := fun q hq => by
    rw [List.mem_singleton.mp hq]
    exact ⟨codeHd_of_K X (by kernel_rfl), hP⟩
  have hfa : fa = Mine.Tactic.aG_law := by
    have e := mg_of (n := Str.ofString "law") (v := .ref Mine.Tactic.aG_law) X T.g (by kernel_rfl)
    have e2 : mg (Str.ofString "law") = some (.ref fa) := by rw [defOf_name hdef] at hmg; exact hmg
    rw [e] at e2
    cases e2; rfl
  subst hfa
  clear hd hD hcd
  wrow_args hpre hlay hrd hwl hlo
  all_goals (
    first | refine callC_kw (enter_call ?_) | refine enter_call ?_
    (rename (Well _ _ _ _) => w1)
    (rename (¬ _) => hc)
    refine kn_post hT (fun _ _ => rfl) ?_
    refine Mine.Tactic.join_lawT (gl := Mine.Tactic.glAll) (n := 5) XI hP (by kernel_rfl) (Mine.Tactic.law_all (n := 0) rfl TC (fun _ h => h) (by walk_at "zo")) (Mine.Tactic.glAll_ok rfl TC) w1 (by decide) ?_
    intro s' hk hgr hos hge
    refine ⟨⟨.inl ⟨_, .bool true, [], rfl, fun _ => rfl, .bool true, by kernel_rfl, unshared_nil⟩, fun b o e => hk b o (fun q => ?_) (of_hideAll _ e), hos, hge.trans hg⟩, hgr, trivial⟩
    subst q
    have e2 := hideAll_none (h := s₁.heap) [Mine.Tactic.aT__translate] (.head _)
    have e3 : (hideAll s₁.heap [Mine.Tactic.aT__translate]).get? Mine.Tactic.aT__translate = some o := e
    rw [e2] at e3; cases e3)))
