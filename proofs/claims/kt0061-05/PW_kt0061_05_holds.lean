import PyProof.Rows.All
import Wide.All
import OpenK.AllK
import Wide.FinOn
import PySem.Challenge.RW_kt0061_05
set_option Elab.async false
section
open PySem PySem.W PyProof.Rows
set_option Elab.async false
set_option maxRecDepth 100000
namespace Mine
/-! a head of our own: what the top left, one check by the kernel a way of the world's rows -/
noncomputable abbrev pgm : Program := PySem.Challenge.pw_kt0061_05
noncomputable abbrev rowL : OpenRow := PySem.Challenge.rw_kt0061_05.row
noncomputable def topSt (i : Nat) : Stmt := pgm.main.body.getD i (.Pass default)
noncomputable def inCls (i j : Nat) : Stmt := match topSt i with
  | .ClassDef _ _ _ body .. => body.getD j (.Pass default)
  | _ => .Pass default
noncomputable def fnO (st : Stmt) (q : Str) (dv kv pm cd : Value) : Obj := match st with
  | .FunctionDef name args body _ _ _ scope .. => { cls := .type "function", data := .func { name, qualname := q, params := args, body := .stmts body, scope, globals := 3, closure := [], defaults := dv, kwdefaults := kv, pyModule := pm, code := cd } }
  | _ => default
noncomputable def Kp (P : Params) : Frag := [
  (3, { cls := Value.type "dict", data := Data.dict #[{ hash := PyData.keyHash P (Str.ofString "__name__"), key := Value.str (Str.ofString "__name__") 165, val := Value.str (Str.ofString "law_kt0061_05") 791 }, { hash := PyData.keyHash P (Str.ofString "__doc__"), key := Value.str (Str.ofString "__doc__") 166, val := Value.none }, { hash := PyData.keyHash P (Str.ofString "__package__"), key := Value.str (Str.ofString "__package__") 167, val := Value.none }, { hash := PyData.keyHash P (Str.ofString "__loader__"), key := Value.str (Str.ofString "__loader__") 168, val := Value.builtin "__main__.__loader__#opaque" }, { hash := PyData.keyHash P (Str.ofString "__spec__"), key := Value.str (Str.ofString "__spec__") 169, val := Value.none }, { hash := PyData.keyHash P (Str.ofString "__annotations__"), key := Value.str (Str.ofString "__annotations__") 170, val := Value.ref 6 }, { hash := PyData.keyHash P (Str.ofString "__builtins__"), key := Value.str (Str.ofString "__builtins__") 171, val := Value.ref 4 }, { hash := PyData.keyHash P (Str.ofString "__file__"), key := Value.str (Str.ofString "__file__") 173, val := Value.str (Str.ofString "/claim/cut.py") 172 }, { hash := PyData.keyHash P (Str.ofString "__cached__"), key := Value.str (Str.ofString "__cached__") 174, val := Value.none }, { hash := PyData.keyHash P (Str.ofString "_sre"), key := Value.str (Str.ofString "_sre") 275, val := Value.ref 12 }, { hash := PyData.keyHash P (Str.ofString "_wall"), key := Value.str (Str.ofString "_wall") 288, val := Value.ref 38 }, { hash := PyData.keyHash P (Str.ofString "_name_disallowed_re"), key := Value.str (Str.ofString "_name_disallowed_re") 316, val := Value.ref 43 }, { hash := PyData.keyHash P (Str.ofString "_value_disallowed_re"), key := Value.str (Str.ofString "_value_disallowed_re") 350, val := Value.ref 48 }, { hash := PyData.keyHash P (Str.ofString "Headers"), key := Value.str (Str.ofString "Headers") 507, val := Value.ref 171 }, { hash := PyData.keyHash P (Str.ofString "_twin_re_1"), key := Value.str (Str.ofString "_twin_re_1") 547, val := Value.ref 180 }, { hash := PyData.keyHash P (Str.ofString "translate"), key := Value.str (Str.ofString "translate") 556, val := Value.ref 187 }, { hash := PyData.keyHash P (Str.ofString "_special_chars_map"), key := Value.str (Str.ofString "_special_chars_map") 704, val := Value.ref 189 }, { hash := PyData.keyHash P (Str.ofString "escape"), key := Value.str (Str.ofString "escape") 711, val := Value.ref 199 }, { hash := PyData.keyHash P (Str.ofString "_translate"), key := Value.str (Str.ofString "_translate") 732, val := Value.ref 206 }, { hash := PyData.keyHash P (Str.ofString "_join_translated_parts"), key := Value.str (Str.ofString "_join_translated_parts") 745, val := Value.ref 213 }, { hash := PyData.keyHash P (Str.ofString "heappop"), key := Value.str (Str.ofString "heappop") 756, val := Value.ref 220 }, { hash := PyData.keyHash P (Str.ofString "heapify"), key := Value.str (Str.ofString "heapify") 765, val := Value.ref 227 }, { hash := PyData.keyHash P (Str.ofString "_siftdown"), key := Value.str (Str.ofString "_siftdown") 777, val := Value.ref 234 }, { hash := PyData.keyHash P (Str.ofString "_siftup"), key := Value.str (Str.ofString "_siftup") 790, val := Value.ref 241 }, { hash := PyData.keyHash P (Str.ofString "_law_word"), key := Value.str (Str.ofString "_law_word") 798, val := Value.ref 246 }, { hash := PyData.keyHash P (Str.ofString "_law_step"), key := Value.str (Str.ofString "_law_step") 804, val := Value.ref 251 }, { hash := PyData.keyHash P (Str.ofString "_law_place"), key := Value.str (Str.ofString "_law_place") 818, val := Value.ref 258 }, { hash := PyData.keyHash P (Str.ofString "law"), key := Value.str (Str.ofString "law") 824, val := Value.ref 263 }] 28 }),
  (32, { cls := Value.type "tuple", data := Data.seq #[] }),
  (34, { cls := Value.type "tuple", data := Data.seq #[Value.str (Str.ofString "k") 285] }),
  (35, { cls := Value.type "tuple", data := Data.seq #[] }),
  (37, { cls := Value.type "code", data := Data.fields #[Value.str (Str.ofString "_wall") 282, Value.str (Str.ofString "_wall") 283, Value.str (Str.ofString "/claim/cut.py") 284, Value.int 2 0, Value.int 1 0, Value.int 0 0, Value.int 0 0, Value.int 3 0, Value.ref 32, Value.bool true, Value.int 276 0, Value.ref 33, Value.none, Value.ref 34, Value.ref 35, Value.ref 36, Value.int 286 0, Value.int 2 0, Value.str (Str.ofString "/claim/cut.py") 287] }),
  (38, fnO (topSt 1) (Str.ofString "_wall") (Value.none) (Value.none) (Value.str (Str.ofString "__main__") 164) (Value.ref 37)),
  (42, { cls := Value.type "tuple", data := Data.seq #[Value.int 14 0, Value.int 10 0, Value.int 4 0, Value.int 1 0, Value.int 1 0, Value.int 22 0, Value.int 0 0, Value.int 31 0, Value.int 16 0, Value.int 127 0, Value.int 0 0, Value.int 13 0, Value.int 7 0, Value.int 22 0, Value.int 0 0, Value.int 31 0, Value.int 16 0, Value.int 127 0, Value.int 0 0, Value.int 1 0] }),
  (43, { cls := Value.type "re.Pattern", data := Data.fields #[Value.str (Str.ofString "[\\x00-\\x1F\\x7F]") 292, Value.int 32 315, Value.int 0 0, Value.none, Value.none, Value.ref 42, Value.int 0 0] }),
  (47, { cls := Value.type "tuple", data := Data.seq #[Value.int 14 0, Value.int 14 0, Value.int 4 0, Value.int 1 0, Value.int 1 0, Value.int 9 0, Value.int 4294966783 0, Value.int 0 0, Value.int 0 0, Value.int 2147483648 0, Value.int 0 0, Value.int 0 0, Value.int 0 0, Value.int 0 0, Value.int 0 0, Value.int 13 0, Value.int 11 0, Value.int 9 0, Value.int 4294966783 0, Value.int 0 0, Value.int 0 0, Value.int 2147483648 0, Value.int 0 0, Value.int 0 0, Value.int 0 0, Value.int 0 0, Value.int 0 0, Value.int 1 0] }),
  (48, { cls := Value.type "re.Pattern", data := Data.fields #[Value.str (Str.ofString "[\\x00-\\x08\\x0A-\\x1F\\x7F]") 318, Value.int 32 349, Value.int 0 0, Value.none, Value.none, Value.ref 47, Value.int 0 0] }),
  (56, { cls := Value.type "tuple", data := Data.seq #[Value.none] }),
  (57, { cls := Value.type "tuple", data := Data.seq #[] }),
  (59, { cls := Value.type "tuple", data := Data.seq #[Value.str (Str.ofString "self") 366, Value.str (Str.ofString "headers") 367, Value.str (Str.ofString "k") 368, Value.str (Str.ofString "v") 369] }),
  (60, { cls := Value.type "tuple", data := Data.seq #[] }),
  (62, { cls := Value.type "code", data := Data.fields #[Value.str (Str.ofString "__init__") 363, Value.str (Str.ofString "Headers.__init__") 364, Value.str (Str.ofString "/claim/cut.py") 365, Value.int 10 0, Value.int 2 0, Value.int 0 0, Value.int 0 0, Value.int 3 0, Value.ref 57, Value.bool true, Value.int 276 0, Value.ref 58, Value.none, Value.ref 59, Value.ref 60, Value.ref 61, Value.int 370 0, Value.int 10 0, Value.str (Str.ofString "/claim/cut.py") 371] }),
  (63, fnO (inCls 5 0) (Str.ofString "Headers.__init__") (Value.ref 56) (Value.none) (Value.str (Str.ofString "cpy313.wsgiref.headers") 289) (Value.ref 62)),
  (64, { cls := Value.type "tuple", data := Data.seq #[] }),
  (66, { cls := Value.type "tuple", data := Data.seq #[Value.str (Str.ofString "self") 376, Value.str (Str.ofString "value") 377, Value.str (Str.ofString "name") 378, Value.str (Str.ofString "regex") 379] }),
  (67, { cls := Value.type "tuple", data := Data.seq #[] }),
  (69, { cls := Value.type "code", data := Data.fields #[Value.str (Str.ofString "_convert_string_type") 373, Value.str (Str.ofString "Headers._convert_string_type") 374, Value.str (Str.ofString "/claim/cut.py") 375, Value.int 20 0, Value.int 2 0, Value.int 0 0, Value.int 1 0, Value.int 3 0, Value.ref 64, Value.bool true, Value.int 276 0, Value.ref 65, Value.none, Value.ref 66, Value.ref 67, Value.ref 68, Value.int 380 0, Value.int 20 0, Value.str (Str.ofString "/claim/cut.py") 381] }),
  (70, fnO (inCls 5 1) (Str.ofString "Headers._convert_string_type") (Value.none) (Value.none) (Value.str (Str.ofString "cpy313.wsgiref.headers") 289) (Value.ref 69)),
  (71, { cls := Value.type "tuple", data := Data.seq #[] }),
  (73, { cls := Value.type "tuple", data := Data.seq #[Value.str (Str.ofString "self") 386] }),
  (74, { cls := Value.type "tuple", data := Data.seq #[] }),
  (76, { cls := Value.type "code", data := Data.fields #[Value.str (Str.ofString "__len__") 383, Value.str (Str.ofString "Headers.__len__") 384, Value.str (Str.ofString "/claim/cut.py") 385, Value.int 28 0, Value.int 1 0, Value.int 0 0, Value.int 0 0, Value.int 3 0, Value.ref 71, Value.bool true, Value.int 276 0, Value.ref 72, Value.none, Value.ref 73, Value.ref 74, Value.ref 75, Value.int 387 0, Value.int 28 0, Value.str (Str.ofString "/claim/cut.py") 388] }),
  (77, fnO (inCls 5 2) (Str.ofString "Headers.__len__") (Value.none) (Value.none) (Value.str (Str.ofString "cpy313.wsgiref.headers") 289) (Value.ref 76)),
  (78, { cls := Value.type "tuple", data := Data.seq #[] }),
  (80, { cls := Value.type "tuple", data := Data.seq #[Value.str (Str.ofString "self") 393, Value.str (Str.ofString "name") 394, Value.str (Str.ofString "val") 395] }),
  (81, { cls := Value.type "tuple", data := Data.seq #[] }),
  (83, { cls := Value.type "code", data := Data.fields #[Value.str (Str.ofString "__setitem__") 390, Value.str (Str.ofString "Headers.__setitem__") 391, Value.str (Str.ofString "/claim/cut.py") 392, Value.int 31 0, Value.int 3 0, Value.int 0 0, Value.int 0 0, Value.int 3 0, Value.ref 78, Value.bool true, Value.int 276 0, Value.ref 79, Value.none, Value.ref 80, Value.ref 81, Value.ref 82, Value.int 396 0, Value.int 31 0, Value.str (Str.ofString "/claim/cut.py") 397] }),
  (84, fnO (inCls 5 3) (Str.ofString "Headers.__setitem__") (Value.none) (Value.none) (Value.str (Str.ofString "cpy313.wsgiref.headers") 289) (Value.ref 83)),
  (85, { cls := Value.type "tuple", data := Data.seq #[] }),
  (88, { cls := Value.type "code", data := Data.fields #[Value.str (Str.ofString "__delitem__") 399, Value.str (Str.ofString "Headers.__delitem__") 400, Value.str (Str.ofString "/claim/cut.py") 401, Value.int 35 0, Value.int 2 0, Value.int 0 0, Value.int 0 0, Value.int 3 0, Value.ref 85, Value.bool true, Value.int 276 0, Value.ref 86, Value.none, Value.none, Value.none, Value.ref 87, Value.int 402 0, Value.int 35 0, Value.str (Str.ofString "/claim/cut.py") 403] }),
  (89, fnO (inCls 5 4) (Str.ofString "Headers.__delitem__") (Value.none) (Value.none) (Value.str (Str.ofString "cpy313.wsgiref.headers") 289) (Value.ref 88)),
  (90, { cls := Value.type "tuple", data := Data.seq #[] }),
  (92, { cls := Value.type "tuple", data := Data.seq #[Value.str (Str.ofString "self") 408, Value.str (Str.ofString "name") 409] }),
  (93, { cls := Value.type "tuple", data := Data.seq #[] }),
  (95, { cls := Value.type "code", data := Data.fields #[Value.str (Str.ofString "__getitem__") 405, Value.str (Str.ofString "Headers.__getitem__") 406, Value.str (Str.ofString "/claim/cut.py") 407, Value.int 39 0, Value.int 2 0, Value.int 0 0, Value.int 0 0, Value.int 3 0, Value.ref 90, Value.bool true, Value.int 276 0, Value.ref 91, Value.none, Value.ref 92, Value.ref 93, Value.ref 94, Value.int 410 0, Value.int 39 0, Value.str (Str.ofString "/claim/cut.py") 411] }),
  (96, fnO (inCls 5 5) (Str.ofString "Headers.__getitem__") (Value.none) (Value.none) (Value.str (Str.ofString "cpy313.wsgiref.headers") 289) (Value.ref 95)),
  (97, { cls := Value.type "tuple", data := Data.seq #[] }),
  (99, { cls := Value.type "tuple", data := Data.seq #[Value.str (Str.ofString "self") 416, Value.str (Str.ofString "name") 417] }),
  (100, { cls := Value.type "tuple", data := Data.seq #[] }),
  (102, { cls := Value.type "code", data := Data.fields #[Value.str (Str.ofString "__contains__") 413, Value.str (Str.ofString "Headers.__contains__") 414, Value.str (Str.ofString "/claim/cut.py") 415, Value.int 42 0, Value.int 2 0, Value.int 0 0, Value.int 0 0, Value.int 3 0, Value.ref 97, Value.bool true, Value.int 276 0, Value.ref 98, Value.none, Value.ref 99, Value.ref 100, Value.ref 101, Value.int 418 0, Value.int 42 0, Value.str (Str.ofString "/claim/cut.py") 419] }),
  (103, fnO (inCls 5 6) (Str.ofString "Headers.__contains__") (Value.none) (Value.none) (Value.str (Str.ofString "cpy313.wsgiref.headers") 289) (Value.ref 102)),
  (104, { cls := Value.type "tuple", data := Data.seq #[] }),
  (106, { cls := Value.type "tuple", data := Data.seq #[Value.str (Str.ofString "self") 424, Value.str (Str.ofString "name") 425] }),
  (107, { cls := Value.type "tuple", data := Data.seq #[] }),
  (109, { cls := Value.type "code", data := Data.fields #[Value.str (Str.ofString "get_all") 421, Value.str (Str.ofString "Headers.get_all") 422, Value.str (Str.ofString "/claim/cut.py") 423, Value.int 45 0, Value.int 2 0, Value.int 0 0, Value.int 0 0, Value.int 3 0, Value.ref 104, Value.bool true, Value.int 276 0, Value.ref 105, Value.none, Value.ref 106, Value.ref 107, Value.ref 108, Value.int 426 0, Value.int 45 0, Value.str (Str.ofString "/claim/cut.py") 427] }),
  (110, fnO (inCls 5 7) (Str.ofString "Headers.get_all") (Value.none) (Value.none) (Value.str (Str.ofString "cpy313.wsgiref.headers") 289) (Value.ref 109)),
  (111, { cls := Value.type "tuple", data := Data.seq #[Value.none] }),
  (112, { cls := Value.type "tuple", data := Data.seq #[] }),
  (114, { cls := Value.type "tuple", data := Data.seq #[Value.str (Str.ofString "self") 432, Value.str (Str.ofString "name") 433, Value.str (Str.ofString "default") 434, Value.str (Str.ofString "k") 435, Value.str (Str.ofString "v") 436] }),
  (115, { cls := Value.type "tuple", data := Data.seq #[] }),
  (117, { cls := Value.type "code", data := Data.fields #[Value.str (Str.ofString "get") 429, Value.str (Str.ofString "Headers.get") 430, Value.str (Str.ofString "/claim/cut.py") 431, Value.int 48 0, Value.int 3 0, Value.int 0 0, Value.int 0 0, Value.int 3 0, Value.ref 112, Value.bool true, Value.int 276 0, Value.ref 113, Value.none, Value.ref 114, Value.ref 115, Value.ref 116, Value.int 437 0, Value.int 48 0, Value.str (Str.ofString "/claim/cut.py") 438] }),
  (118, fnO (inCls 5 8) (Str.ofString "Headers.get") (Value.ref 111) (Value.none) (Value.str (Str.ofString "cpy313.wsgiref.headers") 289) (Value.ref 117)),
  (119, { cls := Value.type "tuple", data := Data.seq #[] }),
  (122, { cls := Value.type "code", data := Data.fields #[Value.str (Str.ofString "keys") 440, Value.str (Str.ofString "Headers.keys") 441, Value.str (Str.ofString "/claim/cut.py") 442, Value.int 55 0, Value.int 1 0, Value.int 0 0, Value.int 0 0, Value.int 3 0, Value.ref 119, Value.bool true, Value.int 276 0, Value.ref 120, Value.none, Value.none, Value.none, Value.ref 121, Value.int 443 0, Value.int 55 0, Value.str (Str.ofString "/claim/cut.py") 444] }),
  (123, fnO (inCls 5 9) (Str.ofString "Headers.keys") (Value.none) (Value.none) (Value.str (Str.ofString "cpy313.wsgiref.headers") 289) (Value.ref 122)),
  (124, { cls := Value.type "tuple", data := Data.seq #[] }),
  (127, { cls := Value.type "code", data := Data.fields #[Value.str (Str.ofString "values") 446, Value.str (Str.ofString "Headers.values") 447, Value.str (Str.ofString "/claim/cut.py") 448, Value.int 58 0, Value.int 1 0, Value.int 0 0, Value.int 0 0, Value.int 3 0, Value.ref 124, Value.bool true, Value.int 276 0, Value.ref 125, Value.none, Value.none, Value.none, Value.ref 126, Value.int 449 0, Value.int 58 0, Value.str (Str.ofString "/claim/cut.py") 450] }),
  (128, fnO (inCls 5 10) (Str.ofString "Headers.values") (Value.none) (Value.none) (Value.str (Str.ofString "cpy313.wsgiref.headers") 289) (Value.ref 127)),
  (129, { cls := Value.type "tuple", data := Data.seq #[] }),
  (131, { cls := Value.type "tuple", data := Data.seq #[Value.str (Str.ofString "self") 455] }),
  (132, { cls := Value.type "tuple", data := Data.seq #[] }),
  (134, { cls := Value.type "code", data := Data.fields #[Value.str (Str.ofString "items") 452, Value.str (Str.ofString "Headers.items") 453, Value.str (Str.ofString "/claim/cut.py") 454, Value.int 61 0, Value.int 1 0, Value.int 0 0, Value.int 0 0, Value.int 3 0, Value.ref 129, Value.bool true, Value.int 276 0, Value.ref 130, Value.none, Value.ref 131, Value.ref 132, Value.ref 133, Value.int 456 0, Value.int 61 0, Value.str (Str.ofString "/claim/cut.py") 457] }),
  (135, fnO (inCls 5 11) (Str.ofString "Headers.items") (Value.none) (Value.none) (Value.str (Str.ofString "cpy313.wsgiref.headers") 289) (Value.ref 134)),
  (136, { cls := Value.type "tuple", data := Data.seq #[] }),
  (138, { cls := Value.type "tuple", data := Data.seq #[Value.str (Str.ofString "self") 462] }),
  (139, { cls := Value.type "tuple", data := Data.seq #[] }),
  (141, { cls := Value.type "code", data := Data.fields #[Value.str (Str.ofString "__repr__") 459, Value.str (Str.ofString "Headers.__repr__") 460, Value.str (Str.ofString "/claim/cut.py") 461, Value.int 64 0, Value.int 1 0, Value.int 0 0, Value.int 0 0, Value.int 3 0, Value.ref 136, Value.bool true, Value.int 276 0, Value.ref 137, Value.none, Value.ref 138, Value.ref 139, Value.ref 140, Value.int 463 0, Value.int 64 0, Value.str (Str.ofString "/claim/cut.py") 464] }),
  (142, fnO (inCls 5 12) (Str.ofString "Headers.__repr__") (Value.none) (Value.none) (Value.str (Str.ofString "cpy313.wsgiref.headers") 289) (Value.ref 141)),
  (143, { cls := Value.type "tuple", data := Data.seq #[] }),
  (146, { cls := Value.type "code", data := Data.fields #[Value.str (Str.ofString "__str__") 466, Value.str (Str.ofString "Headers.__str__") 467, Value.str (Str.ofString "/claim/cut.py") 468, Value.int 67 0, Value.int 1 0, Value.int 0 0, Value.int 0 0, Value.int 3 0, Value.ref 143, Value.bool true, Value.int 276 0, Value.ref 144, Value.none, Value.none, Value.none, Value.ref 145, Value.int 469 0, Value.int 67 0, Value.str (Str.ofString "/claim/cut.py") 470] }),
  (147, fnO (inCls 5 13) (Str.ofString "Headers.__str__") (Value.none) (Value.none) (Value.str (Str.ofString "cpy313.wsgiref.headers") 289) (Value.ref 146)),
  (148, { cls := Value.type "tuple", data := Data.seq #[] }),
  (150, { cls := Value.type "tuple", data := Data.seq #[Value.str (Str.ofString "self") 475] }),
  (151, { cls := Value.type "tuple", data := Data.seq #[] }),
  (153, { cls := Value.type "code", data := Data.fields #[Value.str (Str.ofString "__bytes__") 472, Value.str (Str.ofString "Headers.__bytes__") 473, Value.str (Str.ofString "/claim/cut.py") 474, Value.int 70 0, Value.int 1 0, Value.int 0 0, Value.int 0 0, Value.int 3 0, Value.ref 148, Value.bool true, Value.int 276 0, Value.ref 149, Value.none, Value.ref 150, Value.ref 151, Value.ref 152, Value.int 476 0, Value.int 70 0, Value.str (Str.ofString "/claim/cut.py") 477] }),
  (154, fnO (inCls 5 14) (Str.ofString "Headers.__bytes__") (Value.none) (Value.none) (Value.str (Str.ofString "cpy313.wsgiref.headers") 289) (Value.ref 153)),
  (155, { cls := Value.type "tuple", data := Data.seq #[] }),
  (157, { cls := Value.type "tuple", data := Data.seq #[Value.str (Str.ofString "self") 482, Value.str (Str.ofString "name") 483, Value.str (Str.ofString "value") 484, Value.str (Str.ofString "result") 485] }),
  (158, { cls := Value.type "tuple", data := Data.seq #[] }),
  (160, { cls := Value.type "code", data := Data.fields #[Value.str (Str.ofString "setdefault") 479, Value.str (Str.ofString "Headers.setdefault") 480, Value.str (Str.ofString "/claim/cut.py") 481, Value.int 73 0, Value.int 3 0, Value.int 0 0, Value.int 0 0, Value.int 3 0, Value.ref 155, Value.bool true, Value.int 276 0, Value.ref 156, Value.none, Value.ref 157, Value.ref 158, Value.ref 159, Value.int 486 0, Value.int 73 0, Value.str (Str.ofString "/claim/cut.py") 487] }),
  (161, fnO (inCls 5 15) (Str.ofString "Headers.setdefault") (Value.none) (Value.none) (Value.str (Str.ofString "cpy313.wsgiref.headers") 289) (Value.ref 160)),
  (162, { cls := Value.type "tuple", data := Data.seq #[] }),
  (164, { cls := Value.type "tuple", data := Data.seq #[Value.str (Str.ofString "self") 492, Value.str (Str.ofString "_name") 493, Value.str (Str.ofString "_value") 494, Value.str (Str.ofString "_params") 495] }),
  (165, { cls := Value.type "tuple", data := Data.seq #[] }),
  (167, { cls := Value.type "code", data := Data.fields #[Value.str (Str.ofString "add_header") 489, Value.str (Str.ofString "Headers.add_header") 490, Value.str (Str.ofString "/claim/cut.py") 491, Value.int 81 0, Value.int 3 0, Value.int 0 0, Value.int 0 0, Value.int 11 0, Value.ref 162, Value.bool true, Value.int 276 0, Value.ref 163, Value.none, Value.ref 164, Value.ref 165, Value.ref 166, Value.int 496 0, Value.int 81 0, Value.str (Str.ofString "/claim/cut.py") 497] }),
  (168, fnO (inCls 5 16) (Str.ofString "Headers.add_header") (Value.none) (Value.none) (Value.str (Str.ofString "cpy313.wsgiref.headers") 289) (Value.ref 167)),
  (169, { cls := Value.type "tuple", data := Data.seq #[Value.str (Str.ofString "_headers") 499] }),
  (170, { cls := Value.type "dict", data := Data.dict #[{ hash := PyData.keyHash P (Str.ofString "__module__"), key := Value.str (Str.ofString "__module__") 358, val := Value.str (Str.ofString "cpy313.wsgiref.headers") 289 }, { hash := PyData.keyHash P (Str.ofString "__firstlineno__"), key := Value.str (Str.ofString "__firstlineno__") 362, val := Value.int 8 361 }, { hash := PyData.keyHash P (Str.ofString "__init__"), key := Value.str (Str.ofString "__init__") 372, val := Value.ref 63 }, { hash := PyData.keyHash P (Str.ofString "_convert_string_type"), key := Value.str (Str.ofString "_convert_string_type") 382, val := Value.ref 70 }, { hash := PyData.keyHash P (Str.ofString "__len__"), key := Value.str (Str.ofString "__len__") 389, val := Value.ref 77 }, { hash := PyData.keyHash P (Str.ofString "__setitem__"), key := Value.str (Str.ofString "__setitem__") 398, val := Value.ref 84 }, { hash := PyData.keyHash P (Str.ofString "__delitem__"), key := Value.str (Str.ofString "__delitem__") 404, val := Value.ref 89 }, { hash := PyData.keyHash P (Str.ofString "__getitem__"), key := Value.str (Str.ofString "__getitem__") 412, val := Value.ref 96 }, { hash := PyData.keyHash P (Str.ofString "__contains__"), key := Value.str (Str.ofString "__contains__") 420, val := Value.ref 103 }, { hash := PyData.keyHash P (Str.ofString "get_all"), key := Value.str (Str.ofString "get_all") 428, val := Value.ref 110 }, { hash := PyData.keyHash P (Str.ofString "get"), key := Value.str (Str.ofString "get") 439, val := Value.ref 118 }, { hash := PyData.keyHash P (Str.ofString "keys"), key := Value.str (Str.ofString "keys") 445, val := Value.ref 123 }, { hash := PyData.keyHash P (Str.ofString "values"), key := Value.str (Str.ofString "values") 451, val := Value.ref 128 }, { hash := PyData.keyHash P (Str.ofString "items"), key := Value.str (Str.ofString "items") 458, val := Value.ref 135 }, { hash := PyData.keyHash P (Str.ofString "__repr__"), key := Value.str (Str.ofString "__repr__") 465, val := Value.ref 142 }, { hash := PyData.keyHash P (Str.ofString "__str__"), key := Value.str (Str.ofString "__str__") 471, val := Value.ref 147 }, { hash := PyData.keyHash P (Str.ofString "__bytes__"), key := Value.str (Str.ofString "__bytes__") 478, val := Value.ref 154 }, { hash := PyData.keyHash P (Str.ofString "setdefault"), key := Value.str (Str.ofString "setdefault") 488, val := Value.ref 161 }, { hash := PyData.keyHash P (Str.ofString "add_header"), key := Value.str (Str.ofString "add_header") 498, val := Value.ref 168 }, { hash := PyData.keyHash P (Str.ofString "__static_attributes__"), key := Value.str (Str.ofString "__static_attributes__") 500, val := Value.ref 169 }, { hash := PyData.keyHash P (Str.ofString "__dict__"), key := Value.str (Str.ofString "__dict__") 502, val := Value.ref 172 }, { hash := PyData.keyHash P (Str.ofString "__weakref__"), key := Value.str (Str.ofString "__weakref__") 504, val := Value.ref 173 }, { hash := PyData.keyHash P (Str.ofString "__doc__"), key := Value.str (Str.ofString "__doc__") 505, val := Value.none }] 4 }),
  (171, { cls := Value.type "type", data := Data.cls { name := Str.ofString "Headers", bases := [Value.type "object"], mro := [Value.ref 171, Value.type "object"], ns := 170, qualname := Str.ofString "Headers" }, slots := #[none, none, some (Value.str (Str.ofString "Headers") 351), some (Value.str (Str.ofString "Headers") 359), some (Value.builtin "object.__new__"), some (Value.bool true)] }),
  (172, { cls := Value.type "getset_descriptor", data := Data.fields #[Value.str (Str.ofString "__dict__") 501, Value.ref 171, Value.builtin "function.__dict__", Value.builtin "function.__dict__#set"] }),
  (173, { cls := Value.type "getset_descriptor", data := Data.fields #[Value.str (Str.ofString "__weakref__") 503, Value.ref 171, Value.builtin "ExceptionGroup.__weakref__", Value.none] }),
  (179, { cls := Value.type "tuple", data := Data.seq #[Value.int 14 0, Value.int 14 0, Value.int 4 0, Value.int 1 0, Value.int 1 0, Value.int 9 0, Value.int 0 0, Value.int 64 0, Value.int 0 0, Value.int 1342177280 0, Value.int 0 0, Value.int 0 0, Value.int 0 0, Value.int 0 0, Value.int 0 0, Value.int 17 0, Value.int 0 0, Value.int 13 0, Value.int 11 0, Value.int 9 0, Value.int 0 0, Value.int 64 0, Value.int 0 0, Value.int 1342177280 0, Value.int 0 0, Value.int 0 0, Value.int 0 0, Value.int 0 0, Value.int 0 0, Value.int 17 0, Value.int 1 0, Value.int 1 0] }),
  (180, { cls := Value.type "re.Pattern", data := Data.fields #[Value.str (Str.ofString "([&~|])") 511, Value.int 32 546, Value.int 1 0, Value.none, Value.none, Value.ref 179, Value.int 0 0] }),
  (181, { cls := Value.type "tuple", data := Data.seq #[] }),
  (183, { cls := Value.type "tuple", data := Data.seq #[Value.str (Str.ofString "pat") 551, Value.str (Str.ofString "STAR") 552, Value.str (Str.ofString "parts") 553] }),
  (184, { cls := Value.type "tuple", data := Data.seq #[] }),
  (186, { cls := Value.type "code", data := Data.fields #[Value.str (Str.ofString "translate") 548, Value.str (Str.ofString "translate") 549, Value.str (Str.ofString "/claim/cut.py") 550, Value.int 85 0, Value.int 1 0, Value.int 0 0, Value.int 0 0, Value.int 3 0, Value.ref 181, Value.bool true, Value.int 276 0, Value.ref 182, Value.none, Value.ref 183, Value.ref 184, Value.ref 185, Value.int 554 0, Value.int 85 0, Value.str (Str.ofString "/claim/cut.py") 555] }),
  (187, fnO (topSt 8) (Str.ofString "translate") (Value.none) (Value.none) (Value.str (Str.ofString "cpy313.fnmatch") 508) (Value.ref 186)),
  (189, { cls := Value.type "dict", data := Data.dict #[{ hash := 40, key := Value.int 40 560, val := Value.str (Str.ofString "\\(") 564 }, { hash := 41, key := Value.int 41 566, val := Value.str (Str.ofString "\\)") 570 }, { hash := 91, key := Value.int 91 572, val := Value.str (Str.ofString "\\[") 576 }, { hash := 93, key := Value.int 93 578, val := Value.str (Str.ofString "\\]") 582 }, { hash := 123, key := Value.int 123 584, val := Value.str (Str.ofString "\\{") 588 }, { hash := 125, key := Value.int 125 590, val := Value.str (Str.ofString "\\}") 594 }, { hash := 63, key := Value.int 63 596, val := Value.str (Str.ofString "\\?") 600 }, { hash := 42, key := Value.int 42 602, val := Value.str (Str.ofString "\\*") 606 }, { hash := 43, key := Value.int 43 608, val := Value.str (Str.ofString "\\+") 612 }, { hash := 45, key := Value.int 45 614, val := Value.str (Str.ofString "\\-") 618 }, { hash := 124, key := Value.int 124 620, val := Value.str (Str.ofString "\\|") 624 }, { hash := 94, key := Value.int 94 626, val := Value.str (Str.ofString "\\^") 630 }, { hash := 36, key := Value.int 36 632, val := Value.str (Str.ofString "\\$") 636 }, { hash := 92, key := Value.int 92 638, val := Value.str (Str.ofString "\\\\") 642 }, { hash := 46, key := Value.int 46 644, val := Value.str (Str.ofString "\\.") 648 }, { hash := 38, key := Value.int 38 650, val := Value.str (Str.ofString "\\&") 654 }, { hash := 126, key := Value.int 126 656, val := Value.str (Str.ofString "\\~") 660 }, { hash := 35, key := Value.int 35 662, val := Value.str (Str.ofString "\\#") 666 }, { hash := 32, key := Value.int 32 668, val := Value.str (Str.ofString "\\ ") 672 }, { hash := 9, key := Value.int 9 674, val := Value.str (Str.ofString "\\\t") 678 }, { hash := 10, key := Value.int 10 680, val := Value.str (Str.ofString "\\\n") 684 }, { hash := 13, key := Value.int 13 686, val := Value.str (Str.ofString "\\\x0d") 690 }, { hash := 11, key := Value.int 11 692, val := Value.str (Str.ofString "\\\x0b") 696 }, { hash := 12, key := Value.int 12 698, val := Value.str (Str.ofString "\\\x0c") 702 }] 24 }),
  (193, { cls := Value.type "tuple", data := Data.seq #[] }),
  (195, { cls := Value.type "tuple", data := Data.seq #[Value.str (Str.ofString "pattern") 708] }),
  (196, { cls := Value.type "tuple", data := Data.seq #[] }),
  (198, { cls := Value.type "code", data := Data.fields #[Value.str (Str.ofString "escape") 705, Value.str (Str.ofString "escape") 706, Value.str (Str.ofString "/claim/cut.py") 707, Value.int 91 0, Value.int 1 0, Value.int 0 0, Value.int 0 0, Value.int 3 0, Value.ref 193, Value.bool true, Value.int 276 0, Value.ref 194, Value.none, Value.ref 195, Value.ref 196, Value.ref 197, Value.int 709 0, Value.int 91 0, Value.str (Str.ofString "/claim/cut.py") 710] }),
  (199, fnO (topSt 11) (Str.ofString "escape") (Value.none) (Value.none) (Value.str (Str.ofString "re") 557) (Value.ref 198)),
  (200, { cls := Value.type "tuple", data := Data.seq #[] }),
  (202, { cls := Value.type "tuple", data := Data.seq #[Value.str (Str.ofString "pat") 717, Value.str (Str.ofString "STAR") 718, Value.str (Str.ofString "QUESTION_MARK") 719, Value.str (Str.ofString "res") 720, Value.str (Str.ofString "add") 721, Value.str (Str.ofString "i") 722, Value.str (Str.ofString "n") 723, Value.str (Str.ofString "c") 724, Value.str (Str.ofString "j") 725, Value.str (Str.ofString "stuff") 726, Value.str (Str.ofString "chunks") 727, Value.str (Str.ofString "k") 728, Value.str (Str.ofString "chunk") 729] }),
  (203, { cls := Value.type "tuple", data := Data.seq #[] }),
  (205, { cls := Value.type "code", data := Data.fields #[Value.str (Str.ofString "_translate") 714, Value.str (Str.ofString "_translate") 715, Value.str (Str.ofString "/claim/cut.py") 716, Value.int 98 0, Value.int 3 0, Value.int 0 0, Value.int 0 0, Value.int 3 0, Value.ref 200, Value.bool true, Value.int 276 0, Value.ref 201, Value.none, Value.ref 202, Value.ref 203, Value.ref 204, Value.int 730 0, Value.int 98 0, Value.str (Str.ofString "/claim/cut.py") 731] }),
  (206, fnO (topSt 13) (Str.ofString "_translate") (Value.none) (Value.none) (Value.str (Str.ofString "cpy313.fnmatch") 712) (Value.ref 205)),
  (207, { cls := Value.type "tuple", data := Data.seq #[] }),
  (209, { cls := Value.type "tuple", data := Data.seq #[Value.str (Str.ofString "inp") 736, Value.str (Str.ofString "STAR") 737, Value.str (Str.ofString "res") 738, Value.str (Str.ofString "add") 739, Value.str (Str.ofString "i") 740, Value.str (Str.ofString "n") 741, Value.str (Str.ofString "fixed") 742] }),
  (210, { cls := Value.type "tuple", data := Data.seq #[] }),
  (212, { cls := Value.type "code", data := Data.fields #[Value.str (Str.ofString "_join_translated_parts") 733, Value.str (Str.ofString "_join_translated_parts") 734, Value.str (Str.ofString "/claim/cut.py") 735, Value.int 160 0, Value.int 2 0, Value.int 0 0, Value.int 0 0, Value.int 3 0, Value.ref 207, Value.bool true, Value.int 276 0, Value.ref 208, Value.none, Value.ref 209, Value.ref 210, Value.ref 211, Value.int 743 0, Value.int 160 0, Value.str (Str.ofString "/claim/cut.py") 744] }),
  (213, fnO (topSt 14) (Str.ofString "_join_translated_parts") (Value.none) (Value.none) (Value.str (Str.ofString "cpy313.fnmatch") 712) (Value.ref 212)),
  (214, { cls := Value.type "tuple", data := Data.seq #[] }),
  (216, { cls := Value.type "tuple", data := Data.seq #[Value.str (Str.ofString "heap") 751, Value.str (Str.ofString "lastelt") 752, Value.str (Str.ofString "returnitem") 753] }),
  (217, { cls := Value.type "tuple", data := Data.seq #[] }),
  (219, { cls := Value.type "code", data := Data.fields #[Value.str (Str.ofString "heappop") 748, Value.str (Str.ofString "heappop") 749, Value.str (Str.ofString "/claim/cut.py") 750, Value.int 188 0, Value.int 1 0, Value.int 0 0, Value.int 0 0, Value.int 3 0, Value.ref 214, Value.bool true, Value.int 276 0, Value.ref 215, Value.none, Value.ref 216, Value.ref 217, Value.ref 218, Value.int 754 0, Value.int 188 0, Value.str (Str.ofString "/claim/cut.py") 755] }),
  (220, fnO (topSt 16) (Str.ofString "heappop") (Value.none) (Value.none) (Value.str (Str.ofString "cpy313.heapq") 746) (Value.ref 219)),
  (221, { cls := Value.type "tuple", data := Data.seq #[] }),
  (223, { cls := Value.type "tuple", data := Data.seq #[Value.str (Str.ofString "x") 760, Value.str (Str.ofString "n") 761, Value.str (Str.ofString "i") 762] }),
  (224, { cls := Value.type "tuple", data := Data.seq #[] }),
  (226, { cls := Value.type "code", data := Data.fields #[Value.str (Str.ofString "heapify") 757, Value.str (Str.ofString "heapify") 758, Value.str (Str.ofString "/claim/cut.py") 759, Value.int 196 0, Value.int 1 0, Value.int 0 0, Value.int 0 0, Value.int 3 0, Value.ref 221, Value.bool true, Value.int 276 0, Value.ref 222, Value.none, Value.ref 223, Value.ref 224, Value.ref 225, Value.int 763 0, Value.int 196 0, Value.str (Str.ofString "/claim/cut.py") 764] }),
  (227, fnO (topSt 17) (Str.ofString "heapify") (Value.none) (Value.none) (Value.str (Str.ofString "cpy313.heapq") 746) (Value.ref 226)),
  (228, { cls := Value.type "tuple", data := Data.seq #[] }),
  (230, { cls := Value.type "tuple", data := Data.seq #[Value.str (Str.ofString "heap") 769, Value.str (Str.ofString "startpos") 770, Value.str (Str.ofString "pos") 771, Value.str (Str.ofString "newitem") 772, Value.str (Str.ofString "parentpos") 773, Value.str (Str.ofString "parent") 774] }),
  (231, { cls := Value.type "tuple", data := Data.seq #[] }),
  (233, { cls := Value.type "code", data := Data.fields #[Value.str (Str.ofString "_siftdown") 766, Value.str (Str.ofString "_siftdown") 767, Value.str (Str.ofString "/claim/cut.py") 768, Value.int 200 0, Value.int 3 0, Value.int 0 0, Value.int 0 0, Value.int 3 0, Value.ref 228, Value.bool true, Value.int 276 0, Value.ref 229, Value.none, Value.ref 230, Value.ref 231, Value.ref 232, Value.int 775 0, Value.int 200 0, Value.str (Str.ofString "/claim/cut.py") 776] }),
  (234, fnO (topSt 18) (Str.ofString "_siftdown") (Value.none) (Value.none) (Value.str (Str.ofString "cpy313.heapq") 746) (Value.ref 233)),
  (235, { cls := Value.type "tuple", data := Data.seq #[] }),
  (237, { cls := Value.type "tuple", data := Data.seq #[Value.str (Str.ofString "heap") 781, Value.str (Str.ofString "pos") 782, Value.str (Str.ofString "endpos") 783, Value.str (Str.ofString "startpos") 784, Value.str (Str.ofString "newitem") 785, Value.str (Str.ofString "childpos") 786, Value.str (Str.ofString "rightpos") 787] }),
  (238, { cls := Value.type "tuple", data := Data.seq #[] }),
  (240, { cls := Value.type "code", data := Data.fields #[Value.str (Str.ofString "_siftup") 778, Value.str (Str.ofString "_siftup") 779, Value.str (Str.ofString "/claim/cut.py") 780, Value.int 211 0, Value.int 2 0, Value.int 0 0, Value.int 0 0, Value.int 3 0, Value.ref 235, Value.bool true, Value.int 276 0, Value.ref 236, Value.none, Value.ref 237, Value.ref 238, Value.ref 239, Value.int 788 0, Value.int 211 0, Value.str (Str.ofString "/claim/cut.py") 789] }),
  (241, fnO (topSt 19) (Str.ofString "_siftup") (Value.none) (Value.none) (Value.str (Str.ofString "cpy313.heapq") 746) (Value.ref 240)),
  (242, { cls := Value.type "tuple", data := Data.seq #[] }),
  (245, { cls := Value.type "code", data := Data.fields #[Value.str (Str.ofString "_law_word") 793, Value.str (Str.ofString "_law_word") 794, Value.str (Str.ofString "/claim/cut.py") 795, Value.int 226 0, Value.int 1 0, Value.int 0 0, Value.int 0 0, Value.int 3 0, Value.ref 242, Value.bool true, Value.int 276 0, Value.ref 243, Value.none, Value.none, Value.none, Value.ref 244, Value.int 796 0, Value.int 226 0, Value.str (Str.ofString "/claim/cut.py") 797] }),
  (246, fnO (topSt 21) (Str.ofString "_law_word") (Value.none) (Value.none) (Value.str (Str.ofString "law_kt0061_05") 791) (Value.ref 245)),
  (247, { cls := Value.type "tuple", data := Data.seq #[] }),
  (250, { cls := Value.type "code", data := Data.fields #[Value.str (Str.ofString "_law_step") 799, Value.str (Str.ofString "_law_step") 800, Value.str (Str.ofString "/claim/cut.py") 801, Value.int 229 0, Value.int 1 0, Value.int 0 0, Value.int 0 0, Value.int 3 0, Value.ref 247, Value.bool true, Value.int 276 0, Value.ref 248, Value.none, Value.none, Value.none, Value.ref 249, Value.int 802 0, Value.int 229 0, Value.str (Str.ofString "/claim/cut.py") 803] }),
  (251, fnO (topSt 22) (Str.ofString "_law_step") (Value.none) (Value.none) (Value.str (Str.ofString "law_kt0061_05") 791) (Value.ref 250)),
  (252, { cls := Value.type "tuple", data := Data.seq #[] }),
  (254, { cls := Value.type "tuple", data := Data.seq #[Value.str (Str.ofString "word") 808, Value.str (Str.ofString "text") 809, Value.str (Str.ofString "pieces") 810, Value.str (Str.ofString "ahead") 811, Value.str (Str.ofString "body") 812, Value.str (Str.ofString "behind") 813, Value.str (Str.ofString "twice") 814, Value.str (Str.ofString "k") 815] }),
  (255, { cls := Value.type "tuple", data := Data.seq #[] }),
  (257, { cls := Value.type "code", data := Data.fields #[Value.str (Str.ofString "_law_place") 805, Value.str (Str.ofString "_law_place") 806, Value.str (Str.ofString "/claim/cut.py") 807, Value.int 244 0, Value.int 1 0, Value.int 0 0, Value.int 0 0, Value.int 3 0, Value.ref 252, Value.bool true, Value.int 276 0, Value.ref 253, Value.none, Value.ref 254, Value.ref 255, Value.ref 256, Value.int 816 0, Value.int 244 0, Value.str (Str.ofString "/claim/cut.py") 817] }),
  (258, fnO (topSt 23) (Str.ofString "_law_place") (Value.none) (Value.none) (Value.str (Str.ofString "law_kt0061_05") 791) (Value.ref 257)),
  (259, { cls := Value.type "tuple", data := Data.seq #[] }),
  (262, { cls := Value.type "code", data := Data.fields #[Value.str (Str.ofString "law") 819, Value.str (Str.ofString "law") 820, Value.str (Str.ofString "/claim/cut.py") 821, Value.int 258 0, Value.int 1 0, Value.int 0 0, Value.int 0 0, Value.int 3 0, Value.ref 259, Value.bool true, Value.int 276 0, Value.ref 260, Value.none, Value.none, Value.none, Value.ref 261, Value.int 822 0, Value.int 258 0, Value.str (Str.ofString "/claim/cut.py") 823] }),
  (263, fnO (topSt 24) (Str.ofString "law") (Value.none) (Value.none) (Value.str (Str.ofString "law_kt0061_05") 791) (Value.ref 262))]
noncomputable def asL : List Addr := [3, 32, 34, 35, 37, 38, 42, 43, 47, 48, 56, 57, 59, 60, 62, 63, 64, 66, 67, 69, 70, 71, 73, 74, 76, 77, 78, 80, 81, 83, 84, 85, 88, 89, 90, 92, 93, 95, 96, 97, 99, 100, 102, 103, 104, 106, 107, 109, 110, 111, 112, 114, 115, 117, 118, 119, 122, 123, 124, 127, 128, 129, 131, 132, 134, 135, 136, 138, 139, 141, 142, 143, 146, 147, 148, 150, 151, 153, 154, 155, 157, 158, 160, 161, 162, 164, 165, 167, 168, 169, 170, 171, 172, 173, 179, 180, 181, 183, 184, 186, 187, 189, 193, 195, 196, 198, 199, 200, 202, 203, 205, 206, 207, 209, 210, 212, 213, 214, 216, 217, 219, 220, 221, 223, 224, 226, 227, 228, 230, 231, 233, 234, 235, 237, 238, 240, 241, 242, 245, 246, 247, 250, 251, 252, 254, 255, 257, 258, 259, 262, 263]
theorem asOk (P : Params) : asL = (Kp P).map (·.1) := by kernel_rfl
noncomputable abbrev Hk : Hook := kmHook Kp asL asOk []
noncomputable def qv : Program := view pgm [0, 1, 3, 4, 5, 7, 8, 10, 11, 13, 14, 16, 17, 18, 19, 21, 22, 23, 24]
noncomputable def looseL : List Str := [Str.ofString "_name_disallowed_re", Str.ofString "_value_disallowed_re", Str.ofString "_twin_re_1", Str.ofString "_special_chars_map"]
noncomputable abbrev Xh : Shared → Bool := fun s => xlAt qv [] s && recOk (RowW.records (OpenRow.toRowW rowL)) s
noncomputable def endsQ (w : World) : Option Shared := ((Fast.tw10274390034422433532 Fast.tw14364793385576792824 (opening pgm) w 5468 (start (opening pgm)).1 (start (opening pgm)).2).bind (Fast.tw14289696077712309145 pgm)).bind fun s₀ =>
  match s₀.heap.isNs mainGlobals && s₀.gens.size == 0 with
  | true => (Fast.tw14082659384304107361 Fast.tw14364793385576792824 pgm w s₀.heap.objs.size (s₀.heap.nsMap mainGlobals "__annotations__") 5468 s₀ (topStub pgm)).bind fun s₁ => match staticsOk (Fast.tw5923862056798008813 pgm.main.body) s₀.heap s₁.heap && namesBound pgm s₁.heap && gensDone s₁ && laidKept s₀.heap s₁.heap with
      | true => some s₁
      | false => none
  | false => none
noncomputable def seenQ (s : Shared) := (Fast.tw4187177175401517315 qv looseL (Fast.tw5923862056798008813 pgm.main.body) Xh true s, Hk.obs s)
noncomputable abbrev WayOk (w : World) : Prop := (endsQ w).map seenQ = some (openGood qv looseL, Hk.val w)
theorem way0 (w : World) : WayOk ((w.withFollow "special-get-raises" false).withFollow "comprehension-iter-twice" false) := by kernel_rfl
theorem way1 (w : World) : WayOk ((w.withFollow "special-get-raises" true).withFollow "comprehension-iter-twice" false) := by kernel_rfl
theorem way2 (w : World) : WayOk ((w.withFollow "special-get-raises" false).withFollow "comprehension-iter-twice" true) := by kernel_rfl
theorem way3 (w : World) : WayOk ((w.withFollow "special-get-raises" true).withFollow "comprehension-iter-twice" true) := by kernel_rfl
theorem left : LeftO pgm qv looseL Xh (Hook.obs Hk) (Hook.val Hk) 5468 := fun w => by
  have e : WayOk w := byRow2 "comprehension-iter-twice" (P := fun w => WayOk w) (fun w => byRow2 "special-get-raises" (P := fun w => WayOk (w.withFollow "comprehension-iter-twice" false)) (fun w => way0 w) (fun w => way1 w) w) (fun w => byRow2 "special-get-raises" (P := fun w => WayOk (w.withFollow "comprehension-iter-twice" true)) (fun w => way2 w) (fun w => way3 w) w) w
  unfold WayOk endsQ seenQ at e
  unfold openEnds fencedOpening topFrom
  rw [Fast.te10274390034422433532, Fast.te14364793385576792824, Fast.te14289696077712309145, Fast.te14082659384304107361, Fast.te5923862056798008813, Fast.te4187177175401517315]
  exact e
theorem said : PySem.Challenge.rw_kt0061_05.wellSaid = true := by kernel_rfl
end Mine
end
section
open PySem PySem.W PyProof.Rows
set_option Elab.async false
set_option maxRecDepth 100000
namespace Mine
theorem defs_ok : ∃ d kwd, defOf qv rowL.name = some (d, kwd) ∧ rowL.prog.theDef rowL.name = some (d.params, d.body, d.scope) ∧ kwWritten? d.params.kwonlyargs d.params.kw_defaults = some kwd := by
  have h1 : (defOf qv rowL.name).isSome = true := by kernel_rfl
  have h2 : (defOf qv rowL.name).map (fun x => some (x.1.params, x.1.body, x.1.scope)) = some (rowL.prog.theDef rowL.name) := by kernel_rfl
  have h3 : (defOf qv rowL.name).map (fun x => kwWritten? x.1.params.kwonlyargs x.1.params.kw_defaults) = (defOf qv rowL.name).map (fun x => some x.2) := by kernel_rfl
  cases e : defOf qv rowL.name with
  | none => rw [e] at h1; cases h1
  | some x =>
    rw [e] at h2 h3
    exact ⟨x.1, x.2, rfl, (Option.some.inj h2).symm, Option.some.inj h3⟩
theorem hd (call : ∀ d kwd, defOf qv rowL.name = some (d, kwd) → WalkO qv looseL (XL qv []) (Hook.says Hk) rowL.toRowW d kwd fun f vs => PySem.call f vs) : PySem.Challenge.rw_kt0061_05.Holds := by
  obtain ⟨d, kwd, h1, h2, h3⟩ := defs_ok
  refine holds_law said fun said => ?_
  exact holds_open (q := qv) (loose := looseL) (Xt := Xh) (XP := XL qv []) (Yf := Hook.obs Hk) (Ya := Hook.val Hk) (YP := Hook.says Hk) left (Hook.of Hk) (Hook.keeps Hk) (fun s e => xl_of s (Bool.and_eq_true_iff.mp e).1) XL.keeps h1 h2 h3
    (fun s e => recFacts_of (Bool.and_eq_true_iff.mp e).2) (by rfl) said (by decide +kernel) ⟨rfl, rfl, rfl, rfl, rfl, by decide +kernel⟩ (by w_witness2) (call d kwd h1)
end Mine
end
section
open PySem PySem.W PyProof.Rows PySem.Calls
set_option Elab.async false
set_option maxRecDepth 100000
namespace Mine

/-! Abstract values, the immutable part, the ledger of mutable objects, triples. -/
noncomputable abbrev PM := Addr → Option Obj

inductive PV where
  | none | bool (b : Bool) | int (i : Int) | str (l : List Nat)
  | tup (l : List PV) | lst (l : List PV) | ref (a : Addr) | con (v : Value) | rng (a b c : Int)
  | bm (id : String) (a : Addr) | obj (C : Addr) (l : List (String × PV))

noncomputable def StrV (l : List Nat) (t : Tok) : Value := .str ⟨l.toArray⟩ t
noncomputable abbrev tupO (vs : List Value) (n : Nat) : Obj := { cls := .type "tuple", data := .seq vs.toArray n }
noncomputable abbrev lstO (vs : List Value) (n : Nat) : Obj := { cls := .type "list", data := .seq vs.toArray n }
noncomputable abbrev bmO (id : String) (a : Addr) : Obj := { cls := .type "builtin_function_or_method", data := .fields #[.builtin id, .ref a] }
noncomputable abbrev insO (C dx : Addr) : Obj := { cls := .ref C, dict := some dx, data := .plain }
noncomputable abbrev dicO (es : List DictEntry) (n : Nat) : Obj := { cls := .type "dict", data := .dict es.toArray n }

mutual
noncomputable def VR (im : PM) : PV → Value → Prop
  | .none, v => v = .none
  | .bool b, v => v = .bool b
  | .int i, v => ∃ t, v = .int i t
  | .str l, v => ∃ t, v = .str ⟨l.toArray⟩ t
  | .tup ps, v => ∃ a vs n, v = .ref a ∧ im a = some (tupO vs n) ∧ VRs im ps vs
  | .lst ps, v => ∃ a vs n, v = .ref a ∧ im a = some (lstO vs n) ∧ VRs im ps vs
  | .bm id a, v => ∃ b, v = .ref b ∧ im b = some (bmO id a)
  | .obj C l, v => ∃ x d es n, v = .ref x ∧ im x = some (insO C d) ∧ im d = some (dicO es n) ∧ VRe im l es
  | .ref a, v => v = .ref a
  | .con c, v => v = c
  | .rng a b c, v => ∃ r t u w, v = .ref r ∧ im r = some { cls := .type "range", dict := none, data := .fields #[.int a t, .int b u, .int c w], slots := #[] }
noncomputable def VRs (im : PM) : List PV → List Value → Prop
  | [], vs => vs = []
  | p :: ps, vs => ∃ v vs', vs = v :: vs' ∧ VR im p v ∧ VRs im ps vs'
noncomputable def VRe (im : PM) : List (String × PV) → List DictEntry → Prop
  | [], es => es = []
  | (x, p) :: ps, es => ∃ hh t v es', es = ⟨hh, .str (Str.ofString x) t, v⟩ :: es' ∧ VR im p v ∧ VRe im ps es'
end
mutual
theorem VR.mono {im im' : PM} (h : ∀ a o, im a = some o → im' a = some o) : ∀ (p : PV) (v : Value), VR im p v → VR im' p v
  | .none, v, x => by unfold VR at *; exact x
  | .bool b, v, x => by unfold VR at *; exact x
  | .int i, v, x => by unfold VR at *; exact x
  | .str l, v, x => by unfold VR at *; exact x
  | .tup ps, v, x => by
    unfold VR at *
    obtain ⟨a, vs, n, h1, h2, h5⟩ := x
    exact ⟨a, vs, n, h1, h _ _ h2, VRs.mono h ps vs h5⟩
  | .lst ps, v, x => by
    unfold VR at *
    obtain ⟨a, vs, n, h1, h2, h5⟩ := x
    exact ⟨a, vs, n, h1, h _ _ h2, VRs.mono h ps vs h5⟩
  | .bm id a, v, x => by unfold VR at *; obtain ⟨b, h1, h2⟩ := x; exact ⟨b, h1, h _ _ h2⟩
  | .obj C l, v, x => by
    unfold VR at *
    obtain ⟨a, d, es, n, h1, h2, h3, h4⟩ := x
    exact ⟨a, d, es, n, h1, h _ _ h2, h _ _ h3, VRe.mono h l es h4⟩
  | .ref a, v, x => by unfold VR at *; exact x
  | .con c, v, x => by unfold VR at *; exact x
  | .rng a b c, v, x => by unfold VR at *; obtain ⟨r, t, u, w, h1, h2⟩ := x; exact ⟨r, t, u, w, h1, h _ _ h2⟩
theorem VRs.mono {im im' : PM} (h : ∀ a o, im a = some o → im' a = some o) : ∀ (ps : List PV) (vs : List Value), VRs im ps vs → VRs im' ps vs
  | [], vs, x => by unfold VRs at *; exact x
  | p :: ps, vs, x => by
    unfold VRs at *
    obtain ⟨v, vs', h1, h2, h3⟩ := x
    exact ⟨v, vs', h1, VR.mono h p v h2, VRs.mono h ps vs' h3⟩
theorem VRe.mono {im im' : PM} (h : ∀ a o, im a = some o → im' a = some o) : ∀ (ps : List (String × PV)) (es : List DictEntry), VRe im ps es → VRe im' ps es
  | [], es, x => by unfold VRe at *; exact x
  | (y, p) :: ps, es, x => by
    unfold VRe at *
    obtain ⟨hh, t, v, es', h1, h2, h3⟩ := x
    exact ⟨hh, t, v, es', h1, VR.mono h p v h2, VRe.mono h ps es' h3⟩
end
theorem VRe.nil {im : PM} : VRe im [] [] := by unfold VRe; rfl
theorem VRe.cons {im : PM} {x : String} {p : PV} {ps : List (String × PV)} {hh : Int} {t : Tok} {v : Value} {es : List DictEntry} (h : VR im p v) (hs : VRe im ps es) : VRe im ((x, p) :: ps) (⟨hh, .str (Str.ofString x) t, v⟩ :: es) := by
  unfold VRe; exact ⟨_, _, _, _, rfl, h, hs⟩
theorem VRe.nil_inv {im : PM} {es : List DictEntry} (h : VRe im [] es) : es = [] := by unfold VRe at h; exact h
theorem VRe.cons_inv {im : PM} {x : String} {p : PV} {ps : List (String × PV)} {es : List DictEntry} (h : VRe im ((x, p) :: ps) es) : ∃ hh t v es', es = ⟨hh, .str (Str.ofString x) t, v⟩ :: es' ∧ VR im p v ∧ VRe im ps es' := by unfold VRe at h; exact h
theorem VRs.nil {im : PM} : VRs im [] [] := by unfold VRs; rfl
theorem VRs.cons {im : PM} {p : PV} {ps : List PV} {v : Value} {vs : List Value} (h : VR im p v) (hs : VRs im ps vs) : VRs im (p :: ps) (v :: vs) := by unfold VRs; exact ⟨_, _, rfl, h, hs⟩
theorem VRs.nil_inv {im : PM} {vs : List Value} (h : VRs im [] vs) : vs = [] := by unfold VRs at h; exact h
theorem VRs.cons_inv {im : PM} {p : PV} {ps : List PV} {vs : List Value} (h : VRs im (p :: ps) vs) : ∃ v vs', vs = v :: vs' ∧ VR im p v ∧ VRs im ps vs' := by unfold VRs at h; exact h
theorem VRs.length {im : PM} : ∀ {ps : List PV} {vs : List Value}, VRs im ps vs → vs.length = ps.length
  | [], vs, h => by rw [h.nil_inv]; rfl
  | _ :: _, vs, h => by obtain ⟨v, vs', rfl, _, h3⟩ := h.cons_inv; rw [List.length_cons, List.length_cons, h3.length]
theorem VRs.append {im : PM} : ∀ {ps qs : List PV} {vs ws : List Value}, VRs im ps vs → VRs im qs ws → VRs im (ps ++ qs) (vs ++ ws)
  | [], _, vs, _, h, k => by rw [h.nil_inv]; exact k
  | _ :: _, _, vs, _, h, k => by obtain ⟨v, vs', rfl, h2, h3⟩ := h.cons_inv; exact .cons h2 (h3.append k)
theorem VRs.get {im : PM} : ∀ {ps : List PV} {vs : List Value}, VRs im ps vs → ∀ {i : Nat} {p : PV}, ps[i]? = some p → ∃ v, vs[i]? = some v ∧ VR im p v
  | [], vs, h, i, p, e => by simp at e
  | q :: qs, vs, h, i, p, e => by
    obtain ⟨v, vs', rfl, h2, h3⟩ := h.cons_inv
    cases i with
    | zero => simp at e; subst e; exact ⟨v, rfl, h2⟩
    | succ i => simp at e; exact h3.get e
theorem VRs.set {im : PM} : ∀ {ps : List PV} {vs : List Value}, VRs im ps vs → ∀ {i : Nat} {p : PV} {v : Value}, VR im p v → VRs im (ps.set i p) (vs.set i v)
  | [], vs, h, i, p, v, k => by rw [h.nil_inv]; exact .nil
  | q :: qs, vs, h, i, p, v, k => by
    obtain ⟨w, vs', rfl, h2, h3⟩ := h.cons_inv
    cases i with
    | zero => exact .cons k h3
    | succ i => exact .cons h2 (h3.set k)
theorem VRs.take {im : PM} : ∀ {ps : List PV} {vs : List Value}, VRs im ps vs → ∀ (i : Nat), VRs im (ps.take i) (vs.take i)
  | [], vs, h, i => by rw [h.nil_inv]; simp; exact .nil
  | q :: qs, vs, h, i => by
    obtain ⟨w, vs', rfl, h2, h3⟩ := h.cons_inv
    cases i with
    | zero => exact .nil
    | succ i => exact .cons h2 (h3.take i)
theorem VRs.drop {im : PM} : ∀ {ps : List PV} {vs : List Value}, VRs im ps vs → ∀ (i : Nat), VRs im (ps.drop i) (vs.drop i)
  | [], vs, h, i => by rw [h.nil_inv]; simp; exact .nil
  | q :: qs, vs, h, i => by
    obtain ⟨w, vs', rfl, h2, h3⟩ := h.cons_inv
    cases i with
    | zero => exact .cons h2 h3
    | succ i => exact h3.drop i

theorem VR.none_i {im : PM} {v : Value} (h : VR im .none v) : v = .none := by unfold VR at h; exact h
theorem VR.bool_i {im : PM} {b : Bool} {v : Value} (h : VR im (.bool b) v) : v = .bool b := by unfold VR at h; exact h
theorem VR.int_i {im : PM} {i : Int} {v : Value} (h : VR im (.int i) v) : ∃ t, v = .int i t := by unfold VR at h; exact h
theorem VR.str_i {im : PM} {l : List Nat} {v : Value} (h : VR im (.str l) v) : ∃ t, v = .str ⟨l.toArray⟩ t := by unfold VR at h; exact h
theorem VR.ref_i {im : PM} {a : Addr} {v : Value} (h : VR im (.ref a) v) : v = .ref a := by unfold VR at h; exact h
theorem VR.con_i {im : PM} {c v : Value} (h : VR im (.con c) v) : v = c := by unfold VR at h; exact h
theorem VR.tup_i {im : PM} {ps : List PV} {v : Value} (h : VR im (.tup ps) v) : ∃ a vs n, v = .ref a ∧ im a = some (tupO vs n) ∧ VRs im ps vs := by unfold VR at h; exact h
theorem VR.lst_i {im : PM} {ps : List PV} {v : Value} (h : VR im (.lst ps) v) : ∃ a vs n, v = .ref a ∧ im a = some (lstO vs n) ∧ VRs im ps vs := by unfold VR at h; exact h
theorem VR.bm_i {im : PM} {id : String} {a : Addr} {v : Value} (h : VR im (.bm id a) v) : ∃ b, v = .ref b ∧ im b = some (bmO id a) := by unfold VR at h; exact h
theorem VR.obj_i {im : PM} {C : Addr} {l : List (String × PV)} {v : Value} (h : VR im (.obj C l) v) : ∃ x d es n, v = .ref x ∧ im x = some (insO C d) ∧ im d = some (dicO es n) ∧ VRe im l es := by unfold VR at h; exact h
theorem VR.bm {im : PM} {id : String} {a b : Addr} (h : im b = some (bmO id a)) : VR im (.bm id a) (.ref b) := by unfold VR; exact ⟨b, rfl, h⟩
theorem VR.obj {im : PM} {C x d : Addr} {es : List DictEntry} {n : Nat} {l : List (String × PV)} (h : im x = some (insO C d)) (hd : im d = some (dicO es n)) (he : VRe im l es) : VR im (.obj C l) (.ref x) := by unfold VR; exact ⟨x, d, es, n, rfl, h, hd, he⟩
theorem VR.rng_i {im : PM} {a b c : Int} {v : Value} (h : VR im (.rng a b c) v) : ∃ r t u w, v = .ref r ∧ im r = some { cls := .type "range", dict := none, data := .fields #[.int a t, .int b u, .int c w], slots := #[] } := by unfold VR at h; exact h
theorem VR.none {im : PM} : VR im .none .none := by unfold VR; rfl
theorem VR.bool {im : PM} {b : Bool} : VR im (.bool b) (.bool b) := by unfold VR; rfl
theorem VR.int {im : PM} {i : Int} {t : Tok} : VR im (.int i) (.int i t) := by unfold VR; exact ⟨t, rfl⟩
theorem VR.str {im : PM} {l : List Nat} {t : Tok} : VR im (.str l) (.str ⟨l.toArray⟩ t) := by unfold VR; exact ⟨t, rfl⟩
theorem VR.str' {im : PM} {x : Str} {t : Tok} : VR im (.str x.cps.toList) (.str x t) := by unfold VR; exact ⟨t, by simp⟩
theorem VR.ref {im : PM} {a : Addr} : VR im (.ref a) (.ref a) := by unfold VR; rfl
theorem VR.con {im : PM} {c : Value} : VR im (.con c) c := by unfold VR; rfl
theorem VR.rng {im : PM} {r : Addr} {a b c : Int} {t u w : Tok} (h : im r = some { cls := .type "range", dict := Option.none, data := .fields #[.int a t, .int b u, .int c w], slots := #[] }) : VR im (.rng a b c) (.ref r) := by unfold VR; exact ⟨r, t, u, w, rfl, h⟩
theorem VR.tup {im : PM} {a : Addr} {vs : List Value} {n : Nat} {ps : List PV} (h : im a = some (tupO vs n)) (hv : VRs im ps vs) : VR im (.tup ps) (.ref a) := by
  unfold VR; exact ⟨a, vs, n, rfl, h, hv⟩
theorem VR.lst {im : PM} {a : Addr} {vs : List Value} {n : Nat} {ps : List PV} (h : im a = some (lstO vs n)) (hv : VRs im ps vs) : VR im (.lst ps) (.ref a) := by
  unfold VR; exact ⟨a, vs, n, rfl, h, hv⟩

/-- mutable objects of the ledger -/
inductive LO where
  | list (l : List PV)
  | rit (a : Int) (n : Nat) (c : Int)
  | ins (C d : Addr)
  | att (l : List (String × PV))

noncomputable def LR (im : PM) (h : Heap) (a : Addr) : LO → Prop
  | .list ps => ∃ vs n, h.get? a = some (lstO vs n) ∧ VRs im ps vs
  | .rit st n c => IsRangeIter h a st (n : Int) c
  | .ins C d => h.get? a = some (insO C d)
  | .att l => ∃ es n, h.get? a = some (dicO es n) ∧ VRe im l es

theorem LR.at {im : PM} {h h' : Heap} {a : Addr} {o : LO} (x : LR im h a o) (e : ∀ y, h.get? a = some y → h'.get? a = some y) : LR im h' a o := by
  cases o with
  | list ps => obtain ⟨vs, n, h1, h2⟩ := x; exact ⟨vs, n, e _ h1, h2⟩
  | rit st n c => exact e _ x
  | ins C d => exact e _ x
  | att l => obtain ⟨es, n, h1, h2⟩ := x; exact ⟨es, n, e _ h1, h2⟩
theorem LR.mono {im im' : PM} {h : Heap} {a : Addr} {o : LO} (x : LR im h a o) (e : ∀ a o, im a = some o → im' a = some o) : LR im' h a o := by
  cases o with
  | list ps => obtain ⟨vs, n, h1, h2⟩ := x; exact ⟨vs, n, h1, h2.mono e⟩
  | rit st n c => exact x
  | ins C d => exact x
  | att l => obtain ⟨es, n, h1, h2⟩ := x; exact ⟨es, n, h1, h2.mono e⟩
theorem LR.some {im : PM} {h : Heap} {a : Addr} {o : LO} (x : LR im h a o) : ∃ y, h.get? a = some y := by
  cases o with
  | list ps => obtain ⟨vs, n, h1, h2⟩ := x; exact ⟨_, h1⟩
  | rit st n c => exact ⟨_, x⟩
  | ins C d => exact ⟨_, x⟩
  | att l => obtain ⟨es, n, h1, h2⟩ := x; exact ⟨_, h1⟩

structure Cx where
  prog : Program
  w : World
  K : Frag
  os : OsState
  gens : Array GenState
  gl : List (String × PV)
noncomputable abbrev Cx.M (C : Cx) : Model := model C.prog C.w
noncomputable abbrev Cx.base (C : Cx) : PM := fun a => C.K.lookup a

noncomputable abbrev Led := List (Addr × LO)
noncomputable abbrev Rho := List (String × PV)

noncomputable def PlainName (x : Str) : Prop := (x == ("__debug__" : Str)) = false ∧ (x == ("__classdict__" : Str)) = false
noncomputable def Glob (C : Cx) (x : Str) (v : Value) : Prop :=
  ∀ (env : Env) (A : Around) (E : Value → Shared → Prop) (Q : Value → Shared → Prop) (s : Shared), env.scope.kind = .function → env.globals = mainGlobals → env.builtins = builtinsNs → env.kindOf x = some .globalImplicit →
    (∀ a o, C.base a = some o → s.heap.get? a = some o) → Q v s → wpAny C.M A (loadName env x) Q E s

structure GlobP (C : Cx) (x : String) (p : PV) : Prop where
  pn : PlainName (Str.ofString x)
  how : ∃ v, (∀ im, VR im p v) ∧ Glob C (Str.ofString x) v

structure StL (C : Cx) (bs im : PM) (s : Shared) (σ : Led) : Prop where
  os : s.os = C.os
  gens : s.gens = C.gens
  cb : ∀ a o, C.base a = some o → bs a = some o
  hbs : ∀ a o, bs a = some o → s.heap.get? a = some o
  him : ∀ a o, im a = some o → s.heap.get? a = some o
  led : ∀ p ∈ σ, LR im s.heap p.1 p.2 ∧ bs p.1 = none ∧ im p.1 = none
  nd : (σ.map (·.1)).Nodup
  gok : ∀ p ∈ C.gl, GlobP C p.1 p.2

inductive How (C : Cx) (env : Env) (h : Heap) (m : Str → Option Value) (x : Str) (v : Value) : Prop where
  | loc (hk : env.kindOf x = some .local) (hm : m x = some v)
  | cell (hk : env.kindOf x = some .cell ∨ env.kindOf x = some .free) (c : Addr) (hc : env.cells.lookup x = some c) (hv : h.IsCell c (some v))
  | glob (hk : env.kindOf x = some .globalImplicit) (hg : Glob C x v)
structure Has (C : Cx) (env : Env) (h : Heap) (m : Str → Option Value) (x : Str) (v : Value) : Prop where
  pn : PlainName x
  how : How C env h m x v

noncomputable abbrev Names := List (String × NameKind)
structure FrOk (C : Cx) (env : Env) (κ : List (Str × Addr)) (ns : Names) (cn : List String) (bs im : PM) (h : Heap) (ρ : Rho) (σ : Led) : Prop where
  vars : ∃ m, h.Ns env.locals m ∧ ∀ p ∈ ρ, ∃ v, VR im p.2 v ∧ Has C env h m (Str.ofString p.1) v
  rn : (ρ.map (·.1)).Nodup
  lbs : bs env.locals = none
  lim : im env.locals = none
  lled : env.locals ∉ σ.map (·.1)
  cells : ∀ p ∈ κ, (∃ v, h.IsCell p.2 v) ∧ bs p.2 = none ∧ im p.2 = none ∧ p.2 ∉ σ.map (·.1) ∧ env.cells.lookup p.1 = some p.2
  apart : κ.Pairwise fun x y => x.2 ≠ y.2
  outer : ∀ x c, env.cells.lookup x = some c → (x, c) ∈ κ ∨ ∃ o, bs c = some o
  kind : env.scope.kind = .function
  gl : env.globals = mainGlobals
  bi : env.builtins = builtinsNs
  kn : ∀ p ∈ ns, env.kindOf (Str.ofString p.1) = some p.2 ∧ PlainName (Str.ofString p.1)
  own : ∀ p ∈ ns, p.2 = NameKind.cell → ∃ c, (Str.ofString p.1, c) ∈ κ
  ck : ∀ x ∈ cn, (env.kindOf (Str.ofString x) = some .cell ∨ env.kindOf (Str.ofString x) = some .free) ∧ ∃ c, env.cells.lookup (Str.ofString x) = some c

structure Gx where
  C : Cx
  env : Env
  κ : List (Str × Addr)
  ns : Names
  cn : List String
  n : Nat

structure St (G : Gx) (bs im : PM) (s : Shared) (ρ : Rho) (σ : Led) : Prop where
  l : StL G.C bs im s σ
  f : FrOk G.C G.env G.κ G.ns G.cn bs im s.heap ρ σ

noncomputable def Ext (bs im im' : PM) : Prop := (∀ a o, im a = some o → im' a = some o) ∧ ∀ a, im' a ≠ none → im a ≠ none ∨ bs a = none
theorem Ext.refl {bs im : PM} : Ext bs im im := ⟨fun _ _ h => h, fun _ h => .inl h⟩
theorem Ext.trans {bs im im' im'' : PM} (h : Ext bs im im') (k : Ext bs im' im'') : Ext bs im im'' :=
  ⟨fun a o e => k.1 a o (h.1 a o e), fun a e => (k.2 a e).elim (h.2 a) .inr⟩

noncomputable def AOk (n : Nat) (A : Around) : Prop := A.handled = none ∧ A.depth + n ≤ 900 ∧ A.units + 8 * n ≤ 9000
theorem AOk.in1 {n : Nat} {A : Around} (h : AOk (n + 1) A) : AOk n A.in1 := ⟨h.1, by have := h.2.1; show A.depth + n ≤ 900; omega, by have := h.2.2; show A.units + 1 + 8 * n ≤ 9000; omega⟩
theorem AOk.deeper {n : Nat} {A : Around} (h : AOk (n + 1) A) (env : Env) : AOk n (A.deeper env) := ⟨h.1, by have := h.2.1; show A.depth + 1 + n ≤ 900; omega, by have := h.2.2; show A.units + 3 + 8 * n ≤ 9000; omega⟩
theorem AOk.mono {n m : Nat} {A : Around} (h : AOk n A) (k : m ≤ n) : AOk m A := ⟨h.1, by have := h.2.1; omega, by have := h.2.2; omega⟩
theorem AOk.mark {n : Nat} {A : Around} (h : AOk n A) : A.mark none = A := by
  obtain ⟨hd, d, fr, gs, u⟩ := A
  have : hd = none := h.1
  subst this; rfl

/-- the general triple -/
noncomputable def Post (G : Gx) {α R : Type} (rel : PM → R → α → Prop) (bs im : PM) (Q : R → Rho → Led → Prop) (a : α) (s' : Shared) : Prop :=
  ∃ im' r ρ' σ', Ext bs im im' ∧ rel im' r a ∧ St G bs im' s' ρ' σ' ∧ Q r ρ' σ'
noncomputable def Bot : Value → Shared → Prop := fun _ _ => False
noncomputable def Tr (G : Gx) {α R : Type} (rel : PM → R → α → Prop) (t : Sem α) (ρ : Rho) (σ : Led) (Q : R → Rho → Led → Prop) : Prop :=
  ∀ A bs im s, AOk G.n A → St G bs im s ρ σ → wpAny G.C.M A t (Post G rel bs im Q) Bot s

theorem Post.mono {G : Gx} {α R : Type} {rel : PM → R → α → Prop} {bs im : PM} {Q Q' : R → Rho → Led → Prop} {a : α} {s' : Shared} (h : Post G rel bs im Q a s') (k : ∀ r ρ σ, Q r ρ σ → Q' r ρ σ) : Post G rel bs im Q' a s' := by
  obtain ⟨im', r, ρ', σ', h1, h2, h3, h4⟩ := h
  exact ⟨im', r, ρ', σ', h1, h2, h3, k _ _ _ h4⟩
theorem Post.ext {G : Gx} {α R : Type} {rel : PM → R → α → Prop} {bs im im₁ : PM} {Q : R → Rho → Led → Prop} {a : α} {s' : Shared} (e : Ext bs im im₁) (h : Post G rel bs im₁ Q a s') : Post G rel bs im Q a s' := by
  obtain ⟨im', r, ρ', σ', h1, h2, h3, h4⟩ := h
  exact ⟨im', r, ρ', σ', e.trans h1, h2, h3, h4⟩
theorem wpAny_bot {α : Type} {M : Model} {A : Around} {t : Sem α} {Q Q' : α → Shared → Prop} {E : Value → Shared → Prop} {s : Shared} (h : wpAny M A t Q Bot s) (hQ : ∀ a s, Q a s → Q' a s) : wpAny M A t Q' E s :=
  wpAny_mono h hQ (fun _ _ f => f.elim)

noncomputable def relB (_ : PM) (b : Bool) (b' : Bool) : Prop := b' = b
noncomputable def relU (_ : PM) (_ : Unit) (_ : Unit) : Prop := True
noncomputable abbrev relL : PM → List PV → List Value → Prop := VRs
noncomputable abbrev Ev (G : Gx) (e : Expr) (ρ : Rho) (σ : Led) (Q : PV → Rho → Led → Prop) : Prop := Tr G VR (eval e G.env) ρ σ Q
noncomputable abbrev Ts (G : Gx) (e : Expr) (ρ : Rho) (σ : Led) (Q : Bool → Rho → Led → Prop) : Prop := Tr G relB (isTrue e G.env (eval e G.env)) ρ σ Q
inductive Fl where
  | next | brk | cont | ret (v : PV)
noncomputable def FlR (im : PM) : Fl → Flow → Prop
  | .next, f => f = .next
  | .brk, f => f = .brk
  | .cont, f => f = .cont
  | .ret p, f => ∃ v, f = .ret v ∧ VR im p v
noncomputable abbrev Ex1 (G : Gx) (st : Stmt) (ρ : Rho) (σ : Led) (Q : Fl → Rho → Led → Prop) : Prop := Tr G FlR (exec st G.env) ρ σ Q
noncomputable abbrev Ex (G : Gx) (st : List Stmt) (ρ : Rho) (σ : Led) (Q : Fl → Rho → Led → Prop) : Prop := Tr G FlR (execs st G.env) ρ σ Q

/-- a continuation that takes a value -/
noncomputable def Con (G : Gx) {α β R R' : Type} (rel : PM → R → α → Prop) (r : R) (f : α → Sem β) (rel' : PM → R' → β → Prop) (ρ : Rho) (σ : Led) (Q : R' → Rho → Led → Prop) : Prop :=
  ∀ A bs im s a, AOk G.n A → St G bs im s ρ σ → rel im r a → wpAny G.C.M A (f a) (Post G rel' bs im Q) Bot s
noncomputable abbrev Op1 (G : Gx) (f : Value → Sem Value) (a : PV) (ρ : Rho) (σ : Led) (Q : PV → Rho → Led → Prop) : Prop := Con G VR a f VR ρ σ Q
noncomputable def Op2 (G : Gx) (f : Value → Value → Sem Value) (a b : PV) (ρ : Rho) (σ : Led) (Q : PV → Rho → Led → Prop) : Prop :=
  ∀ A bs im s v w, AOk G.n A → St G bs im s ρ σ → VR im a v → VR im b w → wpAny G.C.M A (f v w) (Post G VR bs im Q) Bot s
noncomputable abbrev TrueOf (G : Gx) (a : PV) (ρ : Rho) (σ : Led) (Q : Bool → Rho → Led → Prop) : Prop := Con G VR a truthy relB ρ σ Q

section
variable {G : Gx} {α β R R' : Type} {rel : PM → R → α → Prop} {rel' : PM → R' → β → Prop} {ρ : Rho} {σ : Led}

theorem Tr.mono {t : Sem α} {Q Q' : R → Rho → Led → Prop} (h : Tr G rel t ρ σ Q) (k : ∀ r ρ σ, Q r ρ σ → Q' r ρ σ) : Tr G rel t ρ σ Q' :=
  fun A bs im s hA hS => wpAny_mono (h A bs im s hA hS) (fun _ _ p => p.mono k) fun _ _ x => x
theorem Con.mono {r : R} {f : α → Sem β} {Q Q' : R' → Rho → Led → Prop} (h : Con G rel r f rel' ρ σ Q) (k : ∀ r ρ σ, Q r ρ σ → Q' r ρ σ) : Con G rel r f rel' ρ σ Q' :=
  fun A bs im s a hA hS hr => wpAny_mono (h A bs im s a hA hS hr) (fun _ _ p => p.mono k) fun _ _ x => x

/-- sequencing inside the logic: what a first tree gives is handed to a continuation -/
theorem Tr.then {t : Sem α} {f : α → Sem β} {Q : R' → Rho → Led → Prop} (h : Tr G rel t ρ σ (fun r ρ₁ σ₁ => Con G rel r f rel' ρ₁ σ₁ Q)) {A : Around} {bs im : PM} {s : Shared} (hA : AOk G.n A) (hS : St G bs im s ρ σ) :
    wpAny G.C.M A t (fun a s₁ => wpAny G.C.M A (f a) (Post G rel' bs im Q) Bot s₁) Bot s :=
  wpAny_mono (h A bs im s hA hS) (fun a s₁ p => by
    obtain ⟨im₁, r, ρ₁, σ₁, e, hr, hS₁, hC⟩ := p
    exact wpAny_mono (hC A bs im₁ s₁ a hA hS₁ hr) (fun _ _ q => q.ext e) fun _ _ x => x) fun _ _ x => x
theorem Tr.bind {t : Sem α} {f : α → Sem β} {Q : R' → Rho → Led → Prop} (h : Tr G rel t ρ σ (fun r ρ₁ σ₁ => Con G rel r f rel' ρ₁ σ₁ Q)) : Tr G rel' (t >>= f) ρ σ Q :=
  fun _ _ _ _ hA hS => wpAny_bind (h.then hA hS)
theorem Tr.pure' {a : α} {r : R} {Q : R → Rho → Led → Prop} (hr : ∀ im, rel im r a) (h : Q r ρ σ) : Tr G rel (pure a) ρ σ Q :=
  fun _ _ _ _ _ hS => wpAny_pure ⟨_, r, ρ, σ, .refl, hr _, hS, h⟩
theorem Post.now {bs im : PM} {a : α} {r : R} {s : Shared} {Q : R → Rho → Led → Prop} (hS : St G bs im s ρ σ) (hr : rel im r a) (h : Q r ρ σ) : Post G rel bs im Q a s := ⟨_, r, ρ, σ, .refl, hr, hS, h⟩
end

/-! transitions of the state -/
theorem StL.toks {C : Cx} {bs im : PM} {s : Shared} {σ : Led} (x : StL C bs im s σ) (t : Nat) : StL C bs im { s with toks := t } σ := ⟨x.os, x.gens, x.cb, x.hbs, x.him, x.led, x.nd, x.gok⟩
theorem St.toks {G : Gx} {bs im : PM} {s : Shared} {ρ : Rho} {σ : Led} (x : St G bs im s ρ σ) (t : Nat) : St G bs im { s with toks := t } ρ σ := ⟨x.l.toks t, x.f⟩

theorem Has.keeps {C : Cx} {env : Env} {h h' : Heap} {m : Str → Option Value} {x : Str} {v : Value} (y : Has C env h m x v) (hk : ∀ c w, env.cells.lookup x = some c → h.IsCell c w → h'.IsCell c w) : Has C env h' m x v := by
  obtain ⟨n, y⟩ := y
  cases y with
  | loc a b => exact ⟨n, .loc a b⟩
  | cell a c b d => exact ⟨n, .cell a c b (hk c _ b d)⟩
  | glob a b => exact ⟨n, .glob a b⟩

/-- a heap that keeps everything -/
theorem StL.grow {C : Cx} {bs im : PM} {s : Shared} {σ : Led} (x : StL C bs im s σ) {h' : Heap} (hk : ∀ b o, s.heap.get? b = some o → h'.get? b = some o) (t : Nat) : StL C bs im { s with heap := h', toks := t } σ :=
  ⟨x.os, x.gens, x.cb, fun a o e => hk a o (x.hbs a o e), fun a o e => hk a o (x.him a o e), fun p hp => let ⟨a, b⟩ := x.led p hp; ⟨a.at fun y e => hk _ y e, b⟩, x.nd, x.gok⟩
theorem FrOk.grow {C : Cx} {env : Env} {κ : List (Str × Addr)} {ns : Names} {cn : List String} {bs im : PM} {h h' : Heap} {ρ : Rho} {σ : Led} (x : FrOk C env κ ns cn bs im h ρ σ) (hk : ∀ b o, h.get? b = some o → h'.get? b = some o) : FrOk C env κ ns cn bs im h' ρ σ :=
  ⟨let ⟨m, a, b⟩ := x.vars; ⟨m, a.keeps hk, fun p hp => let ⟨v, c, d⟩ := b p hp; ⟨v, c, d.keeps fun _ _ _ z => z.keeps hk⟩⟩, x.rn, x.lbs, x.lim, x.lled,
    fun p hp => let ⟨⟨v, a⟩, b⟩ := x.cells p hp; ⟨⟨v, a.keeps hk⟩, b⟩, x.apart, x.outer, x.kind, x.gl, x.bi, x.kn, x.own, x.ck⟩
theorem St.grow {G : Gx} {bs im : PM} {s : Shared} {ρ : Rho} {σ : Led} (x : St G bs im s ρ σ) {h' : Heap} (hk : ∀ b o, s.heap.get? b = some o → h'.get? b = some o) (t : Nat) : St G bs im { s with heap := h', toks := t } ρ σ := ⟨x.l.grow hk t, x.f.grow hk⟩

theorem get?_size_none (h : Heap) : h.get? h.objs.size = none := by
  cases e : h.get? h.objs.size with
  | none => rfl
  | some o => exact absurd (Heap.lt_size e) (Nat.lt_irrefl _)

/-- the immutable part with one more object -/
noncomputable def PM.put (f : PM) (a : Addr) (o : Obj) : PM := fun b => if b = a then some o else f b
theorem PM.put_self (f : PM) (a : Addr) (o : Obj) : f.put a o a = some o := by simp [PM.put]
theorem PM.put_keep {f : PM} {a : Addr} (hn : f a = none) (o : Obj) : ∀ b p, f b = some p → f.put a o b = some p := fun b p e => by
  unfold PM.put; split
  · rename_i q; rw [q, hn] at e; cases e
  · exact e
theorem PM.put_ne {f : PM} {a b : Addr} (h : b ≠ a) (o : Obj) : f.put a o b = f b := by simp [PM.put, h]

theorem StL.bs_none {C : Cx} {bs im : PM} {s : Shared} {σ : Led} (x : StL C bs im s σ) {a : Addr} (h : s.heap.get? a = none) : bs a = none := by
  cases e : bs a with
  | none => rfl
  | some o => have := x.hbs a o e; rw [h] at this; cases this
theorem StL.im_none {C : Cx} {bs im : PM} {s : Shared} {σ : Led} (x : StL C bs im s σ) {a : Addr} (h : s.heap.get? a = none) : im a = none := by
  cases e : im a with
  | none => rfl
  | some o => have := x.him a o e; rw [h] at this; cases this
theorem StL.led_some {C : Cx} {bs im : PM} {s : Shared} {σ : Led} (x : StL C bs im s σ) {a : Addr} (h : s.heap.get? a = none) : a ∉ σ.map (·.1) := fun hm => by
  obtain ⟨p, hp, rfl⟩ := List.mem_map.mp hm
  obtain ⟨y, e⟩ := (x.led p hp).1.some
  rw [h] at e; cases e
theorem FrOk.loc_some {C : Cx} {env : Env} {κ : List (Str × Addr)} {ns : Names} {cn : List String} {bs im : PM} {h : Heap} {ρ : Rho} {σ : Led} (x : FrOk C env κ ns cn bs im h ρ σ) : ∃ o es ep, h.get? env.locals = some o ∧ o.data = .dict es ep := by
  obtain ⟨m, ⟨o, es, ep, a, b, _⟩, _⟩ := x.vars
  exact ⟨o, es, ep, a, b⟩

/-- a new immutable object -/
theorem St.pushIm {G : Gx} {bs im : PM} {s : Shared} {ρ : Rho} {σ : Led} (x : St G bs im s ρ σ) (o : Obj) (hf : o.isFreed = false) (t : Nat) :
    Ext bs im (im.put s.heap.objs.size o) ∧ St G bs (im.put s.heap.objs.size o) { s with heap := s.heap.push o, toks := t } ρ σ := by
  have hn := get?_size_none s.heap
  have hk : ∀ b p, s.heap.get? b = some p → (s.heap.push o).get? b = some p := fun b p e => Heap.get?_push_of_some _ e
  have hi := x.l.im_none hn
  have hput := PM.put_keep hi o
  have ne : ∀ b, (∃ p, s.heap.get? b = some p) → b ≠ s.heap.objs.size := fun b ⟨p, e⟩ q => by rw [q, hn] at e; cases e
  refine ⟨⟨hput, fun a e => ?_⟩, ⟨x.l.os, x.l.gens, x.l.cb, fun a p e => hk a p (x.l.hbs a p e), fun a p e => ?_, fun p hp => ?_, x.l.nd, x.l.gok⟩, ?_⟩
  · by_cases q : a = s.heap.objs.size
    · subst q; exact .inr (x.l.bs_none hn)
    · rw [PM.put_ne q] at e; exact .inl e
  · unfold PM.put at e; split at e
    · rename_i q; cases e; rw [q]; exact Heap.get?_push_size _ hf
    · exact hk a p (x.l.him a p e)
  · obtain ⟨a, b, c⟩ := x.l.led p hp
    exact ⟨(a.at fun y e => hk _ y e).mono hput, b, by rw [PM.put_ne (ne _ a.some)]; exact c⟩
  · have f := x.f.grow hk
    obtain ⟨ol, _, _, hol, _⟩ := x.f.loc_some
    refine ⟨?_, f.rn, f.lbs, by rw [PM.put_ne (ne _ ⟨_, hol⟩)]; exact f.lim, f.lled, fun p hp => ?_, f.apart, f.outer, f.kind, f.gl, f.bi, f.kn, f.own, f.ck⟩
    · obtain ⟨m, a, b⟩ := f.vars
      exact ⟨m, a, fun p hp => let ⟨v, c, d⟩ := b p hp; ⟨v, c.mono hput, d⟩⟩
    · obtain ⟨a, b, c, d⟩ := f.cells p hp
      obtain ⟨⟨v, oc, hoc, _⟩, _⟩ := x.f.cells p hp
      exact ⟨a, b, by rw [PM.put_ne (ne _ ⟨_, hoc⟩)]; exact c, d⟩

/-- a new mutable object -/
theorem St.pushLed {G : Gx} {bs im : PM} {s : Shared} {ρ : Rho} {σ : Led} (x : St G bs im s ρ σ) (o : Obj) (lo : LO) (t : Nat) (hr : LR im (s.heap.push o) s.heap.objs.size lo) :
    St G bs im { s with heap := s.heap.push o, toks := t } ρ ((s.heap.objs.size, lo) :: σ) := by
  have hn := get?_size_none s.heap
  have hk : ∀ b p, s.heap.get? b = some p → (s.heap.push o).get? b = some p := fun b p e => Heap.get?_push_of_some _ e
  have y := x.grow hk t
  have ne : ∀ b, (∃ p, s.heap.get? b = some p) → b ≠ s.heap.objs.size := fun b ⟨p, e⟩ q => by rw [q, hn] at e; cases e
  obtain ⟨ol, _, _, hol, _⟩ := x.f.loc_some
  refine ⟨⟨y.l.os, y.l.gens, y.l.cb, y.l.hbs, y.l.him, fun p hp => ?_, ?_, y.l.gok⟩, ⟨y.f.vars, y.f.rn, y.f.lbs, y.f.lim, ?_, fun p hp => ?_, y.f.apart, y.f.outer, y.f.kind, y.f.gl, y.f.bi, y.f.kn, y.f.own, y.f.ck⟩⟩
  · rcases List.mem_cons.mp hp with rfl | hp
    · exact ⟨hr, x.l.bs_none hn, x.l.im_none hn⟩
    · exact y.l.led p hp
  · rw [List.map_cons]; exact List.nodup_cons.mpr ⟨x.l.led_some hn, x.l.nd⟩
  · rw [List.map_cons]; intro hm
    rcases List.mem_cons.mp hm with e | hm
    · exact ne _ ⟨_, hol⟩ e
    · exact x.f.lled hm
  · obtain ⟨a, b, c, d, e⟩ := y.f.cells p hp
    obtain ⟨⟨v, oc, hoc, _⟩, _⟩ := x.f.cells p hp
    refine ⟨a, b, c, ?_, e⟩
    rw [List.map_cons]; intro hm
    rcases List.mem_cons.mp hm with q | hm
    · exact ne _ ⟨_, hoc⟩ q
    · exact d hm

/-- a ledger's object takes another value -/
inductive Upd (a : Addr) (o o' : LO) : Led → Led → Prop
  | head {r : Led} : Upd a o o' ((a, o) :: r) ((a, o') :: r)
  | tail {p : Addr × LO} {r r' : Led} : Upd a o o' r r' → Upd a o o' (p :: r) (p :: r')
theorem Upd.keys {a : Addr} {o o' : LO} {σ σ' : Led} (u : Upd a o o' σ σ') : σ'.map (·.1) = σ.map (·.1) := by
  induction u with
  | head => rfl
  | tail _ ih => rw [List.map_cons, List.map_cons, ih]
theorem Upd.mem {a : Addr} {o o' : LO} {σ σ' : Led} (u : Upd a o o' σ σ') : (a, o) ∈ σ := by
  induction u with
  | head => exact .head _
  | tail _ ih => exact .tail _ ih
theorem Upd.mem' {a : Addr} {o o' : LO} {σ σ' : Led} (u : Upd a o o' σ σ') (hn : (σ.map (·.1)).Nodup) : ∀ p ∈ σ', p = (a, o') ∨ (p ∈ σ ∧ p.1 ≠ a) := by
  induction u with
  | head =>
    intro p hp
    rw [List.map_cons, List.nodup_cons] at hn
    rcases List.mem_cons.mp hp with rfl | hp
    · exact .inl rfl
    · exact .inr ⟨.tail _ hp, fun e => hn.1 (List.mem_map.mpr ⟨p, hp, e⟩)⟩
  | tail u ih =>
    intro p hp
    rw [List.map_cons, List.nodup_cons] at hn
    rcases List.mem_cons.mp hp with rfl | hp
    · exact .inr ⟨.head _, fun e => hn.1 (e ▸ List.mem_map_of_mem u.mem)⟩
    · exact (ih hn.2 p hp).imp id fun ⟨x, y⟩ => ⟨.tail _ x, y⟩

theorem StL.ledNe {C : Cx} {bs im : PM} {s : Shared} {σ : Led} (x : StL C bs im s σ) {a : Addr} (hm : a ∈ σ.map (·.1)) : bs a = none ∧ im a = none := by
  obtain ⟨p, hp, rfl⟩ := List.mem_map.mp hm
  exact (x.led p hp).2
theorem St.upd {G : Gx} {bs im : PM} {s : Shared} {ρ : Rho} {σ σ' : Led} (x : St G bs im s ρ σ) {a : Addr} {lo lo' : LO} (u : Upd a lo lo' σ σ') {h' : Heap} (t : Nat) (hs : Heap.SameBut a s.heap h') (hr : LR im h' a lo') :
    St G bs im { s with heap := h', toks := t } ρ σ' := by
  have hm : a ∈ σ.map (·.1) := List.mem_map_of_mem u.mem
  have hne := x.l.ledNe hm
  have hL : G.env.locals ≠ a := fun e => x.f.lled (e ▸ hm)
  have hk : ∀ b p, b ≠ a → s.heap.get? b = some p → h'.get? b = some p := fun b p q e => (hs.2 b q).trans e
  have nb : ∀ b o, bs b = some o → b ≠ a := fun b o e q => by rw [q, hne.1] at e; cases e
  have ni : ∀ b o, im b = some o → b ≠ a := fun b o e q => by rw [q, hne.2] at e; cases e
  have hcell : ∀ y c w, G.env.cells.lookup y = some c → s.heap.IsCell c w → h'.IsCell c w := fun y c w e z => by
    have hc : c ≠ a := by
      rcases x.f.outer y c e with q | ⟨o, q⟩
      · intro r; exact (x.f.cells _ q).2.2.2.1 (r ▸ hm)
      · exact nb _ _ q
    exact z.sameBut hs hc
  refine ⟨⟨x.l.os, x.l.gens, x.l.cb, fun b o e => hk b o (nb b o e) (x.l.hbs b o e), fun b o e => hk b o (ni b o e) (x.l.him b o e), fun p hp => ?_, (by rw [u.keys]; exact x.l.nd), x.l.gok⟩,
    ⟨?_, x.f.rn, x.f.lbs, x.f.lim, by rw [u.keys]; exact x.f.lled, fun p hp => ?_, x.f.apart, x.f.outer, x.f.kind, x.f.gl, x.f.bi, x.f.kn, x.f.own, x.f.ck⟩⟩
  · rcases u.mem' x.l.nd p hp with rfl | ⟨hp, q⟩
    · exact ⟨hr, hne⟩
    · obtain ⟨c, d⟩ := x.l.led p hp
      exact ⟨c.at fun y e => hk _ y q e, d⟩
  · obtain ⟨m, c, d⟩ := x.f.vars
    exact ⟨m, c.sameBut hs hL, fun p hp => let ⟨v, e, f⟩ := d p hp; ⟨v, e, f.keeps (hcell _)⟩⟩
  · obtain ⟨⟨v, c⟩, d, e, f, g⟩ := x.f.cells p hp
    exact ⟨⟨v, hcell _ _ _ g c⟩, d, e, by rw [u.keys]; exact f, g⟩

/-- forgetting -/
theorem St.rho {G : Gx} {bs im : PM} {s : Shared} {ρ ρ' : Rho} {σ : Led} (x : St G bs im s ρ σ) (h : ∀ p ∈ ρ', p ∈ ρ) (hn : (ρ'.map (·.1)).Nodup) : St G bs im s ρ' σ :=
  ⟨x.l, ⟨let ⟨m, a, b⟩ := x.f.vars; ⟨m, a, fun p hp => b p (h p hp)⟩, hn, x.f.lbs, x.f.lim, x.f.lled, x.f.cells, x.f.apart, x.f.outer, x.f.kind, x.f.gl, x.f.bi, x.f.kn, x.f.own, x.f.ck⟩⟩
theorem StL.sub {C : Cx} {bs im : PM} {s : Shared} {σ σ' : Led} (x : StL C bs im s σ) (h : ∀ p ∈ σ', p ∈ σ) (hn : (σ'.map (·.1)).Nodup) : StL C bs im s σ' :=
  ⟨x.os, x.gens, x.cb, x.hbs, x.him, fun p hp => x.led p (h p hp), hn, x.gok⟩
theorem St.sub {G : Gx} {bs im : PM} {s : Shared} {ρ : Rho} {σ σ' : Led} (x : St G bs im s ρ σ) (h : ∀ p ∈ σ', p ∈ σ) (hn : (σ'.map (·.1)).Nodup) : St G bs im s ρ σ' := by
  have hm : ∀ a, a ∈ σ'.map (·.1) → a ∈ σ.map (·.1) := fun a ha => by obtain ⟨p, hp, rfl⟩ := List.mem_map.mp ha; exact List.mem_map_of_mem (h p hp)
  exact ⟨x.l.sub h hn, ⟨x.f.vars, x.f.rn, x.f.lbs, x.f.lim, fun q => x.f.lled (hm _ q), fun p hp => let ⟨a, b, c, d, e⟩ := x.f.cells p hp; ⟨a, b, c, fun q => d (hm _ q), e⟩, x.f.apart, x.f.outer, x.f.kind, x.f.gl, x.f.bi, x.f.kn, x.f.own, x.f.ck⟩⟩
end Mine
end
section
open PySem PySem.W PyProof.Rows PySem.Calls
set_option Elab.async false
set_option maxRecDepth 100000
namespace Mine

noncomputable def cs (x : String) : List Nat := (Str.ofString x).cps.toList

/-! names -/
inductive SetR (x : String) (p : PV) : Rho → Rho → Prop
  | nil : SetR x p [] [(x, p)]
  | head {q : PV} {r : Rho} : SetR x p ((x, q) :: r) ((x, p) :: r)
  | tail {y : String} {q : PV} {r r' : Rho} : y ≠ x → SetR x p r r' → SetR x p ((y, q) :: r) ((y, q) :: r')
theorem SetR.mem {x : String} {p : PV} {ρ ρ' : Rho} (u : SetR x p ρ ρ') (hn : (ρ.map (·.1)).Nodup) : ∀ q ∈ ρ', q = (x, p) ∨ (q ∈ ρ ∧ q.1 ≠ x) := by
  induction u with
  | nil => intro q hq; exact .inl (List.mem_singleton.mp hq)
  | head =>
    intro q hq
    rw [List.map_cons, List.nodup_cons] at hn
    rcases List.mem_cons.mp hq with rfl | hq
    · exact .inl rfl
    · exact .inr ⟨.tail _ hq, fun e => hn.1 (List.mem_map.mpr ⟨q, hq, e⟩)⟩
  | tail hne u ih =>
    intro q hq
    rw [List.map_cons, List.nodup_cons] at hn
    rcases List.mem_cons.mp hq with rfl | hq
    · exact .inr ⟨.head _, hne⟩
    · exact (ih hn.2 q hq).imp id fun ⟨a, b⟩ => ⟨.tail _ a, b⟩
theorem SetR.keys {x : String} {p : PV} {ρ ρ' : Rho} (u : SetR x p ρ ρ') : ∀ y, y ∈ ρ'.map (·.1) → y = x ∨ y ∈ ρ.map (·.1) := by
  induction u with
  | nil => intro y hy; exact .inl (List.mem_singleton.mp hy)
  | head => intro y hy; exact .inr hy
  | tail hne u ih =>
    intro y hy
    rw [List.map_cons] at hy ⊢
    rcases List.mem_cons.mp hy with e | hy
    · exact .inr (e ▸ .head _)
    · exact (ih y hy).imp id fun h => .tail _ h
theorem SetR.nodup {x : String} {p : PV} {ρ ρ' : Rho} (u : SetR x p ρ ρ') (hn : (ρ.map (·.1)).Nodup) : (ρ'.map (·.1)).Nodup := by
  induction u with
  | nil => exact List.nodup_cons.mpr ⟨List.not_mem_nil, List.nodup_nil⟩
  | head => exact hn
  | tail hne u ih =>
    rw [List.map_cons, List.nodup_cons] at hn ⊢
    exact ⟨fun h => (u.keys _ h).elim hne hn.1, ih hn.2⟩
theorem ofString_inj {a b : String} (h : Str.ofString a = Str.ofString b) : a = b := by
  rw [Str.ofString_eq_toList, Str.ofString_eq_toList] at h
  have h1 : a.toList.map Char.toNat = b.toList.map Char.toNat := by simpa using h
  have : a.toList = b.toList := by
    refine List.map_inj_right (fun x y e => ?_) |>.mp h1
    exact Char.toNat_inj.mp e
  exact String.toList_injective this

section
variable {G : Gx} {bs im : PM} {s : Shared} {ρ ρ' : Rho} {σ : Led}
theorem St.store_local (x : St G bs im s ρ σ) {y : String} {p : PV} {v : Value} {h' : Heap} (t : Nat) (hy : (y, NameKind.local) ∈ G.ns) (hv : VR im p v) (u : SetR y p ρ ρ')
    (hm : ∀ m, s.heap.Ns G.env.locals m → h'.Ns G.env.locals (fun z => if z = Str.ofString y then some v else m z)) (hs : Heap.SameBut G.env.locals s.heap h') :
    St G bs im { s with heap := h', toks := t } ρ' σ := by
  obtain ⟨hk, hp⟩ := x.f.kn _ hy
  have ne : ∀ b, (∃ o, bs b = some o) → b ≠ G.env.locals := fun b ⟨o, e⟩ q => by rw [q, x.f.lbs] at e; cases e
  have ni : ∀ b, (∃ o, im b = some o) → b ≠ G.env.locals := fun b ⟨o, e⟩ q => by rw [q, x.f.lim] at e; cases e
  have nl : ∀ p ∈ σ, p.1 ≠ G.env.locals := fun p hp q => x.f.lled (List.mem_map.mpr ⟨p, hp, q⟩)
  obtain ⟨ol, _, _, hol, hod⟩ := x.f.loc_some
  have hcell : ∀ c w, s.heap.IsCell c w → h'.IsCell c w := fun c w ⟨o, ho, hd⟩ => ⟨o, (hs.2 c (fun q => by rw [q, hol] at ho; cases ho; rw [hd] at hod; cases hod)).trans ho, hd⟩
  obtain ⟨m, hn, hr⟩ := x.f.vars
  refine ⟨⟨x.l.os, x.l.gens, x.l.cb, fun b o e => (hs.2 b (ne b ⟨o, e⟩)).trans (x.l.hbs b o e), fun b o e => (hs.2 b (ni b ⟨o, e⟩)).trans (x.l.him b o e), fun p hp => ?_, x.l.nd, x.l.gok⟩,
    ⟨⟨_, hm m hn, fun q hq => ?_⟩, u.nodup x.f.rn, x.f.lbs, x.f.lim, x.f.lled, fun p hp => ?_, x.f.apart, x.f.outer, x.f.kind, x.f.gl, x.f.bi, x.f.kn, x.f.own, x.f.ck⟩⟩
  · obtain ⟨a, b⟩ := x.l.led p hp
    exact ⟨a.at fun o e => (hs.2 _ (nl p hp)).trans e, b⟩
  · rcases u.mem x.f.rn q hq with rfl | ⟨hq, hne⟩
    · exact ⟨v, hv, hp, .loc hk (by simp)⟩
    · obtain ⟨w, a, b, c⟩ := hr q hq
      refine ⟨w, a, b, ?_⟩
      cases c with
      | loc c d => exact .loc c (by rw [if_neg (fun e => hne (ofString_inj e))]; exact d)
      | cell c d e f => exact .cell c d e (hcell _ _ f)
      | glob c d => exact .glob c d
  · obtain ⟨⟨w, a⟩, b⟩ := x.f.cells p hp
    exact ⟨⟨w, hcell _ _ a⟩, b⟩
theorem St.store_cell (x : St G bs im s ρ σ) {y : String} {p : PV} {v : Value} {c : Addr} {h' : Heap} (t : Nat) (hy : (y, NameKind.cell) ∈ G.ns) (hc : (Str.ofString y, c) ∈ G.κ) (hv : VR im p v) (u : SetR y p ρ ρ')
    (hm : h'.IsCell c (some v)) (hs : Heap.SameBut c s.heap h') :
    St G bs im { s with heap := h', toks := t } ρ' σ := by
  obtain ⟨hk, hp⟩ := x.f.kn _ hy
  obtain ⟨⟨w₀, hw₀⟩, cb, ci, cl, cl'⟩ := x.f.cells _ hc
  have ne : ∀ b, (∃ o, bs b = some o) → b ≠ c := fun b ⟨o, e⟩ q => by rw [q, cb] at e; cases e
  have ni : ∀ b, (∃ o, im b = some o) → b ≠ c := fun b ⟨o, e⟩ q => by rw [q, ci] at e; cases e
  have nl : ∀ p ∈ σ, p.1 ≠ c := fun p hp q => cl (List.mem_map.mpr ⟨p, hp, q⟩)
  obtain ⟨ol, _, _, hol, hod⟩ := x.f.loc_some
  have hLc : G.env.locals ≠ c := fun q => by obtain ⟨o, ho, hd⟩ := hw₀; rw [← q, hol] at ho; cases ho; rw [hod] at hd; cases hd
  have hcell : ∀ z c' w, G.env.cells.lookup z = some c' → z ≠ Str.ofString y → s.heap.IsCell c' w → h'.IsCell c' w := fun z c' w e q k => by
    refine k.sameBut hs ?_
    rcases x.f.outer z c' e with hz | hz
    · intro r; subst r; exact q (name_of_addr x.f.apart hz hc)
    · exact ne _ hz
  obtain ⟨m, hn, hr⟩ := x.f.vars
  refine ⟨⟨x.l.os, x.l.gens, x.l.cb, fun b o e => (hs.2 b (ne b ⟨o, e⟩)).trans (x.l.hbs b o e), fun b o e => (hs.2 b (ni b ⟨o, e⟩)).trans (x.l.him b o e), fun p hp => ?_, x.l.nd, x.l.gok⟩,
    ⟨⟨m, hn.sameBut hs hLc, fun q hq => ?_⟩, u.nodup x.f.rn, x.f.lbs, x.f.lim, x.f.lled, fun p hp => ?_, x.f.apart, x.f.outer, x.f.kind, x.f.gl, x.f.bi, x.f.kn, x.f.own, x.f.ck⟩⟩
  · obtain ⟨a, b⟩ := x.l.led p hp
    exact ⟨a.at fun o e => (hs.2 _ (nl p hp)).trans e, b⟩
  · rcases u.mem x.f.rn q hq with rfl | ⟨hq, hne⟩
    · exact ⟨v, hv, hp, .cell (.inl hk) c cl' hm⟩
    · obtain ⟨w, a, b, cc⟩ := hr q hq
      refine ⟨w, a, b, ?_⟩
      cases cc with
      | loc c d => exact .loc c d
      | cell c d e f => exact .cell c d e (hcell _ _ _ e (fun e => hne (ofString_inj e)) f)
      | glob c d => exact .glob c d
  · obtain ⟨⟨w, a⟩, b1, b2, b3, b4⟩ := x.f.cells p hp
    refine ⟨?_, b1, b2, b3, b4⟩
    by_cases q : p.1 = Str.ofString y
    · rw [q, cl'] at b4; cases b4; exact ⟨_, hm⟩
    · exact ⟨w, hcell _ _ _ b4 q a⟩
end

section
variable {G : Gx} {ρ ρ' : Rho} {σ : Led}

/-! constants, names -/
theorem Ev.int {i : Int} {k : Nat} {pos : Pos} {Q : PV → Rho → Led → Prop} (h : Q (.int i) ρ σ) : Ev G (.Constant (.int i) k pos) ρ σ Q :=
  fun _ _ _ _ _ hS => wpAny_Constant_int (.now (hS.toks _) .int h)
theorem Ev.str {x : String} {k : Nat} {pos : Pos} {Q : PV → Rho → Led → Prop} (h : Q (.str (cs x)) ρ σ) : Ev G (.Constant (.str (Str.ofString x)) k pos) ρ σ Q :=
  fun _ _ _ _ _ hS => Constant_str (.now (hS.toks _) VR.str' h)
theorem Ev.none {k : Nat} {pos : Pos} {Q : PV → Rho → Led → Prop} (h : Q .none ρ σ) : Ev G (.Constant .none k pos) ρ σ Q :=
  fun _ _ _ _ _ hS => Constant_none (.now hS .none h)
theorem Ev.bool {b : Bool} {k : Nat} {pos : Pos} {Q : PV → Rho → Led → Prop} (h : Q (.bool b) ρ σ) : Ev G (.Constant (.bool b) k pos) ρ σ Q :=
  fun _ _ _ _ _ hS => Constant_bool (.now hS .bool h)
theorem load_has {bs im : PM} {s : Shared} {A : Around} {E : Value → Shared → Prop} {Qv : Value → Shared → Prop} (hS : St G bs im s ρ σ) {x : String} {p : PV} (hx : (x, p) ∈ ρ) (h : ∀ v, VR im p v → Qv v s) :
    PlainName (Str.ofString x) ∧ wpAny G.C.M A (loadName G.env (Str.ofString x)) Qv E s := by
  obtain ⟨m, hn, hr⟩ := hS.f.vars
  obtain ⟨v, hv, hp, hh⟩ := hr _ hx
  refine ⟨hp, ?_⟩
  cases hh with
  | loc hk hm => exact wpAny_loadName_local hS.f.kind hk hn hm (h v hv)
  | cell hk c hc hcell =>
    rcases hk with hk | hk
    · exact wpAny_loadName_cell hS.f.kind hk hc hcell (h v hv)
    · exact wpAny_loadName_free hS.f.kind hk hc hcell (h v hv) hp.2
  | glob hk hg => exact hg _ _ _ _ _ hS.f.kind hS.f.gl hS.f.bi hk (fun a o e => hS.l.hbs a o (hS.l.cb a o e)) (h v hv)
theorem Ev.name {x : String} {pos : Pos} {p : PV} {Q : PV → Rho → Led → Prop} (hx : (x, p) ∈ ρ) (h : Q p ρ σ) : Ev G (.Name (Str.ofString x) pos) ρ σ Q :=
  fun A _ _ _ _ hS => by
    obtain ⟨hp, hl⟩ := load_has (A := A) (E := Bot) hS hx (fun v hv => Post.now (Q := Q) hS hv h)
    exact wpAny_Name hl hp.1
theorem Ev.debug {pos : Pos} {Q : PV → Rho → Led → Prop} (h : Q (.bool true) ρ σ) : Ev G (.Name (Str.ofString "__debug__") pos) ρ σ Q :=
  fun A _ _ _ _ hS => by
    show wpAny _ _ (do standAt pos; if ((Str.ofString "__debug__") == ("__debug__" : Str)) = true then debugConstant else loadName G.env (Str.ofString "__debug__")) _ _ _
    rw [if_pos (by decide)]
    exact wpAny_bind (wpAny_standAt (wpAny_bind (wpAny_rule (wpAny_pure (.now hS .bool h)))))

/-! operators -/
theorem Tr.then2 {α β γ R R' R'' : Type} {rel : PM → R → α → Prop} {rel' : PM → R' → β → Prop} {rel'' : PM → R'' → γ → Prop} {t : Sem α} {u : Sem β} {f : α → β → Sem γ} {Q : R'' → Rho → Led → Prop}
    (hmono : ∀ im im' r a, (∀ b o, im b = some o → im' b = some o) → rel im r a → rel im' r a)
    (h : Tr G rel t ρ σ (fun r ρ₁ σ₁ => Tr G rel' u ρ₁ σ₁ (fun r' ρ₂ σ₂ => ∀ A bs im s a b, AOk G.n A → St G bs im s ρ₂ σ₂ → rel im r a → rel' im r' b → wpAny G.C.M A (f a b) (Post G rel'' bs im Q) Bot s)))
    {A : Around} {bs im : PM} {s : Shared} (hA : AOk G.n A) (hS : St G bs im s ρ σ) :
    wpAny G.C.M A t (fun a s₁ => wpAny G.C.M A u (fun b s₂ => wpAny G.C.M A (f a b) (Post G rel'' bs im Q) Bot s₂) Bot s₁) Bot s :=
  wpAny_mono (h A bs im s hA hS) (fun a s₁ p => by
    obtain ⟨im₁, r, ρ₁, σ₁, e, hr, hS₁, hC⟩ := p
    refine wpAny_mono (hC A bs im₁ s₁ hA hS₁) (fun b s₂ p => ?_) fun _ _ x => x
    obtain ⟨im₂, r', ρ₂, σ₂, e', hr', hS₂, hD⟩ := p
    exact wpAny_mono (hD A bs im₂ s₂ a b hA hS₂ (hmono _ _ _ _ e'.1 hr) hr') (fun _ _ q => q.ext (e.trans e')) fun _ _ x => x) fun _ _ x => x
theorem Ev.then2 {e₁ e₂ : Expr} {f : Value → Value → Sem Value} {Q : PV → Rho → Led → Prop} (h : Ev G e₁ ρ σ (fun a ρ₁ σ₁ => Ev G e₂ ρ₁ σ₁ (fun b ρ₂ σ₂ => Op2 G f a b ρ₂ σ₂ Q)))
    {A : Around} {bs im : PM} {s : Shared} (hA : AOk G.n A) (hS : St G bs im s ρ σ) :
    wpAny G.C.M A (eval e₁ G.env) (fun a s₁ => wpAny G.C.M A (eval e₂ G.env) (fun b s₂ => wpAny G.C.M A (f a b) (Post G VR bs im Q) Bot s₂) Bot s₁) Bot s :=
  Tr.then2 (fun _ _ _ _ k x => x.mono k) h hA hS
theorem Ev.binop {l : Expr} {op : Operator} {r : Expr} {pos : Pos} {Q : PV → Rho → Led → Prop} (h : Ev G l ρ σ (fun a ρ₁ σ₁ => Ev G r ρ₁ σ₁ (fun b ρ₂ σ₂ => Op2 G (binaryOp op) a b ρ₂ σ₂ Q))) :
    Ev G (.BinOp l op r pos) ρ σ Q := fun _ _ _ _ hA hS => wpAny_BinOp (Ev.then2 h hA hS)
theorem Ev.compare {l : Expr} {op : CmpOp} {r : Expr} {pos : Pos} {Q : PV → Rho → Led → Prop} (h : Ev G l ρ σ (fun a ρ₁ σ₁ => Ev G r ρ₁ σ₁ (fun b ρ₂ σ₂ => Op2 G (compareOp op) a b ρ₂ σ₂ Q)))
    (hm : behindInMarks op r = false := by with_unfolding_all rfl) :
    Ev G (.Compare l [op] [r] pos) ρ σ Q := fun _ _ _ _ hA hS => wpAny_Compare1 (Ev.then2 h hA hS) hm
theorem Ev.unary {op : UnaryOp} {e : Expr} {pos : Pos} {Q : PV → Rho → Led → Prop} (h : Ev G e ρ σ (fun a ρ₁ σ₁ => Op1 G (unaryOp op) a ρ₁ σ₁ Q)) : Ev G (.UnaryOp op e pos) ρ σ Q :=
  fun _ _ _ _ hA hS => UnaryOp_ (Tr.then h hA hS)
theorem Op1.not {a : PV} {Q : PV → Rho → Led → Prop} (h : TrueOf G a ρ σ (fun b ρ₁ σ₁ => Q (.bool (!b)) ρ₁ σ₁)) : Op1 G (unaryOp .Not) a ρ σ Q :=
  fun A bs im s v hA hS hv => not_of (wpAny_mono (h A bs im s v hA hS hv) (fun b s' p => by
    obtain ⟨im', r, ρ', σ', e, hr, hS', hQ⟩ := p
    cases hr
    exact ⟨im', _, ρ', σ', e, .bool, hS', hQ⟩) fun _ _ x => x)

/-! truth -/
theorem TrueOf.bool {b : Bool} {Q : Bool → Rho → Led → Prop} (h : Q b ρ σ) : TrueOf G (.bool b) ρ σ Q :=
  fun _ _ _ _ v _ hS hv => by rw [hv.bool_i]; exact wpAny_truthy_bool (.now hS rfl h)
theorem TrueOf.none {Q : Bool → Rho → Led → Prop} (h : Q false ρ σ) : TrueOf G .none ρ σ Q :=
  fun _ _ _ _ v _ hS hv => by rw [hv.none_i]; exact truthy_none (.now hS rfl h)

theorem Ts.plain {e : Expr} {Q : Bool → Rho → Led → Prop} (h : Ev G e ρ σ (fun a ρ₁ σ₁ => TrueOf G a ρ₁ σ₁ Q))
    (he : isTrue e G.env (eval e G.env) = (do let v ← eval e G.env; standAt e.pos; holding [v] (truthy v)) := by rfl) : Ts G e ρ σ Q :=
  fun _ _ _ _ hA hS => isTrue_plain (Tr.then h hA hS) he
theorem Ts.compare {l : Expr} {op : CmpOp} {r : Expr} {pos : Pos} {Q : Bool → Rho → Led → Prop} (h : Ev G l ρ σ (fun a ρ₁ σ₁ => Ev G r ρ₁ σ₁ (fun b ρ₂ σ₂ => Op2 G (compareOp op) a b ρ₂ σ₂ (fun c ρ₃ σ₃ => TrueOf G c ρ₃ σ₃ Q))))
    (hm : behindInMarks op r = false := by with_unfolding_all rfl) :
    Ts G (.Compare l [op] [r] pos) ρ σ Q := fun A bs im s hA hS => by
  refine wpAny_isTrue_Compare1 (wpAny_mono (h A bs im s hA hS) (fun a s₁ p => ?_) fun _ _ x => x) hm
  obtain ⟨im₁, r, ρ₁, σ₁, e, hr, hS₁, hC⟩ := p
  refine wpAny_mono (hC A bs im₁ s₁ hA hS₁) (fun b s₂ p => ?_) fun _ _ x => x
  obtain ⟨im₂, r', ρ₂, σ₂, e', hr', hS₂, hD⟩ := p
  refine wpAny_mono (hD A bs im₂ s₂ a b hA hS₂ (hr.mono e'.1) hr') (fun c s₃ p => ?_) fun _ _ x => x
  obtain ⟨im₃, r'', ρ₃, σ₃, e'', hr'', hS₃, hE⟩ := p
  exact wpAny_mono (hE A bs im₃ s₃ c hA hS₃ hr'') (fun _ _ q => q.ext (e.trans (e'.trans e''))) fun _ _ x => x
theorem Ts.not {e : Expr} {pos : Pos} {Q : Bool → Rho → Led → Prop} (h : Ts G e ρ σ (fun b ρ₁ σ₁ => Q (!b) ρ₁ σ₁)) : Ts G (.UnaryOp .Not e pos) ρ σ Q :=
  fun A bs im s hA hS => isTrue_not (wpAny_mono (h A bs im s hA hS) (fun b s' p => by
    obtain ⟨im', r, ρ', σ', e, hr, hS', hQ⟩ := p
    cases hr
    exact ⟨im', _, ρ', σ', e, rfl, hS', hQ⟩) fun _ _ x => x)
/-- the tests of an 'and' / 'or' in a test -/
noncomputable def TsAll (G : Gx) (op : BoolOp) (es : List Expr) (ρ : Rho) (σ : Led) (Q : Bool → Rho → Led → Prop) : Prop := Tr G relB (allTrue op es G.env) ρ σ Q
theorem Ts.bool {op : BoolOp} {es : List Expr} {pos : Pos} {Q : Bool → Rho → Led → Prop} (h : TsAll G op es ρ σ Q) : Ts G (.BoolOp op es pos) ρ σ Q := h
theorem TsAll.nilAnd {Q : Bool → Rho → Led → Prop} (h : Q true ρ σ) : TsAll G .And [] ρ σ Q := fun _ _ _ _ _ hS => wpAny_pure (.now hS rfl h)
theorem TsAll.nilOr {Q : Bool → Rho → Led → Prop} (h : Q false ρ σ) : TsAll G .Or [] ρ σ Q := fun _ _ _ _ _ hS => wpAny_pure (.now hS rfl h)
theorem TsAll.and {e : Expr} {es : List Expr} {Q : Bool → Rho → Led → Prop} (h : Ts G e ρ σ (fun b ρ₁ σ₁ => if b then TsAll G .And es ρ₁ σ₁ Q else Q false ρ₁ σ₁)) : TsAll G .And (e :: es) ρ σ Q :=
  fun A bs im s hA hS => isTrue_and (pos := default) (whole := pure .none) (wpAny_mono (h A bs im s hA hS) (fun b s₁ p => by
    obtain ⟨im₁, r, ρ₁, σ₁, e, hr, hS₁, hC⟩ := p
    cases hr
    cases b with
    | false => exact ⟨im₁, false, ρ₁, σ₁, e, rfl, hS₁, hC⟩
    | true => exact wpAny_mono (hC A bs im₁ s₁ hA hS₁) (fun _ _ q => q.ext e) fun _ _ x => x) fun _ _ x => x)
theorem TsAll.or {e : Expr} {es : List Expr} {Q : Bool → Rho → Led → Prop} (h : Ts G e ρ σ (fun b ρ₁ σ₁ => if b then Q true ρ₁ σ₁ else TsAll G .Or es ρ₁ σ₁ Q)) : TsAll G .Or (e :: es) ρ σ Q :=
  fun A bs im s hA hS => isTrue_or (pos := default) (whole := pure .none) (wpAny_mono (h A bs im s hA hS) (fun b s₁ p => by
    obtain ⟨im₁, r, ρ₁, σ₁, e, hr, hS₁, hC⟩ := p
    cases hr
    cases b with
    | true => exact ⟨im₁, true, ρ₁, σ₁, e, rfl, hS₁, hC⟩
    | false => exact wpAny_mono (hC A bs im₁ s₁ hA hS₁) (fun _ _ q => q.ext e) fun _ _ x => x) fun _ _ x => x)

theorem Tr.ite {α R : Type} {rel : PM → R → α → Prop} {tst : Sem Bool} {t u : Sem α} {Q : R → Rho → Led → Prop} (h : Tr G relB tst ρ σ (fun b ρ₁ σ₁ => if b then Tr G rel t ρ₁ σ₁ Q else Tr G rel u ρ₁ σ₁ Q))
    {A : Around} {bs im : PM} {s : Shared} (hA : AOk G.n A) (hS : St G bs im s ρ σ) :
    wpAny G.C.M A tst (fun b s₁ => if b then wpAny G.C.M A t (Post G rel bs im Q) Bot s₁ else wpAny G.C.M A u (Post G rel bs im Q) Bot s₁) Bot s :=
  wpAny_mono (h A bs im s hA hS) (fun b s₁ p => by
    obtain ⟨im₁, r, ρ₁, σ₁, e, hr, hS₁, hC⟩ := p
    cases hr
    cases b with
    | true => exact wpAny_mono (hC A bs im₁ s₁ hA hS₁) (fun _ _ q => q.ext e) fun _ _ x => x
    | false => exact wpAny_mono (hC A bs im₁ s₁ hA hS₁) (fun _ _ q => q.ext e) fun _ _ x => x) fun _ _ x => x
theorem Ev.ifexp {test body orelse : Expr} {pos : Pos} {Q : PV → Rho → Led → Prop} (h : Ts G test ρ σ (fun b ρ₁ σ₁ => if b then Ev G body ρ₁ σ₁ Q else Ev G orelse ρ₁ σ₁ Q)) : Ev G (.IfExp test body orelse pos) ρ σ Q :=
  fun _ _ _ _ hA hS => wpAny_IfExp (Tr.ite h hA hS)
theorem Ts.ifexp {test body orelse : Expr} {pos : Pos} {Q : Bool → Rho → Led → Prop} (h : Ts G test ρ σ (fun b ρ₁ σ₁ => if b then Ts G body ρ₁ σ₁ Q else Ts G orelse ρ₁ σ₁ Q)) : Ts G (.IfExp test body orelse pos) ρ σ Q :=
  fun _ _ _ _ hA hS => isTrue_IfExp (Tr.ite h hA hS)
/-- 'and', 'or' for their value -/
theorem Ev.boolOne {op : BoolOp} {e : Expr} {pos : Pos} {Q : PV → Rho → Led → Prop} (h : Ev G e ρ σ Q) : Ev G (.BoolOp op [e] pos) ρ σ Q := h
theorem Ev.and {e₁ e₂ : Expr} {rest : List Expr} {pos : Pos} {Q : PV → Rho → Led → Prop} (h : Ev G e₁ ρ σ (fun a ρ₁ σ₁ => TrueOf G a ρ₁ σ₁ (fun b ρ₂ σ₂ => if b then Ev G (.BoolOp .And (e₂ :: rest) pos) ρ₂ σ₂ Q else Q a ρ₂ σ₂))) :
    Ev G (.BoolOp .And (e₁ :: e₂ :: rest) pos) ρ σ Q := fun A bs im s hA hS => BoolOp_and (wpAny_mono (h A bs im s hA hS) (fun v s₁ p => by
    obtain ⟨im₁, r, ρ₁, σ₁, e, hr, hS₁, hC⟩ := p
    refine wpAny_mono (hC A bs im₁ s₁ v hA hS₁ hr) (fun b s₂ p => ?_) fun _ _ x => x
    obtain ⟨im₂, r', ρ₂, σ₂, e', hr', hS₂, hD⟩ := p
    cases hr'
    cases b with
    | true => exact wpAny_mono (hD A bs im₂ s₂ hA hS₂) (fun _ _ q => q.ext (e.trans e')) fun _ _ x => x
    | false => exact ⟨im₂, _, ρ₂, σ₂, e.trans e', hr.mono e'.1, hS₂, hD⟩) fun _ _ x => x)
theorem Ev.or {e₁ e₂ : Expr} {rest : List Expr} {pos : Pos} {Q : PV → Rho → Led → Prop} (h : Ev G e₁ ρ σ (fun a ρ₁ σ₁ => TrueOf G a ρ₁ σ₁ (fun b ρ₂ σ₂ => if b then Q a ρ₂ σ₂ else Ev G (.BoolOp .Or (e₂ :: rest) pos) ρ₂ σ₂ Q))) :
    Ev G (.BoolOp .Or (e₁ :: e₂ :: rest) pos) ρ σ Q := fun A bs im s hA hS => BoolOp_or (wpAny_mono (h A bs im s hA hS) (fun v s₁ p => by
    obtain ⟨im₁, r, ρ₁, σ₁, e, hr, hS₁, hC⟩ := p
    refine wpAny_mono (hC A bs im₁ s₁ v hA hS₁ hr) (fun b s₂ p => ?_) fun _ _ x => x
    obtain ⟨im₂, r', ρ₂, σ₂, e', hr', hS₂, hD⟩ := p
    cases hr'
    cases b with
    | false => exact wpAny_mono (hD A bs im₂ s₂ hA hS₂) (fun _ _ q => q.ext (e.trans e')) fun _ _ x => x
    | true => exact ⟨im₂, _, ρ₂, σ₂, e.trans e', hr.mono e'.1, hS₂, hD⟩) fun _ _ x => x)

/-! stores -/
noncomputable abbrev As (G : Gx) (t : Expr) (p : PV) (ρ : Rho) (σ : Led) (Q : Rho → Led → Prop) : Prop := Con G VR p (fun v => assign t G.env v) relU ρ σ (fun _ ρ' σ' => Q ρ' σ')
theorem store_con {y : String} {p : PV} {Q : Rho → Led → Prop} (hy : (y, NameKind.local) ∈ G.ns) (u : SetR y p ρ ρ') (h : Q ρ' σ) :
    Con G VR p (fun v => storeName G.env (Str.ofString y) v) relU ρ σ (fun _ ρ' σ' => Q ρ' σ') := fun A bs im s v hA hS hv => by
  obtain ⟨m, hn, hr⟩ := hS.f.vars
  refine wpAny_storeName_local (hS.f.kn _ hy).1 hn (fun h' hn' hs' => ?_) (by rw [hS.f.kind]; rfl)
  refine .now (r := ()) (hS.store_local _ hy hv u (fun m₂ hn₂ => ?_) hs') trivial h
  have e : m₂ = m := by
    obtain ⟨o, es, ep, a, b, c, d⟩ := hn
    obtain ⟨o', es', ep', a', b', c', d'⟩ := hn₂
    rw [a] at a'; cases a'; rw [b] at b'; cases b'
    funext z; rw [← d, ← d']
  rw [e]; exact hn'
theorem storeC_con {y : String} {p : PV} {Q : Rho → Led → Prop} (hy : (y, NameKind.cell) ∈ G.ns) (u : SetR y p ρ ρ') (h : Q ρ' σ) :
    Con G VR p (fun v => storeName G.env (Str.ofString y) v) relU ρ σ (fun _ ρ' σ' => Q ρ' σ') := fun A bs im s v hA hS hv => by
  obtain ⟨c, hc⟩ := hS.f.own _ hy rfl
  obtain ⟨⟨w, hw⟩, _, _, _, hl⟩ := hS.f.cells _ hc
  exact wpAny_storeName_cell hS.f.kind (hS.f.kn _ hy).1 hl hw fun h' hv' hs' => .now (r := ()) (hS.store_cell (v := v) s.toks hy hc hv u hv' hs') trivial h
theorem As.name {y : String} {pos : Pos} {p : PV} {Q : Rho → Led → Prop} (hy : (y, NameKind.local) ∈ G.ns) (u : SetR y p ρ ρ') (h : Q ρ' σ) : As G (.Name (Str.ofString y) pos) p ρ σ Q :=
  fun A bs im s v hA hS hv => wpAny_assign_Name (store_con hy u h A bs im s v hA hS hv)
theorem As.nameC {y : String} {pos : Pos} {p : PV} {Q : Rho → Led → Prop} (hy : (y, NameKind.cell) ∈ G.ns) (u : SetR y p ρ ρ') (h : Q ρ' σ) : As G (.Name (Str.ofString y) pos) p ρ σ Q :=
  fun A bs im s v hA hS hv => wpAny_assign_Name (storeC_con hy u h A bs im s v hA hS hv)

/-! statements -/
theorem Ex.nil {Q : Fl → Rho → Led → Prop} (h : Q .next ρ σ) : Ex G [] ρ σ Q := fun _ _ _ _ _ hS => wpAny_execs_nil (.now (r := Fl.next) hS rfl h)
theorem Ex.cons {st : Stmt} {rest : List Stmt} {Q : Fl → Rho → Led → Prop} (h : Ex1 G st ρ σ (fun fl ρ₁ σ₁ => match fl with | .next => Ex G rest ρ₁ σ₁ Q | fl => Q fl ρ₁ σ₁)) : Ex G (st :: rest) ρ σ Q :=
  fun A bs im s hA hS => wpAny_execs_cons (wpAny_mono (h A bs im s hA hS) (fun f s₁ p => by
    obtain ⟨im₁, fl, ρ₁, σ₁, e, hr, hS₁, hC⟩ := p
    cases fl with
    | next => cases hr; exact wpAny_mono (hC A bs im₁ s₁ hA hS₁) (fun _ _ q => q.ext e) fun _ _ x => x
    | brk => cases hr; exact ⟨im₁, .brk, ρ₁, σ₁, e, rfl, hS₁, hC⟩
    | cont => cases hr; exact ⟨im₁, .cont, ρ₁, σ₁, e, rfl, hS₁, hC⟩
    | ret v => obtain ⟨w, rfl, hw⟩ := hr; exact ⟨im₁, .ret v, ρ₁, σ₁, e, ⟨w, rfl, hw⟩, hS₁, hC⟩) fun _ _ x => x)
theorem Ex1.pass {pos : Pos} {Q : Fl → Rho → Led → Prop} (h : Q .next ρ σ) : Ex1 G (.Pass pos) ρ σ Q := fun _ _ _ _ _ hS => wpAny_Pass (.now (r := Fl.next) hS rfl h)
theorem Ex1.brk {pos : Pos} {Q : Fl → Rho → Led → Prop} (h : Q .brk ρ σ) : Ex1 G (.Break pos) ρ σ Q := fun _ _ _ _ _ hS => wpAny_Break (.now (r := Fl.brk) hS rfl h)
theorem Ex1.cont {pos : Pos} {Q : Fl → Rho → Led → Prop} (h : Q .cont ρ σ) : Ex1 G (.Continue pos) ρ σ Q := fun _ _ _ _ _ hS => wpAny_Continue (.now (r := Fl.cont) hS rfl h)
theorem Ex1.ret {e : Expr} {pos : Pos} {Q : Fl → Rho → Led → Prop} (h : Ev G e ρ σ (fun p ρ₁ σ₁ => Q (.ret p) ρ₁ σ₁)) : Ex1 G (.Return (some e) pos) ρ σ Q :=
  fun A bs im s hA hS => wpAny_Return_some (wpAny_mono (h A bs im s hA hS) (fun v s₁ p => by
    obtain ⟨im₁, r, ρ₁, σ₁, e, hr, hS₁, hC⟩ := p
    exact ⟨im₁, .ret r, ρ₁, σ₁, e, ⟨v, rfl, hr⟩, hS₁, hC⟩) fun _ _ x => x)
theorem Ex1.if {test : Expr} {body orelse : List Stmt} {pos : Pos} {Q : Fl → Rho → Led → Prop} (h : Ts G test ρ σ (fun b ρ₁ σ₁ => if b then Ex G body ρ₁ σ₁ Q else Ex G orelse ρ₁ σ₁ Q)) : Ex1 G (.If test body orelse pos) ρ σ Q :=
  fun _ _ _ _ hA hS => wpAny_If (Tr.ite h hA hS)
theorem Ex1.assert {test : Expr} {msg : Option Expr} {pos : Pos} {Q : Fl → Rho → Led → Prop} (h : Ts G test ρ σ (fun b ρ₁ σ₁ => b = true ∧ Q .next ρ₁ σ₁)) : Ex1 G (.Assert test msg pos) ρ σ Q :=
  fun A bs im s hA hS => wpAny_Assert_holds (wpAny_mono (h A bs im s hA hS) (fun b s₁ p => by
    obtain ⟨im₁, r, ρ₁, σ₁, e, hr, hS₁, hC⟩ := p
    cases hr
    exact ⟨hC.1, im₁, .next, ρ₁, σ₁, e, rfl, hS₁, hC.2⟩) fun _ _ x => x)
/-- x = e (e no comprehension), also self.x = e, xs[i] = e -/
theorem Tr.thenNext {t : Sem Unit} {Q : Fl → Rho → Led → Prop} {A : Around} {bs im : PM} {s : Shared} (h : wpAny G.C.M A t (Post G relU bs im fun _ ρ₂ σ₂ => Q .next ρ₂ σ₂) Bot s) : wpAny G.C.M A (t >>= fun _ => pure Flow.next) (Post G FlR bs im Q) Bot s :=
  wpAny_bind (wpAny_mono h (fun _ s₂ p => by
    obtain ⟨im₂, r, ρ₂, σ₂, e, hr, hS₂, hC⟩ := p
    exact wpAny_pure ⟨im₂, .next, ρ₂, σ₂, e, rfl, hS₂, hC⟩) fun _ _ x => x)
theorem Ex1.asg {t value : Expr} {pos : Pos} {Q : Fl → Rho → Led → Prop} (h : Ev G value ρ σ (fun p ρ₁ σ₁ => As G t p ρ₁ σ₁ (fun ρ₂ σ₂ => Q .next ρ₂ σ₂)))
    (hs : swapsWithSole [t] value pos.line G.env = pure false := by rfl) (hw : swappedStores [t] value G.env = pure none := by rfl) (ht : (assignEach [t] G.env).map (·.2) = [assign t G.env] := by rfl) : Ex1 G (.Assign [t] value pos) ρ σ Q :=
  fun A bs im s hA hS => by
    show wpAny _ _ (exec (.Assign [t] value pos) G.env) _ _ _
    rw [PyProof.Rows.exec_Assign]
    refine wpAny_bind (wpAny_standAt ?_)
    rw [hs]
    refine wpAny_bind (wpAny_pure ?_)
    rw [if_neg (by decide)]
    refine wpAny_bind (wpAny_mono (Tr.then h hA hS) (fun v s₁ h₁ => ?_) fun _ _ x => x)
    rw [hw]
    refine wpAny_bind (wpAny_pure ?_)
    rw [ht]
    exact Tr.thenNext h₁
/-- x op= e -/
theorem Ex1.aug {y : String} {pos' : Pos} {op : Operator} {value : Expr} {pos : Pos} {p : PV} {Q : Fl → Rho → Led → Prop} (hy : (y, p) ∈ ρ)
    (h : Ev G value ρ σ (fun q ρ₁ σ₁ => Op2 G (inplaceOp op) p q ρ₁ σ₁ (fun r ρ₂ σ₂ => Con G VR r (fun v => storeName G.env (Str.ofString y) v) relU ρ₂ σ₂ (fun _ ρ₃ σ₃ => Q .next ρ₃ σ₃)))) :
    Ex1 G (.AugAssign (.Name (Str.ofString y) pos') op value pos) ρ σ Q := fun A bs im s hA hS => by
  refine wpAny_AugAssign_Name (load_has hS hy (fun v hv => ?_)).2
  refine wpAny_mono (h A bs im s hA hS) (fun w s₁ q => ?_) fun _ _ x => x
  obtain ⟨im₁, r, ρ₁, σ₁, e, hr, hS₁, hC⟩ := q
  refine wpAny_mono (hC A bs im₁ s₁ v w hA hS₁ (hv.mono e.1) hr) (fun z s₂ q => ?_) fun _ _ x => x
  obtain ⟨im₂, r₂, ρ₂, σ₂, e₂, hr₂, hS₂, hD⟩ := q
  refine wpAny_mono (hD A bs im₂ s₂ z hA hS₂ hr₂) (fun _ s₃ q => ?_) fun _ _ x => x
  obtain ⟨im₃, r₃, ρ₃, σ₃, e₃, hr₃, hS₃, hE⟩ := q
  exact ⟨im₃, .next, ρ₃, σ₃, e.trans (e₂.trans e₃), rfl, hS₃, hE⟩
theorem Ex1.expr {e : Expr} {pos : Pos} {Q : Fl → Rho → Led → Prop} (h : Ev G e ρ σ (fun p ρ₁ σ₁ => p = .none ∧ Q .next ρ₁ σ₁)) (hs : swapsWith e none pos.line G.env = pure false := by rfl) :
    Ex1 G (.Expr e pos) ρ σ Q := fun A bs im s hA hS => by
  have hi : interactive G.env = false := by unfold interactive; rw [hS.f.kind]; rfl
  refine wpAny_Expr (wpAny_mono (h A bs im s hA hS) (fun v s₁ p => ?_) fun _ _ x => x) hi hs
  obtain ⟨im₁, r, ρ₁, σ₁, e, hr, hS₁, rfl, hC⟩ := p
  rw [hr.none_i]
  exact ⟨im₁, .next, ρ₁, σ₁, e, rfl, hS₁, hC⟩

/-! loops -/
theorem notedBot {A : Around} {env : Env} {E : Value → Shared → Prop} {M : Model} {v : Value} {s : Shared} (h : Bot v s) : notedBy M A env E v s := h.elim
theorem Ex1.while {test : Expr} {body : List Stmt} {pos : Pos} {Q : Fl → Rho → Led → Prop} (I : Nat → Rho → Led → Prop)
    (turn : ∀ k ρ σ, I k ρ σ → Ts G test ρ σ (fun b ρ₁ σ₁ => if b then Ex G body ρ₁ σ₁ (fun fl ρ₂ σ₂ => match fl with | .next | .cont => ∃ m, m < k ∧ I m ρ₂ σ₂ | .brk => Q .next ρ₂ σ₂ | .ret v => Q (.ret v) ρ₂ σ₂) else Q .next ρ₁ σ₁))
    (k : Nat) (h : I k ρ σ) : Ex1 G (.While test body [] pos) ρ σ Q := fun A bs im s hA hS => by
  refine wpAny_While ?_
  refine codeAny_whileLoop (fun n s' => ∃ im' ρ' σ', Ext bs im im' ∧ St G bs im' s' ρ' σ' ∧ I n ρ' σ') ?_ k ⟨im, ρ, σ, .refl, hS, h⟩
  rintro n s' ⟨im', ρ', σ', e, hS', hI⟩
  refine wpAny_mono (turn n ρ' σ' hI A bs im' s' hA hS') (fun b s₂ p => ?_) fun _ _ x => notedBot x
  obtain ⟨im₂, r, ρ₂, σ₂, e₂, hr, hS₂, hC⟩ := p
  cases hr
  cases b with
  | false => exact wpAny_execs_nil ⟨im₂, .next, ρ₂, σ₂, e.trans e₂, rfl, hS₂, hC⟩
  | true =>
    refine wpAny_mono (hC A bs im₂ s₂ hA hS₂) (fun f s₃ p => ?_) fun _ _ x => notedBot x
    obtain ⟨im₃, fl, ρ₃, σ₃, e₃, hr₃, hS₃, hD⟩ := p
    have ee := e.trans (e₂.trans e₃)
    cases fl with
    | next => cases hr₃; obtain ⟨m, hm, hI'⟩ := hD; exact ⟨m, hm, im₃, ρ₃, σ₃, ee, hS₃, hI'⟩
    | cont => cases hr₃; obtain ⟨m, hm, hI'⟩ := hD; exact ⟨m, hm, im₃, ρ₃, σ₃, ee, hS₃, hI'⟩
    | brk => cases hr₃; exact ⟨im₃, .next, ρ₃, σ₃, ee, rfl, hS₃, hD⟩
    | ret v => obtain ⟨w, rfl, hw⟩ := hr₃; exact ⟨im₃, .ret v, ρ₃, σ₃, ee, ⟨w, rfl, hw⟩, hS₃, hD⟩
end
end Mine
end
section
open PySem PySem.W PyProof.Rows PySem.Calls
set_option Elab.async false
set_option maxRecDepth 100000
namespace Mine

/-- the heap changes only at places that the state does not speak of -/
theorem St.off {G : Gx} {bs im : PM} {s : Shared} {ρ : Rho} {σ : Led} (x : St G bs im s ρ σ) {W : Addr → Prop} {h' : Heap} (t : Nat) (hk : ∀ b o, ¬ W b → s.heap.get? b = some o → h'.get? b = some o)
    (wb : ∀ b, W b → bs b = none) (wi : ∀ b, W b → im b = none) (ws : ∀ b, W b → b ∉ σ.map (·.1)) (wl : ¬ W G.env.locals) (wk : ∀ p ∈ G.κ, ¬ W p.2) : St G bs im { s with heap := h', toks := t } ρ σ := by
  have nb : ∀ b o, bs b = some o → ¬ W b := fun b o e q => by rw [wb b q] at e; cases e
  have ni : ∀ b o, im b = some o → ¬ W b := fun b o e q => by rw [wi b q] at e; cases e
  have hcell : ∀ y c w, G.env.cells.lookup y = some c → s.heap.IsCell c w → h'.IsCell c w := fun y c w e ⟨o, ho, hd⟩ => by
    have hc : ¬ W c := by
      rcases x.f.outer y c e with q | ⟨o, q⟩
      · exact wk _ q
      · exact nb _ _ q
    exact ⟨o, hk c o hc ho, hd⟩
  refine ⟨⟨x.l.os, x.l.gens, x.l.cb, fun b o e => hk b o (nb b o e) (x.l.hbs b o e), fun b o e => hk b o (ni b o e) (x.l.him b o e), fun p hp => ?_, x.l.nd, x.l.gok⟩,
    ⟨?_, x.f.rn, x.f.lbs, x.f.lim, x.f.lled, fun p hp => ?_, x.f.apart, x.f.outer, x.f.kind, x.f.gl, x.f.bi, x.f.kn, x.f.own, x.f.ck⟩⟩
  · obtain ⟨c, d⟩ := x.l.led p hp
    exact ⟨c.at fun y e => hk _ y (fun q => ws _ q (List.mem_map_of_mem hp)) e, d⟩
  · obtain ⟨m, ⟨o, es, ep, a, b⟩, d⟩ := x.f.vars
    exact ⟨m, ⟨o, es, ep, hk _ _ wl a, b⟩, fun p hp => let ⟨v, e, f⟩ := d p hp; ⟨v, e, f.keeps (hcell _)⟩⟩
  · obtain ⟨⟨v, c⟩, d, e, f, g⟩ := x.f.cells p hp
    exact ⟨⟨v, hcell _ _ _ g c⟩, d, e, f, g⟩

/-- a larger base: what stands at some places is kept -/
noncomputable def PM.over (bs : PM) (F : Addr → Prop) [DecidablePred F] (h : Heap) : PM := fun b => if F b then h.get? b else bs b
theorem St.over {G : Gx} {bs im : PM} {s : Shared} {ρ : Rho} {σ : Led} (x : St G bs im s ρ σ) (F : Addr → Prop) [DecidablePred F] (fs : ∀ b, F b → b ∉ σ.map (·.1)) (fl : ¬ F G.env.locals) (fk : ∀ p ∈ G.κ, ¬ F p.2) :
    St G (bs.over F s.heap) im s ρ σ := by
  have sub : ∀ b o, bs b = some o → bs.over F s.heap b = some o := fun b o e => by
    unfold PM.over; split
    · exact x.l.hbs b o e
    · exact e
  refine ⟨⟨x.l.os, x.l.gens, fun a o e => sub a o (x.l.cb a o e), fun b o e => ?_, x.l.him, fun p hp => ?_, x.l.nd, x.l.gok⟩, ⟨x.f.vars, x.f.rn, ?_, x.f.lim, x.f.lled, fun p hp => ?_, x.f.apart, fun y c e => ?_, x.f.kind, x.f.gl, x.f.bi, x.f.kn, x.f.own, x.f.ck⟩⟩
  · unfold PM.over at e; split at e
    · exact e
    · exact x.l.hbs b o e
  · obtain ⟨a, b, c⟩ := x.l.led p hp
    exact ⟨a, by unfold PM.over; rw [if_neg (fun q => fs _ q (List.mem_map_of_mem hp))]; exact b, c⟩
  · unfold PM.over; rw [if_neg fl]; exact x.f.lbs
  · obtain ⟨a, b, c⟩ := x.f.cells p hp
    exact ⟨a, by unfold PM.over; rw [if_neg (fk p hp)]; exact b, c⟩
  · exact (x.f.outer y c e).imp id fun ⟨o, q⟩ => ⟨o, sub _ _ q⟩
theorem PM.over_sub {bs : PM} {F : Addr → Prop} [DecidablePred F] {h : Heap} (hb : ∀ b o, bs b = some o → h.get? b = some o) : ∀ b o, bs b = some o → bs.over F h b = some o := fun b o e => by
  unfold PM.over; split
  · exact hb b o e
  · exact e
/-- and the smaller base again -/
theorem St.under {G : Gx} {bs bs' im : PM} {s : Shared} {ρ : Rho} {σ : Led} (x : St G bs' im s ρ σ) (sub : ∀ b o, bs b = some o → bs' b = some o) (cb : ∀ a o, G.C.base a = some o → bs a = some o)
    (out : ∀ y c, G.env.cells.lookup y = some c → (y, c) ∈ G.κ ∨ ∃ o, bs c = some o) : St G bs im s ρ σ := by
  have none_of : ∀ b, bs' b = none → bs b = none := fun b e => by cases q : bs b with | none => rfl | some o => rw [sub b o q] at e; cases e
  exact ⟨⟨x.l.os, x.l.gens, cb, fun b o e => x.l.hbs b o (sub b o e), x.l.him, fun p hp => let ⟨a, b, c⟩ := x.l.led p hp; ⟨a, none_of _ b, c⟩, x.l.nd, x.l.gok⟩,
    ⟨x.f.vars, x.f.rn, none_of _ x.f.lbs, x.f.lim, x.f.lled, fun p hp => let ⟨a, b, c⟩ := x.f.cells p hp; ⟨a, none_of _ b, c⟩, x.f.apart, out, x.f.kind, x.f.gl, x.f.bi, x.f.kn, x.f.own, x.f.ck⟩⟩
theorem Ext.under {bs bs' im im' : PM} (x : Ext bs' im im') (sub : ∀ b o, bs b = some o → bs' b = some o) : Ext bs im im' :=
  ⟨x.1, fun a e => (x.2 a e).imp id fun q => by cases z : bs a with | none => rfl | some o => rw [sub a o z] at q; cases q⟩

/-- an iterable: its items; σf: the ledger's part that it takes; σr: what of it comes back -/
structure IsIt (G : Gx) (A : Around) (im : PM) (h : Heap) (σf σr : Led) (items : List PV) (I : Addr) (fp : List Addr) (P : Nat → Value → Prop) (S : Nat → Heap → Prop) : Prop where
  walks : Walks G.C.prog G.C.w A I fp [I] items.length P S
  st : S 0 h
  fpI : I ∈ fp
  fps : ∀ b ∈ fp, b ≠ I → (∃ o, im b = some o) ∨ (b ∈ σf.map (·.1) ∧ b ∈ σr.map (·.1))
  back : ∀ p ∈ σr, p ∈ σf ∧ p.1 ∈ fp ∧ p.1 ≠ I
  has : ∀ i h, S i h → ∃ o, h.get? I = some o
  item : ∀ im' i v, (∀ a o, im a = some o → im' a = some o) → P i v → ∀ p, items[i]? = some p → VR im' p v
  go : ∀ target i v (s : Shared) (Q : Unit → Shared → Prop), S i s.heap → (∀ h', S i h' → Heap.SameBut I s.heap h' → Q () { s with heap := h' }) → wpAny G.C.M A (letOwnedTupleGo target (.ref I) v) Q Bot s

noncomputable def ItSrc (G : Gx) (p : PV) (σf σr : Led) (items : List PV) : Prop :=
  ∀ A bs im s ρ σ v (Q : Value → Shared → Prop), AOk G.n A → St G bs im s ρ (σf ++ σ) → VR im p v →
    (∀ I h' tk fp P S, (∀ b o, s.heap.get? b = some o → h'.get? b = some o) → (s.heap.get? I = none ∨ I ∈ σf.map (·.1)) → (∃ o, h'.get? I = some o) → IsIt G A im h' σf σr items I fp P S → Q (.ref I) { s with heap := h', toks := tk }) →
    wpAny G.C.M A (pyIter v) Q Bot s

noncomputable def ForT (G : Gx) (target : Expr) (body : List Stmt) : List PV → Rho → Led → (Fl → Rho → Led → Prop) → Prop
  | [], ρ, σ, Q => Q .next ρ σ
  | x :: xs, ρ, σ, Q => As G target x ρ σ (fun ρ₁ σ₁ => Ex G body ρ₁ σ₁ (fun fl ρ₂ σ₂ => match fl with | .next | .cont => ForT G target body xs ρ₂ σ₂ Q | .brk => Q .next ρ₂ σ₂ | .ret v => Q (.ret v) ρ₂ σ₂))

/-- the state beside a running iterator -/
structure Loop (G : Gx) (A : Around) (im₀ bs im : PM) (h₀ : Heap) (s : Shared) (σf σr : Led) (items : List PV) (I : Addr) (fp : List Addr) (P : Nat → Value → Prop) (S : Nat → Heap → Prop) (i : Nat) (ρ : Rho) (σ : Led) : Prop where
  st : St G bs im s ρ σ
  ext : Ext bs im₀ im
  si : S i s.heap
  old : ∀ b ∈ fp, b ≠ I → ∀ o, h₀.get? b = some o → s.heap.get? b = some o
  ib : bs I = none
  ii : im I = none
  is : ∀ b ∈ fp, b ∉ σ.map (·.1)
  ifr : ∀ b ∈ σr.map (·.1), im b = none

theorem mem_map_fst {σ : Led} {p : Addr × LO} (h : p ∈ σ) : p.1 ∈ σ.map (·.1) := List.mem_map_of_mem h

section
variable {G : Gx} {A : Around} {bs im₀ im : PM} {h₀ : Heap} {s : Shared} {ρ : Rho} {σ σf σr : Led} {items : List PV} {I : Addr} {fp : List Addr} {P : Nat → Value → Prop} {S : Nat → Heap → Prop} {i : Nat}

/-- one turn: the body runs over the larger base -/
theorem Loop.body {α R : Type} {rel : PM → R → α → Prop} {t : Sem α} {Q : R → Rho → Led → Prop} (x : Loop G A im₀ bs im h₀ s σf σr items I fp P S i ρ σ) (hW : Walks G.C.prog G.C.w A I fp [I] items.length P S)
    (hl : G.env.locals ∉ fp) (hk : ∀ p ∈ G.κ, p.2 ∉ fp) (hsr : ∀ b ∈ σr.map (·.1), b ∈ fp) (hso : ∀ b ∈ fp, ∃ o, s.heap.get? b = some o) (h : ∀ bs', St G bs' im s ρ σ → wpAny G.C.M A t (Post G rel bs' im Q) Bot s) :
    wpAny G.C.M A t (fun a s' => ∃ im' r ρ' σ', Loop G A im₀ bs im' h₀ s' σf σr items I fp P S i ρ' σ' ∧ Ext bs im im' ∧ rel im' r a ∧ Q r ρ' σ') Bot s := by
  have y := x.st.over (fun b => b ∈ fp) (fun b hb => x.is b hb) hl hk
  have sub := PM.over_sub (F := fun b => b ∈ fp) x.st.l.hbs
  refine wpAny_mono (h _ y) (fun a s' p => ?_) fun _ _ e => e
  obtain ⟨im', r, ρ', σ', e, hr, hS', hQ⟩ := p
  have e' := e.under sub
  have fpk : ∀ b ∈ fp, ∀ o, s.heap.get? b = some o → s'.heap.get? b = some o := fun b hb o q => hS'.l.hbs b o (by unfold PM.over; rw [if_pos hb]; exact q)
  have fpn : ∀ b ∈ fp, bs.over (fun b => b ∈ fp) s.heap b ≠ none := fun b hb q => by
    obtain ⟨o, ho⟩ := hso b hb
    unfold PM.over at q; rw [if_pos hb, ho] at q; cases q
  refine ⟨im', r, ρ', σ', ⟨hS'.under sub x.st.l.cb x.st.f.outer, x.ext.trans e', hW.frame _ _ _ x.si fpk, fun b hb hbI o q => fpk b hb o (x.old b hb hbI o q), x.ib, ?_, fun b hb q => ?_, fun b hb => ?_⟩, e', hr, hQ⟩
  · cases q : im' I with
    | none => rfl
    | some o => exact absurd (x.ii) ((e.2 I (by rw [q]; simp)).resolve_right (fpn I (hW.sub I (List.mem_singleton.mpr rfl))))
  · obtain ⟨p, hp, rfl⟩ := List.mem_map.mp q
    exact fpn _ hb (hS'.l.led p hp).2.1
  · cases q : im' b with
    | none => rfl
    | some o => exact absurd (x.ifr b hb) ((e.2 b (by rw [q]; simp)).resolve_right (fpn b (hsr b hb)))

theorem For.loop {target : Expr} {body : List Stmt} {pos : Pos} {Q : Fl → Rho → Led → Prop} (hA : AOk G.n A) (hI : IsIt G A im₀ h₀ σf σr items I fp P S) (hW : Walks G.C.prog G.C.w A I fp [I] items.length P S)
    (hl : G.env.locals ∉ fp) (hk : ∀ p ∈ G.κ, p.2 ∉ fp) (hsr : ∀ b ∈ σr.map (·.1), b ∈ fp) (hso : ∀ b ∈ fp, ∃ o, h₀.get? b = some o)
    (hback : ∀ p ∈ σr, LR im₀ h₀ p.1 p.2 ∧ bs p.1 = none ∧ G.env.locals ≠ p.1 ∧ ∀ q ∈ G.κ, q.2 ≠ p.1) (hnr : (σr.map (·.1)).Nodup)
    (x : Loop G A im₀ bs im h₀ s σf σr items I fp P S 0 ρ σ) (h : ForT G target body items ρ σ (fun fl ρ' σ' => Q fl ρ' (σr ++ σ'))) :
    codeAny G.C.M A (.forLoop target (.ref I) body [] G.env) (fun r s' => match r with | .ok f => Post G FlR bs im₀ Q f s' | .error e => cameBackBy G.C.M A G.env Bot e s') s := by
  have hIf := hI.fpI
  -- the ledger's part comes back
  have fin : ∀ {i : Nat} {im' : PM} {s' : Shared} {ρ' : Rho} {σ' : Led}, Loop G A im₀ bs im' h₀ s' σf σr items I fp P S i ρ' σ' → ∀ {h' : Heap} (tk : Nat), (∀ b o, b ∉ [I] → s'.heap.get? b = some o → h'.get? b = some o) →
      St G bs im' { s' with heap := h', toks := tk } ρ' (σr ++ σ') := fun {i im' s' ρ' σ'} y {h'} tk hk' => by
    have z : St G bs im' { s' with heap := h', toks := tk } ρ' σ' := y.st.off (W := fun b => b = I) tk (fun b o q e => hk' b o (by simpa using q) e) (fun b q => q ▸ y.ib) (fun b q => q ▸ y.ii) (fun b q => by rw [q]; exact y.is I hIf) (fun q => hl (q ▸ hIf)) (fun p hp q => hk p hp (by rw [q]; exact hIf))
    have fr : ∀ p ∈ σr, p.1 ∉ σ'.map (·.1) := fun p hp => y.is _ (hsr _ (mem_map_fst hp))
    refine ⟨⟨z.l.os, z.l.gens, z.l.cb, z.l.hbs, z.l.him, fun p hp => ?_, ?_, z.l.gok⟩, ⟨z.f.vars, z.f.rn, z.f.lbs, z.f.lim, ?_, fun p hp => ?_, z.f.apart, z.f.outer, z.f.kind, z.f.gl, z.f.bi, z.f.kn, z.f.own, z.f.ck⟩⟩
    · rcases List.mem_append.mp hp with hp | hp
      · obtain ⟨a, b, _⟩ := hback p hp
        obtain ⟨hpf, hpfp, hpI⟩ := hI.back p hp
        exact ⟨(a.at fun o e => hk' _ o (by simpa using hpI) (y.old _ hpfp hpI o e)).mono y.ext.1, b, y.ifr _ (mem_map_fst hp)⟩
      · exact z.l.led p hp
    · rw [List.map_append]
      refine List.nodup_append.mpr ⟨hnr, z.l.nd, fun a ha b hb e => ?_⟩
      obtain ⟨p, hp, rfl⟩ := List.mem_map.mp ha
      exact fr p hp (e ▸ hb)
    · rw [List.map_append]; intro hm
      rcases List.mem_append.mp hm with hm | hm
      · obtain ⟨p, hp, e⟩ := List.mem_map.mp hm
        exact (hback p hp).2.2.1 e.symm
      · exact z.f.lled hm
    · obtain ⟨a, b, c, d, e⟩ := z.f.cells p hp
      refine ⟨a, b, c, ?_, e⟩
      rw [List.map_append]; intro hm
      rcases List.mem_append.mp hm with hm | hm
      · obtain ⟨q, hq, e⟩ := List.mem_map.mp hm
        exact (hback q hq).2.2.2 p hp e.symm
      · exact d hm
  have leave : ∀ {f : Flow} {fl : Fl} {i : Nat} {im' : PM} {s' : Shared} {ρ' : Rho} {σ' : Led}, Loop G A im₀ bs im' h₀ s' σf σr items I fp P S i ρ' σ' → FlR im' fl f → Q fl ρ' (σr ++ σ') → Post G FlR bs im₀ Q f s' := fun {f fl i im' s' ρ' σ'} y hf hq =>
    ⟨im', fl, ρ', σr ++ σ', y.ext, hf, fin y s'.toks fun _ _ _ e => e, hq⟩
  refine codeAny_forLoop_any (fun k s' => ∃ i im' ρ' σ', Loop G A im₀ bs im' h₀ s' σf σr items I fp P S i ρ' σ' ∧ i ≤ items.length ∧ k = items.length + 1 - i ∧ ForT G target body (items.drop i) ρ' σ' (fun fl ρ' σ' => Q fl ρ' (σr ++ σ')))
    ?_ (items.length + 1) ⟨0, im, ρ, σ, x, Nat.zero_le _, rfl, by simpa using h⟩
  rintro k s' ⟨i, im', ρ', σ', y, hi, rfl, hT⟩
  by_cases hlt : i < items.length
  · refine hW.item i _ _ _ hlt y.si fun v h₁ tk₁ hP hS₁ hk₁ => ?_
    have hx : items[i]? = some items[i] := by simp [hlt]
    have ed : items.drop i = items[i] :: items.drop (i + 1) := by simp
    rw [ed] at hT
    dsimp only
    refine wpAny_bot (hI.go target (i + 1) v { s' with heap := h₁, toks := tk₁ } _ hS₁ fun h₂ hS₂ hs₂ => ?_) fun _ _ q => q
    have k₂ : ∀ b o, b ≠ I → s'.heap.get? b = some o → h₂.get? b = some o := fun b o q e => (hs₂.2 b q).trans (hk₁ b o (by simpa using q) e)
    have z₂ : St G bs im' { s' with heap := h₂, toks := tk₁ } ρ' σ' := y.st.off (W := fun b => b = I) tk₁ k₂ (fun b q => q ▸ y.ib) (fun b q => q ▸ y.ii) (fun b q => by rw [q]; exact y.is I hIf) (fun q => hl (q ▸ hIf)) (fun p hp q => hk p hp (by rw [q]; exact hIf))
    have y₂ : Loop G A im₀ bs im' h₀ { s' with heap := h₂, toks := tk₁ } σf σr items I fp P S (i + 1) ρ' σ' := ⟨z₂, y.ext, hS₂, fun b hb q o e => k₂ b o q (y.old b hb q o e), y.ib, y.ii, y.is, y.ifr⟩
    have hs2 : ∀ {j im' s' ρ' σ'}, Loop G A im₀ bs im' h₀ s' σf σr items I fp P S j ρ' σ' → ∀ b ∈ fp, ∃ o, s'.heap.get? b = some o := fun {j im' s' ρ' σ'} y b hb => by
      by_cases q : b = I
      · subst q; exact hI.has _ _ y.si
      · obtain ⟨o, ho⟩ := hso b hb; exact ⟨o, y.old b hb q o ho⟩
    refine wpAny_mono (y₂.body hW hl hk hsr (hs2 y₂) fun bs' hS => hT A bs' im' _ v hA hS (hI.item _ _ _ y.ext.1 hP _ hx)) (fun _ s₃ p => ?_) fun _ _ e => notedBot e
    obtain ⟨im₃, _, ρ₃, σ₃, y₃, e₃, _, hB⟩ := p
    refine wpAny_mono (y₃.body hW hl hk hsr (hs2 y₃) fun bs' hS => hB A bs' im₃ _ hA hS) (fun f s₄ p => ?_) fun _ _ e => notedBot e
    obtain ⟨im₄, fl, ρ₄, σ₄, y₄, e₄, hf, hC⟩ := p
    cases fl with
    | next => cases hf; exact ⟨items.length + 1 - (i + 1), by omega, i + 1, im₄, ρ₄, σ₄, y₄, hlt, rfl, hC⟩
    | cont => cases hf; exact ⟨items.length + 1 - (i + 1), by omega, i + 1, im₄, ρ₄, σ₄, y₄, hlt, rfl, hC⟩
    | brk => cases hf; exact leave (fl := .next) y₄ rfl hC
    | ret v => obtain ⟨w, rfl, hw⟩ := hf; exact leave (fl := .ret v) y₄ ⟨w, rfl, hw⟩ hC
  · have hin : i = items.length := by omega
    subst hin
    refine hW.done _ _ _ y.si fun h₁ tk₁ hk₁ => wpAny_execs_nil ?_
    rw [List.drop_length] at hT
    exact ⟨im', .next, ρ', σr ++ σ', y.ext, rfl, fin y tk₁ hk₁, hT⟩

theorem Ex1.for {target iter : Expr} {body : List Stmt} {pos : Pos} {ρ : Rho} {σ : Led} {Q : Fl → Rho → Led → Prop}
    (h : Ev G iter ρ σ (fun p ρ₁ σ₁ => ∃ σf σr σ₂ items, ItSrc G p σf σr items ∧ (∀ q ∈ σf ++ σ₂, q ∈ σ₁) ∧ (((σf ++ σ₂).map (·.1)).Nodup ∨ σf ++ σ₂ = σ₁) ∧ (σr.map (·.1)).Nodup ∧ ForT G target body items ρ₁ σ₂ (fun fl ρ' σ' => Q fl ρ' (σr ++ σ'))))
    (hs : ∀ x, foldedSetIterable iter G.env x = pure x := by intro _; rfl) : Ex1 G (.For target iter body [] pos) ρ σ Q := fun A bs im s hA hS => by
  refine wpAny_For (wpAny_mono (h A bs im s hA hS) (fun v s₁ p => ?_) fun _ _ e => e) hs
  obtain ⟨im₁, r, ρ₁, σ₁, e, hr, hS₁, σf, σr, σ₂, items, hI, hsub, hnd', hnr, hT⟩ := p
  have hnd : ((σf ++ σ₂).map (·.1)).Nodup := hnd'.elim id fun e => e ▸ hS₁.l.nd
  have hS₁' := hS₁.sub hsub hnd
  refine hI A bs im₁ s₁ ρ₁ σ₂ v _ hA hS₁' hr fun I h' tk fp P S hk hfr hob hIt => ?_
  have hm : ∀ b, b ∈ σf.map (·.1) → bs b = none ∧ im₁ b = none ∧ b ∉ σ₂.map (·.1) ∧ b ≠ G.env.locals ∧ ∀ q ∈ G.κ, q.2 ≠ b := fun b hb => by
    have hb' : b ∈ (σf ++ σ₂).map (·.1) := by rw [List.map_append]; exact List.mem_append_left _ hb
    have := hS₁'.l.ledNe hb'
    refine ⟨this.1, this.2, fun hb2 => ?_, fun q => hS₁'.f.lled (q ▸ hb'), fun q hq e => (hS₁'.f.cells q hq).2.2.2.1 (e ▸ hb')⟩
    rw [List.map_append] at hnd
    exact (List.nodup_append.mp hnd).2.2 b hb b hb2 rfl
  have hI4 : bs I = none ∧ im₁ I = none ∧ I ∉ σ₂.map (·.1) ∧ I ≠ G.env.locals ∧ ∀ q ∈ G.κ, q.2 ≠ I := by
    rcases hfr with hn | hm'
    · obtain ⟨ol, _, _, hol, _⟩ := hS₁'.f.loc_some
      refine ⟨hS₁'.l.bs_none hn, hS₁'.l.im_none hn, fun q => hS₁'.l.led_some hn (by rw [List.map_append]; exact List.mem_append_right _ q), (fun q => by rw [q, hol] at hn; cases hn), fun q hq e => ?_⟩
      obtain ⟨⟨v, o, ho, _⟩, _⟩ := hS₁'.f.cells q hq
      rw [e, hn] at ho; cases ho
    · exact hm I hm'
  have hfp : ∀ b ∈ fp, b ∉ σ₂.map (·.1) ∧ b ≠ G.env.locals ∧ (∀ q ∈ G.κ, q.2 ≠ b) ∧ ∃ o, h'.get? b = some o := fun b hb => by
    by_cases q : b = I
    · subst q; exact ⟨hI4.2.2.1, hI4.2.2.2.1, hI4.2.2.2.2, hob⟩
    · rcases hIt.fps b hb q with ⟨o, ho⟩ | ⟨hbf, _⟩
      · refine ⟨fun z => ?_, fun z => ?_, fun p hp z => ?_, o, hk b o (hS₁'.l.him b o ho)⟩
        · have := (hS₁'.l.ledNe (a := b) (by rw [List.map_append]; exact List.mem_append_right _ z)).2
          rw [ho] at this; cases this
        · have := hS₁'.f.lim; rw [← z, ho] at this; cases this
        · have := (hS₁'.f.cells p hp).2.2.1; rw [z, ho] at this; cases this
      · obtain ⟨p, hp, rfl⟩ := List.mem_map.mp hbf
        obtain ⟨y, hy⟩ := (hS₁'.l.led p (List.mem_append_left _ hp)).1.some
        exact ⟨(hm _ hbf).2.2.1, (hm _ hbf).2.2.2.1, (hm _ hbf).2.2.2.2, y, hk _ y hy⟩
  have hsrf : ∀ p ∈ σr, p.1 ∈ σf.map (·.1) := fun p hp => mem_map_fst (hIt.back p hp).1
  have hS₂ : St G bs im₁ { s₁ with heap := h', toks := tk } ρ₁ σ₂ := (hS₁'.grow hk tk).sub (fun q hq => List.mem_append_right _ hq) (by rw [List.map_append] at hnd; exact (List.nodup_append.mp hnd).2.1)
  refine codeAny_mono (For.loop (pos := pos) (Q := Q) hA hIt hIt.walks (fun z => (hfp _ z).2.1 rfl) (fun p hp z => (hfp _ z).2.2.1 p hp rfl) (fun b hb => ?_) (fun b hb => (hfp b hb).2.2.2) (fun p hp => ?_) hnr
    ⟨hS₂, .refl, hIt.st, fun _ _ _ o q => q, hI4.1, hI4.2.1, fun b hb => (hfp b hb).1, fun b hb => ?_⟩ hT) (fun r s' p => ?_)
  · obtain ⟨p, hp, rfl⟩ := List.mem_map.mp hb; exact (hIt.back p hp).2.1
  · have := hS₁'.l.led p (List.mem_append_left _ (hIt.back p hp).1)
    exact ⟨this.1.at fun o e => hk _ o e, this.2.1, (hm _ (hsrf p hp)).2.2.2.1.symm, fun q hq => (hm _ (hsrf p hp)).2.2.2.2 q hq⟩
  · obtain ⟨p, hp, rfl⟩ := List.mem_map.mp hb; exact (hm _ (hsrf p hp)).2.1
  · cases r with
    | ok f => exact p.ext e
    | error _ => exact p
end
end Mine
end
section
open PySem PySem.W PyProof.Rows PySem.Calls
set_option Elab.async false
set_option maxRecDepth 100000
namespace Mine

theorem go_plain {M : Model} {A : Around} {target : Expr} {I : Addr} {v : Value} {s : Shared} {Q : Unit → Shared → Prop} {E : Value → Shared → Prop} {o : Obj} {T : String} (ho : s.heap.get? I = some o) (hc : o.cls = .type T)
    (hT : ["enumerate", "zip", "dict_itemiterator", "dict_reverseitemiterator", "odict_iterator", "itertools.zip_longest", "itertools.pairwise"].contains T = false) (h : Q () s) :
    wpAny M A (letOwnedTupleGo target (.ref I) v) Q E s := by
  have go : wpAny M A (do
      let (.ref r, .ref a) := (Value.ref I, v) | return
      let o ← load r
      match o.cls, o.data with
      | .type n, .fields vs =>
        if ["enumerate", "zip", "dict_itemiterator", "dict_reverseitemiterator", "odict_iterator", "itertools.zip_longest", "itertools.pairwise"].contains n && vs[0]? == some (rawInt a) then
          rule "for.unpacks-the-owned-tuple"
          updateField r 0 .none
      | _, _ => pure () : Sem Unit) Q E s := by
    cases v with
    | ref a =>
      dsimp only
      refine wpAny_bind (wpAny_load ho ?_)
      rw [hc]
      split
      · rename_i n vs e1 e2
        cases e1
        rw [hT]
        simp only [Bool.false_and, Bool.false_eq_true, if_false]
        exact wpAny_pure h
      · exact wpAny_pure h
    | _ => exact wpAny_pure h
  unfold letOwnedTupleGo
  split
  · exact go
  · exact go
  · exact wpAny_pure h

theorem ItSrc.lst {G : Gx} {l : List PV} : ItSrc G (.lst l) [] [] l := by
  intro A bs im s ρ σ v Q hA hS hv hQ
  obtain ⟨a, vs, n, rfl, ho, hvs⟩ := hv.lst_i
  have ho' := hS.l.him _ _ ho
  have hl : s.heap.IsList a vs.toArray := ⟨_, ho', rfl, n, rfl⟩
  have hne : a ≠ s.heap.objs.size := Nat.ne_of_lt (Heap.lt_size ho')
  refine wpAny_pyIter_list hl ?_
  have W := Walks.list (prog := G.C.prog) (w := G.C.w) hA.1 s.heap.objs.size a hne vs.toArray
  have hlen : vs.toArray.size = l.length := by simp [hvs.length]
  rw [hlen] at W
  refine hQ s.heap.objs.size (s.heap.push _) s.toks [s.heap.objs.size, a] _ _ (fun b o e => Heap.get?_push_of_some _ e) (.inl (get?_size_none _)) ⟨_, Heap.get?_push_size _ rfl⟩
    ⟨W, ⟨⟨_, Heap.get?_push_size _ rfl, rfl, rfl⟩, hl.push _⟩, .head _, fun b hb q => ?_, (fun _ h => (nomatch h)), fun i h st => ?_, fun im' i v hm hP p hp => ?_, fun target i v s Q st hq => ?_⟩
  · rcases List.mem_cons.mp hb with e | hb
    · exact absurd e q
    · rw [List.mem_singleton.mp hb]; exact .inl ⟨_, ho⟩
  · obtain ⟨⟨o, ho, _⟩, _⟩ := st; exact ⟨o, ho⟩
  · obtain ⟨w, hw, hr⟩ := hvs.get hp
    have hP' : vs[i]? = some v := by simpa using hP
    rw [hw] at hP'; cases hP'; exact hr.mono hm
  · obtain ⟨⟨o, ho, hc, _⟩, _⟩ := id st
    exact go_plain ho hc (by decide) (hq _ st (.refl ..))

theorem ItSrc.led {G : Gx} {a : Addr} {l : List PV} : ItSrc G (.ref a) [(a, .list l)] [(a, .list l)] l := by
  intro A bs im s ρ σ v Q hA hS hv hQ
  rw [hv.ref_i]
  obtain ⟨⟨vs, n, ho', hvs⟩, _⟩ := hS.l.led (a, .list l) (.head _)
  have hl : s.heap.IsList a vs.toArray := ⟨_, ho', rfl, n, rfl⟩
  have hne : a ≠ s.heap.objs.size := Nat.ne_of_lt (Heap.lt_size ho')
  refine wpAny_pyIter_list hl ?_
  have W := Walks.list (prog := G.C.prog) (w := G.C.w) hA.1 s.heap.objs.size a hne vs.toArray
  have hlen : vs.toArray.size = l.length := by simp [hvs.length]
  rw [hlen] at W
  refine hQ s.heap.objs.size (s.heap.push _) s.toks [s.heap.objs.size, a] _ _ (fun b o e => Heap.get?_push_of_some _ e) (.inl (get?_size_none _)) ⟨_, Heap.get?_push_size _ rfl⟩
    ⟨W, ⟨⟨_, Heap.get?_push_size _ rfl, rfl, rfl⟩, hl.push _⟩, .head _, fun b hb q => ?_, fun p hp => ?_, fun i h st => ?_, fun im' i v hm hP p hp => ?_, fun target i v s Q st hq => ?_⟩
  · rcases List.mem_cons.mp hb with e | hb
    · exact absurd e q
    · rw [List.mem_singleton.mp hb]; exact .inr ⟨.head _, .head _⟩
  · rw [List.mem_singleton.mp hp]; exact ⟨.head _, .tail _ (.head _), hne⟩
  · obtain ⟨⟨o, ho, _⟩, _⟩ := st; exact ⟨o, ho⟩
  · obtain ⟨w, hw, hr⟩ := hvs.get hp
    have hP' : vs[i]? = some v := by simpa using hP
    rw [hw] at hP'; cases hP'; exact hr.mono hm
  · obtain ⟨⟨o, ho, hc, _⟩, _⟩ := id st
    exact go_plain ho hc (by decide) (hq _ st (.refl ..))

noncomputable def signs (l : List Nat) : List PV := l.map fun c => .str [c]
theorem ItSrc.str {G : Gx} {l : List Nat} : ItSrc G (.str l) [] [] (signs l) := by
  intro A bs im s ρ σ v Q hA hS hv hQ
  obtain ⟨t, rfl⟩ := hv.str_i
  have hlen : (⟨l.toArray⟩ : Str).cps.size = (signs l).length := by simp [signs]
  have item : ∀ (im' : PM) (i : Nat) (v : Value), (∀ a o, im a = some o → im' a = some o) → SignAt ⟨l.toArray⟩ i v → ∀ p, (signs l)[i]? = some p → VR im' p v := fun im' i v hm hP p hp => by
    obtain ⟨c, u, hc, rfl⟩ := hP
    have hc' : l[i]? = some c := by simpa using hc
    have : p = .str [c] := by
      unfold signs at hp; rw [List.getElem?_map, hc'] at hp; simpa using hp.symm
    subst this; exact VR.str
  cases ha : (⟨l.toArray⟩ : Str).cps.all (· < 128)
  · refine wpAny_pyIter_wide ha ?_
    have W := Walks.strWide (prog := G.C.prog) (w := G.C.w) hA.1 s.heap.objs.size ⟨l.toArray⟩ t
    rw [hlen] at W
    refine hQ s.heap.objs.size (s.heap.push _) s.toks [s.heap.objs.size] _ _ (fun b o e => Heap.get?_push_of_some _ e) (.inl (get?_size_none _)) ⟨_, Heap.get?_push_size _ rfl⟩
      ⟨W, ⟨_, Heap.get?_push_size _ rfl, rfl, rfl⟩, .head _, fun b hb q => absurd (List.mem_singleton.mp hb) q, (fun _ h => (nomatch h)), fun i h st => ?_, item, fun target i v s Q st hq => ?_⟩
    · obtain ⟨o, ho, _⟩ := st; exact ⟨o, ho⟩
    · obtain ⟨o, ho, hc, _⟩ := id st
      exact go_plain ho hc (by decide) (hq _ st (.refl ..))
  · refine wpAny_pyIter_ascii ha ?_
    have W := Walks.strAscii (prog := G.C.prog) (w := G.C.w) hA.1 s.heap.objs.size ⟨l.toArray⟩ t
    rw [hlen] at W
    refine hQ s.heap.objs.size (s.heap.push _) s.toks [s.heap.objs.size] _ _ (fun b o e => Heap.get?_push_of_some _ e) (.inl (get?_size_none _)) ⟨_, Heap.get?_push_size _ rfl⟩
      ⟨W, ⟨_, Heap.get?_push_size _ rfl, rfl, rfl⟩, .head _, fun b hb q => absurd (List.mem_singleton.mp hb) q, (fun _ h => (nomatch h)), fun i h st => ?_, item, fun target i v s Q st hq => ?_⟩
    · obtain ⟨o, ho, _⟩ := st; exact ⟨o, ho⟩
    · obtain ⟨o, ho, hc, _⟩ := id st
      exact go_plain ho hc (by decide) (hq _ st (.refl ..))

noncomputable def rints (a c : Int) (n : Nat) : List PV := (List.range n).map fun (k : Nat) => PV.int (a + (k : Int) * c)
theorem rints_item {im' : PM} {a c : Int} {n i : Nat} {v : Value} (hP : ∃ t, v = .int (a + i * c) t) {p : PV} (hp : (rints a c n)[i]? = some p) : VR im' p v := by
  obtain ⟨t, rfl⟩ := hP
  unfold rints at hp
  rw [List.getElem?_map] at hp
  by_cases h : i < n
  · rw [List.getElem?_range h] at hp
    have : p = .int (a + (i : Int) * c) := by simpa using hp.symm
    subst this; exact .int
  · rw [List.getElem?_eq_none (by simpa using h)] at hp; simp at hp
theorem ItSrc.rng {G : Gx} {a b c : Int} {n : Nat} (hs : Builtin.Range.small a b c = true) (hn : Builtin.Range.rangeSize a b c = (n : Int)) : ItSrc G (.rng a b c) [] [] (rints a c n) := by
  intro A bs im s ρ σ v Q hA hS hv hQ
  obtain ⟨r, t, u, w, rfl, ho⟩ := hv.rng_i
  have ho' := hS.l.him _ _ ho
  refine wpAny_pyIter_range ho' hs ?_
  have W := Walks.range (prog := G.C.prog) (w := G.C.w) hA.1 s.heap.objs.size a c n
  have hlen : n = (rints a c n).length := by simp [rints]
  refine hQ s.heap.objs.size (s.heap.push _) s.toks [s.heap.objs.size] (fun i v => ∃ t, v = .int (a + i * c) t) (fun i h => IsRangeIter h s.heap.objs.size (a + (i : Nat) * c) ((n : Int) - (i : Nat)) c) (fun b o e => Heap.get?_push_of_some _ e) (.inl (get?_size_none _)) ⟨_, Heap.get?_push_size _ rfl⟩
    ⟨by rw [← hlen]; exact W, ?_, .head _, fun b hb q => absurd (List.mem_singleton.mp hb) q, (fun _ h => (nomatch h)), fun i h st => ⟨_, st⟩, fun im' i v hm hP p hp => rints_item hP hp, fun target i v s Q st hq => ?_⟩
  · show IsRangeIter _ _ _ _ _
    rw [hn]; simpa using Heap.get?_push_size _ rfl
  · exact go_plain (T := "range_iterator") st rfl (by decide) (hq _ st (.refl ..))
theorem ItSrc.rit {G : Gx} {I : Addr} {a c : Int} {n : Nat} : ItSrc G (.ref I) [(I, .rit a n c)] [] (rints a c n) := by
  intro A bs im s ρ σ v Q hA hS hv hQ
  rw [hv.ref_i]
  obtain ⟨ho', _⟩ := hS.l.led (I, .rit a n c) (.head _)
  refine wpAny_pyIter_rangeiter ho' ?_
  have W := Walks.range (prog := G.C.prog) (w := G.C.w) hA.1 I a c n
  have hlen : n = (rints a c n).length := by simp [rints]
  refine hQ I s.heap s.toks [I] (fun i v => ∃ t, v = .int (a + i * c) t) (fun i h => IsRangeIter h I (a + (i : Nat) * c) ((n : Int) - (i : Nat)) c) (fun b o e => e) (.inr (.head _)) ⟨_, ho'⟩
    ⟨by rw [← hlen]; exact W, ?_, .head _, fun b hb q => absurd (List.mem_singleton.mp hb) q, (fun _ h => (nomatch h)), fun i h st => ⟨_, st⟩, fun im' i v hm hP p hp => rints_item hP hp, fun target i v s Q st hq => ?_⟩
  · show IsRangeIter _ _ _ _ _
    have hh : IsRangeIter s.heap I a (n : Int) c := ho'
    simpa using hh
  · exact go_plain (T := "range_iterator") st rfl (by decide) (hq _ st (.refl ..))
end Mine
end
section
open PySem PySem.W PyProof.Rows PySem.Calls
set_option Elab.async false
set_option maxRecDepth 100000
namespace Mine

/-- the frame rule: a part of the ledger that a tree does not need -/
theorem St.frame {G : Gx} {bs im : PM} {s : Shared} {ρ : Rho} {σ φ : Led} {α R : Type} {rel : PM → R → α → Prop} {t : Sem α} {Q : R → Rho → Led → Prop} {A : Around} (hS : St G bs im s ρ (φ ++ σ))
    (h : ∀ bs', St G bs' im s ρ σ → wpAny G.C.M A t (Post G rel bs' im Q) Bot s) :
    wpAny G.C.M A t (fun a s' => ∃ im' r ρ' σ', Ext bs im im' ∧ rel im' r a ∧ St G bs im' s' ρ' (φ ++ σ') ∧ Q r ρ' σ') Bot s := by
  have hnd := hS.l.nd
  rw [List.map_append] at hnd
  obtain ⟨hn1, hn2, hn3⟩ := List.nodup_append.mp hnd
  have hS₂ : St G bs im s ρ σ := hS.sub (fun p hp => List.mem_append_right _ hp) hn2
  have inφ : ∀ b, b ∈ φ.map (·.1) → b ∈ (φ ++ σ).map (·.1) := fun b hb => by rw [List.map_append]; exact List.mem_append_left _ hb
  have y := hS₂.over (fun b => b ∈ φ.map (·.1)) (fun b hb hq => hn3 b hb b hq rfl) (fun q => hS.f.lled (inφ _ q)) (fun p hp q => (hS.f.cells p hp).2.2.2.1 (inφ _ q))
  have sub := PM.over_sub (F := fun b => b ∈ φ.map (·.1)) hS.l.hbs
  refine wpAny_mono (h _ y) (fun a s' p => ?_) fun _ _ e => e
  obtain ⟨im', r, ρ', σ', e, hr, hS', hQ⟩ := p
  have e' := e.under sub
  have z := hS'.under sub hS.l.cb hS.f.outer
  have some_of : ∀ p ∈ φ, ∃ o, s.heap.get? p.1 = some o := fun p hp => (hS.l.led p (List.mem_append_left _ hp)).1.some
  have over_some : ∀ p ∈ φ, ∀ o, s.heap.get? p.1 = some o → bs.over (fun b => b ∈ φ.map (·.1)) s.heap p.1 = some o := fun p hp o ho => by unfold PM.over; rw [if_pos (mem_map_fst hp)]; exact ho
  have keep : ∀ p ∈ φ, ∀ o, s.heap.get? p.1 = some o → s'.heap.get? p.1 = some o := fun p hp o ho => hS'.l.hbs _ o (over_some p hp o ho)
  have nim : ∀ p ∈ φ, im' p.1 = none := fun p hp => by
    cases q : im' p.1 with
    | none => rfl
    | some o =>
      obtain ⟨w, hw⟩ := some_of p hp
      rcases e.2 p.1 (by rw [q]; simp) with a | a
      · exact absurd (hS.l.led p (List.mem_append_left _ hp)).2.2 a
      · rw [over_some p hp w hw] at a; cases a
  refine ⟨im', r, ρ', σ', e', hr, ⟨⟨z.l.os, z.l.gens, z.l.cb, z.l.hbs, z.l.him, fun p hp => ?_, ?_, z.l.gok⟩, ⟨z.f.vars, z.f.rn, z.f.lbs, z.f.lim, ?_, fun p hp => ?_, z.f.apart, z.f.outer, z.f.kind, z.f.gl, z.f.bi, z.f.kn, z.f.own, z.f.ck⟩⟩, hQ⟩
  · rcases List.mem_append.mp hp with hp | hp
    · obtain ⟨a, b, _⟩ := hS.l.led p (List.mem_append_left _ hp)
      exact ⟨(a.at (keep p hp)).mono e'.1, b, nim p hp⟩
    · exact z.l.led p hp
  · rw [List.map_append]
    refine List.nodup_append.mpr ⟨hn1, z.l.nd, fun a ha b hb q => ?_⟩
    obtain ⟨p, hp, rfl⟩ := List.mem_map.mp ha
    obtain ⟨p', hp', rfl⟩ := List.mem_map.mp hb
    have h1 := (hS'.l.led p' hp').2.1
    obtain ⟨w, hw⟩ := some_of p hp
    rw [← q, over_some p hp w hw] at h1; cases h1
  · rw [List.map_append]; intro hm
    rcases List.mem_append.mp hm with hm | hm
    · exact hS.f.lled (inφ _ hm)
    · exact z.f.lled hm
  · obtain ⟨a, b, c, d, f⟩ := z.f.cells p hp
    refine ⟨a, b, c, ?_, f⟩
    rw [List.map_append]; intro hm
    rcases List.mem_append.mp hm with hm | hm
    · exact (hS.f.cells p hp).2.2.2.1 (inφ _ hm)
    · exact d hm
theorem Tr.frame {G : Gx} {ρ : Rho} {σ : Led} (φ : Led) {α R : Type} {rel : PM → R → α → Prop} {t : Sem α} {Q : R → Rho → Led → Prop} (h : Tr G rel t ρ σ Q) : Tr G rel t ρ (φ ++ σ) (fun r ρ' σ' => ∃ σ'', σ' = φ ++ σ'' ∧ Q r ρ' σ'') :=
  fun A _ im s hA hS => wpAny_mono (hS.frame fun bs' z => h A bs' im s hA z) (fun a s' ⟨im', r, ρ', σ', e, hr, hS', hQ⟩ => ⟨im', r, ρ', φ ++ σ', e, hr, hS', σ', rfl, hQ⟩) fun _ _ e => e

/-- a mutable list becomes immutable -/
theorem St.freezeObj {G : Gx} {bs im : PM} {s : Shared} {ρ : Rho} {σ : Led} {D : Addr} {lo : LO} {o : Obj} (hS : St G bs im s ρ ((D, lo) :: σ)) (ho : s.heap.get? D = some o) :
    Ext bs im (im.put D o) ∧ St G bs (im.put D o) s ρ σ := by
  obtain ⟨_, hb, hi⟩ := hS.l.led (D, lo) (.head _)
  have hput := PM.put_keep hi o
  have hnd := hS.l.nd
  rw [List.map_cons, List.nodup_cons] at hnd
  have ext : Ext bs im (im.put D o) := ⟨hput, fun a e => by
    by_cases q : a = D
    · subst q; exact .inr hb
    · rw [PM.put_ne q] at e; exact .inl e⟩
  refine ⟨ext, ⟨⟨hS.l.os, hS.l.gens, hS.l.cb, hS.l.hbs, fun a p e => ?_, fun p hp => ?_, hnd.2, hS.l.gok⟩, ⟨?_, hS.f.rn, hS.f.lbs, ?_, fun q => hS.f.lled (.tail _ q), fun p hp => ?_, hS.f.apart, hS.f.outer, hS.f.kind, hS.f.gl, hS.f.bi, hS.f.kn, hS.f.own, hS.f.ck⟩⟩⟩
  · unfold PM.put at e; split at e
    · rename_i q; cases e; rw [q]; exact ho
    · exact hS.l.him a p e
  · obtain ⟨a, b, c⟩ := hS.l.led p (.tail _ hp)
    exact ⟨a.mono hput, b, by rw [PM.put_ne (fun q => hnd.1 (List.mem_map.mpr ⟨p, hp, q⟩))]; exact c⟩
  · obtain ⟨m, a, b⟩ := hS.f.vars
    exact ⟨m, a, fun p hp => let ⟨v, c, d⟩ := b p hp; ⟨v, c.mono hput, d⟩⟩
  · rw [PM.put_ne (fun q => hS.f.lled (by rw [q]; exact .head _))]; exact hS.f.lim
  · obtain ⟨a, b, c, d, f⟩ := hS.f.cells p hp
    exact ⟨a, b, by rw [PM.put_ne (fun q => d (by rw [q]; exact .head _))]; exact c, fun q => d (.tail _ q), f⟩
theorem St.freeze {G : Gx} {bs im : PM} {s : Shared} {ρ : Rho} {σ : Led} {D : Addr} {l : List PV} (hS : St G bs im s ρ ((D, .list l) :: σ)) :
    ∃ im', Ext bs im im' ∧ VR im' (.lst l) (.ref D) ∧ St G bs im' s ρ σ := by
  obtain ⟨⟨vs, n, ho, hvs⟩, _, _⟩ := hS.l.led (D, .list l) (.head _)
  obtain ⟨e, x⟩ := hS.freezeObj ho
  exact ⟨_, e, .lst (PM.put_self ..) (hvs.mono e.1), x⟩

noncomputable def TsIfs (G : Gx) : List Expr → Rho → Led → (Bool → Rho → Led → Prop) → Prop
  | [], ρ, σ, Q => Q true ρ σ
  | c :: cs, ρ, σ, Q => Ts G c ρ σ (fun b ρ' σ' => if b then TsIfs G cs ρ' σ' Q else Q false ρ' σ')

noncomputable def compItems (G : Gx) (g : Comprehension) (inner : List PV → Rho → Led → (List PV → Rho → Led → Prop) → Prop) : List PV → List PV → Rho → Led → (List PV → Rho → Led → Prop) → Prop
  | [], acc, ρ, σ, K => K acc ρ σ
  | x :: xs, acc, ρ, σ, K => As G g.target x ρ σ (fun ρ₁ σ₁ => TsIfs G g.ifs ρ₁ σ₁ (fun ok ρ₂ σ₂ => if ok then inner acc ρ₂ σ₂ (fun acc' ρ₃ σ₃ => compItems G g inner xs acc' ρ₃ σ₃ K) else compItems G g inner xs acc ρ₂ σ₂ K))
noncomputable def compInner (G : Gx) (elt : Expr) : List Comprehension → List PV → Rho → Led → (List PV → Rho → Led → Prop) → Prop
  | [], acc, ρ, σ, K => Ev G elt ρ σ (fun p ρ' σ' => acc.length < 16000000 ∧ K (acc ++ [p]) ρ' σ')
  | g :: rest, acc, ρ, σ, K => Ev G g.iter ρ σ (fun p ρ' σ' => ∃ items, ItSrc G p [] [] items ∧ compItems G g (compInner G elt rest) items acc ρ' σ' K)

theorem compTurn_at {elt : Expr} {gens : List Comprehension} {scope : Scope} {pos : Pos} {d : Nat} {g : Comprehension} {it acc : Value} {env : Env} (hg : gens[d]? = some g) (ha : g.is_async = 0) :
    compTurn (.ListComp elt gens scope pos) d it acc env = (do
      standAt g.iter.pos
      match ← pyNext it with
      | none => pure (.done .next)
      | some v =>
        letOwnedTupleGo g.target it v
        assign g.target env v
        let mut ok := true
        for c in g.ifs do
          if ok then ok ← isTrue c env (eval c env)
        if ok then
          match gens[d + 1]? with
          | some g' =>
            let x ← eval g'.iter env
            standAt g'.iter.pos
            let x ← if g'.is_async != 0 then foldedIterable g'.iter x else foldedSetIterable g'.iter env x
            let _ ← runOwn (.compStart (.ListComp elt gens scope pos) (d + 1) (← holding [x] (if g'.is_async != 0 then asyncIter x else pyIter x)) acc env) env
          | none => (do let _ ← call (.builtin "list.append") [acc, ← eval elt env])
        again (.compLoop (.ListComp elt gens scope pos) d it acc env)) := by
  unfold compTurn
  simp only [hg, ha]
  rw [if_neg (by decide), if_neg (by decide)]
  rfl

theorem ifs_false {env : Env} {M : Model} {A : Around} {E : Value → Shared → Prop} : ∀ {cs : List Expr} {s : Shared} {Q : Bool → Shared → Prop}, Q false s →
    wpAny M A (forIn cs false fun c r => if r = true then do let ok ← isTrue c env (eval c env); pure (ForInStep.yield ok) else pure (ForInStep.yield r)) Q E s
  | [], _, _, h => wpAny_pure h
  | c :: cs, _, _, h => by
    rw [List.forIn_cons]
    rw [if_neg (by decide)]
    exact wpAny_bind (wpAny_pure (ifs_false h))
theorem ifs_run {G : Gx} : ∀ {cs : List Expr} {ρ : Rho} {σ : Led} {Q : Bool → Rho → Led → Prop}, TsIfs G cs ρ σ Q →
    Tr G relB (forIn cs true fun c r => if r = true then do let ok ← isTrue c G.env (eval c G.env); pure (ForInStep.yield ok) else pure (ForInStep.yield r)) ρ σ Q
  | [], _, _, _, h => fun _ _ _ _ _ hS => wpAny_pure (.now hS rfl h)
  | c :: cs, ρ, σ, Q, h => fun A bs im s hA hS => by
    rw [List.forIn_cons, if_pos rfl]
    refine wpAny_bind (wpAny_bind (wpAny_mono (h A bs im s hA hS) (fun b s₁ p => wpAny_pure ?_) fun _ _ e => e))
    obtain ⟨im₁, r, ρ₁, σ₁, e, hr, hS₁, hC⟩ := p
    cases hr
    dsimp only
    cases b with
    | true => exact wpAny_mono (ifs_run hC A bs im₁ s₁ hA hS₁) (fun _ _ q => q.ext e) fun _ _ x => x
    | false => exact ifs_false ⟨im₁, false, ρ₁, σ₁, e, rfl, hS₁, hC⟩

/-- list.append on a ledger's list -/
theorem append_led {G : Gx} {A : Around} {bs im : PM} {s : Shared} {ρ : Rho} {σ : Led} {D : Addr} {l : List PV} {p : PV} {v : Value} {Q : Value → Shared → Prop} {E : Value → Shared → Prop} (hS : St G bs im s ρ ((D, .list l) :: σ)) (hv : VR im p v)
    (hl : l.length < 16000000) (h : ∀ h', St G bs im { s with heap := h' } ρ ((D, .list (l ++ [p])) :: σ) → Q .none { s with heap := h' }) :
    wpAny G.C.M A (call (.builtin "list.append") [.ref D, v]) Q E s := by
  obtain ⟨⟨vs, n, ho, hvs⟩, hb, hi⟩ := hS.l.led (D, .list l) (.head _)
  have hlen : vs.toArray.size ≤ sizeLine := by rw [List.size_toArray, hvs.length, sizeLine_eq]; omega
  refine wpAny_list_append_plain (hsz := hlen) ⟨n, ho⟩ fun h' hl' hs' => h h' ?_
  refine hS.upd .head s.toks hs' ?_
  obtain ⟨n', e'⟩ := hl'
  refine ⟨vs ++ [v], n', ?_, hvs.append (.cons hv .nil)⟩
  rw [e']; simp

section
variable {G : Gx} {elt : Expr} {gens : List Comprehension} {scope : Scope} {pos : Pos} {D : Addr}

noncomputable def innerTree (elt : Expr) (gens : List Comprehension) (scope : Scope) (pos : Pos) (d : Nat) (acc : Value) (env : Env) : Sem Unit :=
  match gens[d + 1]? with
  | some g' => do
    let x ← eval g'.iter env
    standAt g'.iter.pos
    let x ← foldedSetIterable g'.iter env x
    let _ ← runOwn (.compStart (.ListComp elt gens scope pos) (d + 1) (← holding [x] (pyIter x)) acc env) env
  | none => do let _ ← call (.builtin "list.append") [acc, ← eval elt env]
theorem inner_then {M : Model} {A : Around} {E : Value → Shared → Prop} {α : Type} {Q : α → Shared → Prop} {s : Shared} {d : Nat} {acc : Value} {env : Env} {k : Sem α} (ha : ∀ g ∈ gens, g.is_async = 0)
    (h : wpAny M A (innerTree elt gens scope pos d acc env) (fun _ s' => wpAny M A k Q E s') E s) :
    wpAny M A (match gens[d + 1]? with
      | some g' => do
        let x ← eval g'.iter env
        standAt g'.iter.pos
        if (g'.is_async != 0) = true then do
            let x ← foldedIterable g'.iter x
            let __do_lift ← holding [x] (if (g'.is_async != 0) = true then asyncIter x else pyIter x)
            let _ ← runOwn (Code.compStart (elt.ListComp gens scope pos) (d + 1) __do_lift acc env) env
            k
          else do
            let x ← foldedSetIterable g'.iter env x
            let __do_lift ← holding [x] (if (g'.is_async != 0) = true then asyncIter x else pyIter x)
            let _ ← runOwn (Code.compStart (elt.ListComp gens scope pos) (d + 1) __do_lift acc env) env
            k
      | none => (do let _ ← call (.builtin "list.append") [acc, ← eval elt env] : Sem Unit) >>= fun _ => k) Q E s := by
  unfold innerTree at h
  cases hg : gens[d + 1]? with
  | none =>
    rw [hg] at h
    exact wpAny_bind h
  | some g' =>
    rw [hg] at h
    have ha' : g'.is_async = 0 := ha g' (List.mem_of_getElem? hg)
    dsimp only at h ⊢
    rw [ha']
    simp only [bne_self_eq_false, Bool.false_eq_true, if_false]
    have := wpAny_bind (f := fun _ => k) h
    simpa only [bind_assoc, pure_bind] using this

noncomputable def InnerOk (G : Gx) (elt : Expr) (gens : List Comprehension) (scope : Scope) (pos : Pos) (D : Addr) (d : Nat) (rest : List Comprehension) : Prop :=
  ∀ A bs im s ρ σ acc (K : List PV → Rho → Led → Prop), AOk G.n A → St G bs im s ρ ((D, .list acc) :: σ) → compInner G elt rest acc ρ σ K →
    wpAny G.C.M A (innerTree elt gens scope pos d (.ref D) G.env) (Post G relU bs im (fun _ ρ' σ' => ∃ acc' σ'', σ' = (D, .list acc') :: σ'' ∧ K acc' ρ' σ'')) Bot s

theorem Comp.loop {A : Around} {bs im₀ im : PM} {h₀ : Heap} {s : Shared} {ρ : Rho} {σ σf σr : Led} {items acc : List PV} {I : Addr} {fp : List Addr} {P : Nat → Value → Prop} {S : Nat → Heap → Prop} {d : Nat} {g : Comprehension} {rest : List Comprehension}
    {K : List PV → Rho → Led → Prop} (hin : InnerOk G elt gens scope pos D d rest) (hg : gens[d]? = some g) (ha : ∀ g ∈ gens, g.is_async = 0) (hA : AOk G.n A) (hI : IsIt G A im₀ h₀ σf σr items I fp P S)
    (hl : G.env.locals ∉ fp) (hk : ∀ p ∈ G.κ, p.2 ∉ fp) (hsr : ∀ b ∈ σr.map (·.1), b ∈ fp) (hso : ∀ b ∈ fp, ∃ o, h₀.get? b = some o)
    (x : Loop G A im₀ bs im h₀ s σf σr items I fp P S 0 ρ ((D, .list acc) :: σ)) (h : compItems G g (compInner G elt rest) items acc ρ σ K) {R : Result → Shared → Prop}
    (hR : ∀ im' s' ρ' σ' acc' i h' tk, Loop G A im₀ bs im' h₀ s' σf σr items I fp P S i ρ' ((D, .list acc') :: σ') → (∀ b o, b ∉ [I] → s'.heap.get? b = some o → h'.get? b = some o) → K acc' ρ' σ' → R (.ok .next) { s' with heap := h', toks := tk }) :
    codeAny G.C.M A (.compLoop (.ListComp elt gens scope pos) d (.ref I) (.ref D) G.env) R s := by
  have hIf := hI.fpI
  have hW := hI.walks
  refine codeAny_loop rfl (fun k s' => ∃ i im' ρ' σ' acc', Loop G A im₀ bs im' h₀ s' σf σr items I fp P S i ρ' ((D, .list acc') :: σ') ∧ i ≤ items.length ∧ k = items.length + 1 - i ∧ compItems G g (compInner G elt rest) (items.drop i) acc' ρ' σ' K)
    ?_ (items.length + 1) ⟨0, im, ρ, σ, acc, x, Nat.zero_le _, rfl, by simpa using h⟩
  rintro k s' ⟨i, im', ρ', σ', acc', y, hi, rfl, hT⟩
  show wpAny _ A ((compTurn (.ListComp elt gens scope pos) d (.ref I) (.ref D) G.env).onRaise (fun x => do noteFrame x G.env; theTreesLotGoes x)) _ _ s'
  refine wpAny_noted ?_
  rw [compTurn_at hg (ha g (List.mem_of_getElem? hg))]
  refine wpAny_bind (wpAny_standAt (wpAny_bind ?_))
  by_cases hlt : i < items.length
  · refine hW.item i _ _ _ hlt y.si fun v h₁ tk₁ hP hS₁ hk₁ => ?_
    have hx : items[i]? = some items[i] := by simp [hlt]
    have ed : items.drop i = items[i] :: items.drop (i + 1) := by simp
    rw [ed] at hT
    dsimp only
    refine wpAny_bind (wpAny_bot (hI.go g.target (i + 1) v { s' with heap := h₁, toks := tk₁ } _ hS₁ fun h₂ hS₂ hs₂ => ?_) fun _ _ q => q)
    have k₂ : ∀ b o, b ≠ I → s'.heap.get? b = some o → h₂.get? b = some o := fun b o q e => (hs₂.2 b q).trans (hk₁ b o (by simpa using q) e)
    have z₂ : St G bs im' { s' with heap := h₂, toks := tk₁ } ρ' ((D, .list acc') :: σ') := y.st.off (W := fun b => b = I) tk₁ k₂ (fun b q => q ▸ y.ib) (fun b q => q ▸ y.ii) (fun b q => by rw [q]; exact y.is I hIf) (fun q => hl (q ▸ hIf)) (fun p hp q => hk p hp (by rw [q]; exact hIf))
    have y₂ : Loop G A im₀ bs im' h₀ { s' with heap := h₂, toks := tk₁ } σf σr items I fp P S (i + 1) ρ' ((D, .list acc') :: σ') := ⟨z₂, y.ext, hS₂, fun b hb q o e => k₂ b o q (y.old b hb q o e), y.ib, y.ii, y.is, y.ifr⟩
    have hs2 : ∀ {j im' s' ρ' σ'}, Loop G A im₀ bs im' h₀ s' σf σr items I fp P S j ρ' σ' → ∀ b ∈ fp, ∃ o, s'.heap.get? b = some o := fun {j im' s' ρ' σ'} y b hb => by
      by_cases q : b = I
      · subst q; exact hI.has _ _ y.si
      · obtain ⟨o, ho⟩ := hso b hb; exact ⟨o, y.old b hb q o ho⟩
    have post : ∀ {α R : Type} {rel : PM → R → α → Prop} {bs im : PM} {Q : R → Rho → Led → Prop} {a : α} {s' : Shared} (φ : Led), (∃ im' r ρ' σ', Ext bs im im' ∧ rel im' r a ∧ St G bs im' s' ρ' (φ ++ σ') ∧ Q r ρ' σ') →
        Post G rel bs im (fun r ρ' σ' => ∃ σ'', σ' = φ ++ σ'' ∧ Q r ρ' σ'') a s' := fun φ ⟨im', r, ρ', σ', e, hr, hS, hQ⟩ => ⟨im', r, ρ', φ ++ σ', e, hr, hS, σ', rfl, hQ⟩
    -- the target
    refine wpAny_bind (wpAny_mono (y₂.body hW hl hk hsr (hs2 y₂) fun bs' hS => wpAny_mono (St.frame (φ := [(D, .list acc')]) hS fun bs'' hS' => hT A bs'' im' _ v hA hS' (hI.item _ _ _ y.ext.1 hP _ hx)) (fun _ _ p => post [(D, .list acc')] p) fun _ _ e => e) (fun _ s₃ p => ?_) fun _ _ e => notedBot e)
    obtain ⟨im₃, _, ρ₃, σ₃, y₃, e₃, _, σ₃', rfl, hB⟩ := p
    -- the tests
    refine wpAny_bind (wpAny_mono (y₃.body hW hl hk hsr (hs2 y₃) fun bs' hS => wpAny_mono (St.frame (φ := [(D, .list acc')]) hS fun bs'' hS' => ifs_run hB A bs'' im₃ _ hA hS') (fun _ _ p => post [(D, .list acc')] p) fun _ _ e => e) (fun ok s₄ p => ?_) fun _ _ e => notedBot e)
    obtain ⟨im₄, ok', ρ₄, σ₄, y₄, e₄, hok, σ₄', rfl, hC⟩ := p
    cases hok
    cases ok with
    | false =>
      exact wpAny_pure ⟨rfl, items.length + 1 - (i + 1), by omega, i + 1, im₄, ρ₄, σ₄', acc', y₄, hlt, rfl, hC⟩
    | true =>
      refine inner_then ha (wpAny_mono (y₄.body hW hl hk hsr (hs2 y₄) fun bs' hS => hin A bs' im₄ s₄ ρ₄ σ₄' acc' _ hA hS hC) (fun _ s₅ p => ?_) fun _ _ e => notedBot e)
      obtain ⟨im₅, _, ρ₅, σ₅, y₅, e₅, _, acc₅, σ₅', rfl, hD⟩ := p
      exact wpAny_pure ⟨rfl, items.length + 1 - (i + 1), by omega, i + 1, im₅, ρ₅, σ₅', acc₅, y₅, hlt, rfl, hD⟩
  · have hin : i = items.length := by omega
    subst hin
    refine hW.done _ _ _ y.si fun h₁ tk₁ hk₁ => wpAny_pure ?_
    rw [List.drop_length] at hT
    exact hR im' s' ρ' σ' acc' _ h₁ tk₁ y hk₁ hT
end
end Mine
end
section
open PySem PySem.W PyProof.Rows PySem.Calls
set_option Elab.async false
set_option maxRecDepth 100000
namespace Mine

theorem codeAny_compStart_at {prog : Program} {w : World} {A : Around} {R : Result → Shared → Prop} {s : Shared} {elt : Expr} {gens : List Comprehension} {scope : Scope} {pos : Pos} {d : Nat} {g : Comprehension} {it acc : Value} {env : Env} (hg : gens[d]? = some g) (ha : g.is_async = 0)
    (h0 : codeAny (model prog w) A (.compLoop (.ListComp elt gens scope pos) d it acc env) R s)
    (h : wpAny (model prog w) A (pyIter it) (fun it' s' => codeAny (model prog w) A (.compLoop (.ListComp elt gens scope pos) d it' acc env) R s')
      (notedBy (model prog w) A env fun x s' => R (.error x) s') s) :
    codeAny (model prog w) A (.compStart (.ListComp elt gens scope pos) d it acc env) R s := by
  refine codeAny_of_tree ?_
  show wpAny _ _ ((compStart (.ListComp elt gens scope pos) d it acc env).onRaise (fun x => do noteFrame x env; standAt theWindowsPlace)) _ _ s
  refine wpAny_notedAt ?_
  unfold compStart
  have e1 : (((clausesOf (.ListComp elt gens scope pos))[d]?).elim false (·.is_async != 0)) = false := by
    show ((gens[d]?).elim false (·.is_async != 0)) = false
    rw [hg]; simp [ha]
  have e2 : (clausesOf (.ListComp elt gens scope pos))[d]? = some g := hg
  rw [e1, e2]
  show wpAny _ _ (ask >>= _) _ _ s
  refine wpAny_bind (wpAny_askSetting (wpAny_ite ?_))
  split
  · first
      | exact wpAny_bind (wpAny_pure (wpAny_pure (And.intro rfl h0)))
      | exact wpAny_pure (And.intro rfl h0)
  · first
      | exact wpAny_bind (wpAny_rule (wpAny_bind (wpAny_standAt (wpAny_bind (wpAny_mono h (fun it' s' h' => wpAny_pure (And.intro rfl h')) fun _ _ x => x)))))
      | (refine wpAny_bind (wpAny_rule ?_); show wpAny _ _ (standAt g.iter.pos >>= _) _ _ s; exact wpAny_bind (wpAny_standAt (wpAny_bind (wpAny_mono h (fun it' s' h' => wpAny_pure (And.intro rfl h')) fun _ _ x => x))))

section
variable {G : Gx} {elt : Expr} {gens : List Comprehension} {scope : Scope} {pos : Pos} {D : Addr}

/-- what ItSrc brings, for a loop: nothing of the state's is touched by the iterator -/
theorem it_facts {A : Around} {bs im : PM} {s : Shared} {ρ : Rho} {σf σr σ : Led} {items : List PV} {I : Addr} {h' : Heap} {fp : List Addr} {P : Nat → Value → Prop} {S : Nat → Heap → Prop} (hS : St G bs im s ρ (σf ++ σ))
    (hk : ∀ b o, s.heap.get? b = some o → h'.get? b = some o) (hfr : s.heap.get? I = none ∨ I ∈ σf.map (·.1)) (hob : ∃ o, h'.get? I = some o) (hIt : IsIt G A im h' σf σr items I fp P S) :
    (bs I = none ∧ im I = none) ∧ (∀ b ∈ fp, b ∉ σ.map (·.1) ∧ b ≠ G.env.locals ∧ (∀ q ∈ G.κ, q.2 ≠ b) ∧ ∃ o, h'.get? b = some o) ∧
    (∀ b ∈ σf.map (·.1), bs b = none ∧ im b = none ∧ b ∉ σ.map (·.1) ∧ b ≠ G.env.locals ∧ ∀ q ∈ G.κ, q.2 ≠ b) := by
  have hnd := hS.l.nd
  have hm : ∀ b, b ∈ σf.map (·.1) → bs b = none ∧ im b = none ∧ b ∉ σ.map (·.1) ∧ b ≠ G.env.locals ∧ ∀ q ∈ G.κ, q.2 ≠ b := fun b hb => by
    have hb' : b ∈ (σf ++ σ).map (·.1) := by rw [List.map_append]; exact List.mem_append_left _ hb
    have := hS.l.ledNe hb'
    refine ⟨this.1, this.2, fun hb2 => ?_, fun q => hS.f.lled (q ▸ hb'), fun q hq e => (hS.f.cells q hq).2.2.2.1 (e ▸ hb')⟩
    rw [List.map_append] at hnd
    exact (List.nodup_append.mp hnd).2.2 b hb b hb2 rfl
  have hI4 : bs I = none ∧ im I = none ∧ I ∉ σ.map (·.1) ∧ I ≠ G.env.locals ∧ ∀ q ∈ G.κ, q.2 ≠ I := by
    rcases hfr with hn | hm'
    · obtain ⟨ol, _, _, hol, _⟩ := hS.f.loc_some
      refine ⟨hS.l.bs_none hn, hS.l.im_none hn, fun q => hS.l.led_some hn (by rw [List.map_append]; exact List.mem_append_right _ q), (fun q => by rw [q, hol] at hn; cases hn), fun q hq e => ?_⟩
      obtain ⟨⟨v, o, ho, _⟩, _⟩ := hS.f.cells q hq
      rw [e, hn] at ho; cases ho
    · exact hm I hm'
  refine ⟨⟨hI4.1, hI4.2.1⟩, fun b hb => ?_, hm⟩
  by_cases q : b = I
  · subst q; exact ⟨hI4.2.2.1, hI4.2.2.2.1, hI4.2.2.2.2, hob⟩
  · rcases hIt.fps b hb q with ⟨o, ho⟩ | ⟨hbf, _⟩
    · refine ⟨fun z => ?_, fun z => ?_, fun p hp z => ?_, o, hk b o (hS.l.him b o ho)⟩
      · have := (hS.l.ledNe (a := b) (by rw [List.map_append]; exact List.mem_append_right _ z)).2
        rw [ho] at this; cases this
      · have := hS.f.lim; rw [← z, ho] at this; cases this
      · have := (hS.f.cells p hp).2.2.1; rw [z, ho] at this; cases this
    · obtain ⟨p, hp, rfl⟩ := List.mem_map.mp hbf
      obtain ⟨y, hy⟩ := (hS.l.led p (List.mem_append_left _ hp)).1.some
      exact ⟨(hm _ hbf).2.2.1, (hm _ hbf).2.2.2.1, (hm _ hbf).2.2.2.2, y, hk _ y hy⟩

theorem Comp.start {A : Around} {bs im₀ : PM} {s : Shared} {ρ : Rho} {σ σf σr : Led} {items acc : List PV} {I : Addr} {h' : Heap} {tk : Nat} {fp : List Addr} {P : Nat → Value → Prop} {S : Nat → Heap → Prop} {d : Nat} {g : Comprehension} {rest : List Comprehension}
    {K : List PV → Rho → Led → Prop} (hin : InnerOk G elt gens scope pos D d rest) (hg : gens[d]? = some g) (ha : ∀ g ∈ gens, g.is_async = 0) (hA : AOk G.n A)
    (hS : St G bs im₀ s ρ (σf ++ (D, .list acc) :: σ)) (hk : ∀ b o, s.heap.get? b = some o → h'.get? b = some o) (hfr : s.heap.get? I = none ∨ I ∈ σf.map (·.1)) (hob : ∃ o, h'.get? I = some o) (hI : IsIt G A im₀ h' σf σr items I fp P S)
    (h : compItems G g (compInner G elt rest) items acc ρ σ K) {R : Result → Shared → Prop}
    (hR : ∀ im' s' ρ' σ' acc' i h'' tk, Loop G A im₀ bs im' h' s' σf σr items I fp P S i ρ' ((D, .list acc') :: σ') → (∀ b o, b ∉ [I] → s'.heap.get? b = some o → h''.get? b = some o) → K acc' ρ' σ' → R (.ok .next) { s' with heap := h'', toks := tk }) :
    codeAny G.C.M A (.compStart (.ListComp elt gens scope pos) d (.ref I) (.ref D) G.env) R { s with heap := h', toks := tk } := by
  obtain ⟨hI2, hfp, hm⟩ := it_facts hS hk hfr hob hI
  have hnd := hS.l.nd
  rw [List.map_append] at hnd
  have hS₂ : St G bs im₀ { s with heap := h', toks := tk } ρ ((D, .list acc) :: σ) := (hS.grow hk tk).sub (fun q hq => List.mem_append_right _ hq) (List.nodup_append.mp hnd).2.1
  have loop : codeAny G.C.M A (.compLoop (.ListComp elt gens scope pos) d (.ref I) (.ref D) G.env) R { s with heap := h', toks := tk } := by
    refine Comp.loop (K := K) hin hg ha hA hI (fun z => (hfp _ z).2.1 rfl) (fun p hp z => (hfp _ z).2.2.1 p hp rfl) (fun b hb => ?_) (fun b hb => (hfp b hb).2.2.2)
      ⟨hS₂, .refl, hI.st, fun _ _ _ o q => q, hI2.1, hI2.2, fun b hb => (hfp b hb).1, fun b hb => ?_⟩ h hR
    · obtain ⟨p, hp, rfl⟩ := List.mem_map.mp hb; exact (hI.back p hp).2.1
    · obtain ⟨p, hp, rfl⟩ := List.mem_map.mp hb; exact (hm _ (mem_map_fst (hI.back p hp).1)).2.1
  exact codeAny_compStart_at hg (ha g (List.mem_of_getElem? hg)) loop (hI.walks.self 0 { s with heap := h', toks := tk } _ _ hI.st loop)

theorem InnerOk.nil {d : Nat} (hd : gens[d + 1]? = none) : InnerOk G elt gens scope pos D d [] := by
  intro A bs im s ρ σ acc K hA hS hC
  unfold innerTree
  rw [hd]
  dsimp only
  refine wpAny_bind (wpAny_mono (St.frame (φ := [(D, .list acc)]) hS fun bs' hS' => hC A bs' im s hA hS') (fun v s₁ p => ?_) fun _ _ e => e)
  obtain ⟨im₁, r, ρ₁, σ₁, e, hr, hS₁, hl, hK⟩ := p
  exact wpAny_bind (append_led hS₁ hr hl fun h' hS₂ => wpAny_pure ⟨im₁, (), ρ₁, _, e, trivial, hS₂, _, _, rfl, hK⟩)
theorem InnerOk.cons {d : Nat} {g : Comprehension} {rest : List Comprehension} (hd : gens[d + 1]? = some g) (ha : ∀ g ∈ gens, g.is_async = 0) (hs : ∀ x, foldedSetIterable g.iter G.env x = pure x) (ih : InnerOk G elt gens scope pos D (d + 1) rest) : InnerOk G elt gens scope pos D d (g :: rest) := by
  intro A bs im s ρ σ acc K hA hS hC
  unfold innerTree
  rw [hd]
  dsimp only
  refine wpAny_bind (wpAny_mono (St.frame (φ := [(D, .list acc)]) hS fun bs' hS' => hC A bs' im s hA hS') (fun v s₁ p => ?_) fun _ _ e => e)
  obtain ⟨im₁, r, ρ₁, σ₁, e, hr, hS₁, items, hI, hT⟩ := p
  refine wpAny_bind (wpAny_standAt (wpAny_bind (wpAny_of_eq (hs v) (wpAny_bind (wpAny_holding ?_)))))
  refine hI A bs im₁ s₁ ρ₁ ((D, .list acc) :: σ₁) v _ hA hS₁ hr fun I h' tk fp P S hk hfr hob hIt => ?_
  refine wpAny_bind (wpAny_runOwn (Comp.start (K := K) ih hd ha hA hS₁ hk hfr hob hIt hT fun im' s' ρ' σ' acc' i h'' tk' L hk'' hK => ?_))
  refine wpAny_pure ⟨im', (), ρ', _, e.trans L.ext, trivial, ?_, acc', σ', rfl, hK⟩
  exact L.st.off (W := fun b => b = I) tk' (fun b o q e => hk'' b o (by simpa using q) e) (fun b q => q ▸ L.ib) (fun b q => q ▸ L.ii) (fun b q => by rw [q]; exact L.is I hIt.fpI) (fun q => (it_facts (σ := (D, .list acc) :: σ₁) (σf := []) hS₁ hk hfr hob hIt).2.1 I hIt.fpI |>.2.1 q.symm)
    (fun p hp q => (it_facts (σ := (D, .list acc) :: σ₁) (σf := []) hS₁ hk hfr hob hIt).2.1 I hIt.fpI |>.2.2.1 p hp q)
theorem InnerOk.all (ha : ∀ g ∈ gens, g.is_async = 0) (hs : ∀ g ∈ gens, ∀ x, foldedSetIterable g.iter G.env x = pure x) : ∀ (rest : List Comprehension) (d : Nat), gens.drop (d + 1) = rest → InnerOk G elt gens scope pos D d rest
  | [], d, h => .nil (by
      have : gens.length ≤ d + 1 := List.drop_eq_nil_iff.mp h
      exact List.getElem?_eq_none this)
  | g :: rest, d, h => by
    have hd : gens[d + 1]? = some g := by
      have := congrArg (fun l => l[0]?) h
      simpa using this
    refine .cons hd ha (hs g (List.mem_of_getElem? hd)) (InnerOk.all ha hs rest (d + 1) ?_)
    have := congrArg List.tail h
    simpa [List.tail_drop] using this
end
end Mine
end
section
open PySem PySem.W PyProof.Rows PySem.Calls
set_option Elab.async false
set_option maxRecDepth 100000
namespace Mine

/-- back from a block or a call whose base held all that was not handed to it -/
theorem St.back {G : Gx} {bs im : PM} {s : Shared} {ρ : Rho} {σ₀ : Led} (hS : St G bs im s ρ σ₀) {bs' im' : PM} {s' : Shared} {σ' : Led} (hid : Addr → Prop) (hL : StL G.C bs' im' s' σ') (hext : Ext bs' im im')
    (hb : ∀ b o, s.heap.get? b = some o → ¬ hid b → bs' b = some o) (hh : ∀ b, hid b → b ∈ σ₀.map (·.1) ∨ s.heap.get? b = none) : St G bs im' s' ρ σ' ∧ Ext bs im im' := by
  have nh : ∀ b o, bs b = some o → ¬ hid b := fun b o e q => by
    rcases hh b q with h | h
    · rw [(hS.l.ledNe h).1] at e; cases e
    · rw [hS.l.bs_none h] at e; cases e
  have sub : ∀ b o, bs b = some o → bs' b = some o := fun b o e => hb b o (hS.l.hbs b o e) (nh b o e)
  obtain ⟨ol, esl, epl, hol, hod⟩ := hS.f.loc_some
  have nhL : ¬ hid G.env.locals := fun q => by
    rcases hh _ q with h | h
    · exact hS.f.lled h
    · rw [hol] at h; cases h
  have bL := hb _ _ hol nhL
  have cellk : ∀ p ∈ G.κ, ∃ o, s.heap.get? p.2 = some o ∧ bs' p.2 = some o := fun p hp => by
    obtain ⟨⟨v, o, ho, _⟩, _, _, hn, _⟩ := hS.f.cells p hp
    refine ⟨o, ho, hb _ _ ho fun q => ?_⟩
    rcases hh _ q with h | h
    · exact hn h
    · rw [ho] at h; cases h
  have nim : ∀ b o, bs' b = some o → im b = none → im' b = none := fun b o e q => by
    cases z : im' b with
    | none => rfl
    | some w => exact absurd q ((hext.2 b (by rw [z]; simp)).resolve_right (by rw [e]; simp))
  have nled : ∀ b o, bs' b = some o → b ∉ σ'.map (·.1) := fun b o e q => by rw [(hL.ledNe q).1] at e; cases e
  have hcell : ∀ y c w, G.env.cells.lookup y = some c → s.heap.IsCell c w → s'.heap.IsCell c w := fun y c w e ⟨o, ho, hd⟩ => by
    refine ⟨o, ?_, hd⟩
    rcases hS.f.outer y c e with q | ⟨o', q⟩
    · obtain ⟨o₁, h1, h2⟩ := cellk _ q
      rw [ho] at h1; cases h1; exact hL.hbs _ _ h2
    · have h1 := hS.l.hbs _ _ q
      rw [ho] at h1; cases h1; exact hL.hbs _ _ (sub _ _ q)
  refine ⟨⟨⟨hL.os, hL.gens, hS.l.cb, fun b o e => hL.hbs b o (sub b o e), hL.him, fun p hp => ?_, hL.nd, hL.gok⟩, ⟨?_, hS.f.rn, hS.f.lbs, nim _ _ bL hS.f.lim, nled _ _ bL, fun p hp => ?_, hS.f.apart, hS.f.outer, hS.f.kind, hS.f.gl, hS.f.bi, hS.f.kn, hS.f.own, hS.f.ck⟩⟩, hext.under sub⟩
  · obtain ⟨a, b, c⟩ := hL.led p hp
    exact ⟨a, (by cases z : bs p.1 with | none => rfl | some o => (rw [sub _ _ z] at b; cases b)), c⟩
  · obtain ⟨m, ⟨o, es, ep, a, b⟩, d⟩ := hS.f.vars
    refine ⟨m, ⟨o, es, ep, hL.hbs _ _ (hb _ _ a nhL), b⟩, fun p hp => ?_⟩
    obtain ⟨v, e, f⟩ := d p hp
    exact ⟨v, e.mono hext.1, f.keeps (hcell _)⟩
  · obtain ⟨⟨v, a⟩, b, c, d, e⟩ := hS.f.cells p hp
    obtain ⟨o, h1, h2⟩ := cellk p hp
    exact ⟨⟨v, hcell _ _ _ e a⟩, b, nim _ _ h2 c, nled _ _ h2, e⟩

theorem cellsFrom_acc : ∀ (names : List (Str × NameKind)) (n : Nat) (acc : List (Str × Addr)), cellsFrom n names acc = cellsFrom n names [] ++ acc
  | [], n, acc => rfl
  | (x, k) :: r, n, acc => by
    unfold cellsFrom
    split
    · rw [cellsFrom_acc r (n + 1) ((x, n) :: acc), cellsFrom_acc r (n + 1) [(x, n)], List.append_assoc]; rfl
    · exact cellsFrom_acc r n acc
theorem cellsFrom_ge : ∀ (names : List (Str × NameKind)) (n : Nat) (p : Str × Addr), p ∈ cellsFrom n names [] → n ≤ p.2 ∧ (p.1, NameKind.cell) ∈ names
  | [], _, p, h => nomatch h
  | (x, k) :: r, n, p, h => by
    unfold cellsFrom at h
    split at h
    · rename_i hk
      rw [cellsFrom_acc] at h
      rcases List.mem_append.mp h with h | h
      · have := cellsFrom_ge r (n + 1) p h
        exact ⟨by omega, .tail _ this.2⟩
      · rw [List.mem_singleton.mp h]
        have : k = .cell := by simpa using hk
        subst this
        exact ⟨Nat.le_refl _, .head _⟩
    · exact (cellsFrom_ge r n p h).imp id (.tail _)
theorem cellsFrom_mem : ∀ (names : List (Str × NameKind)) (n : Nat) (x : Str), (x, NameKind.cell) ∈ names → ∃ c, (x, c) ∈ cellsFrom n names []
  | [], _, _, h => nomatch h
  | (y, k) :: r, n, x, h => by
    unfold cellsFrom
    rcases List.mem_cons.mp h with e | h
    · cases e
      rw [if_pos (by rfl), cellsFrom_acc]
      exact ⟨n, List.mem_append_right _ (.head _)⟩
    · split
      · rw [cellsFrom_acc]
        obtain ⟨c, hc⟩ := cellsFrom_mem r (n + 1) x h
        exact ⟨c, List.mem_append_left _ hc⟩
      · exact cellsFrom_mem r n x h
theorem cellsFrom_keys : ∀ (names : List (Str × NameKind)) (n : Nat), (names.map (·.1)).Nodup → ((cellsFrom n names []).map (·.1)).Nodup
  | [], _, _ => List.nodup_nil
  | (y, k) :: r, n, h => by
    rw [List.map_cons, List.nodup_cons] at h
    unfold cellsFrom
    split
    · rw [cellsFrom_acc, List.map_append]
      refine List.nodup_append.mpr ⟨cellsFrom_keys r (n + 1) h.2, by simp, fun a ha b hb e => ?_⟩
      obtain ⟨p, hp, rfl⟩ := List.mem_map.mp ha
      have hb' : b = y := by simpa using hb
      subst hb'
      have := (cellsFrom_ge r (n + 1) p hp).2
      exact h.1 (List.mem_map.mpr ⟨_, this, e⟩)
    · exact cellsFrom_keys r n h.2
theorem lookup_of_mem {α : Type} : ∀ {l : List (Str × α)} {x : Str} {a : α}, (l.map (·.1)).Nodup → (x, a) ∈ l → l.lookup x = some a
  | (y, b) :: r, x, a, hn, h => by
    rw [List.map_cons, List.nodup_cons] at hn
    rw [List.lookup_cons]
    rcases List.mem_cons.mp h with e | h'
    · cases e; simp
    · have hne : (x == y) = false := by
        rw [beq_eq_false_iff_ne]; intro q
        exact hn.1 (List.mem_map.mpr ⟨_, h', q⟩)
      rw [hne]; exact lookup_of_mem hn.2 h'
theorem lookup_none_of {α : Type} : ∀ {l : List (Str × α)} {x : Str}, x ∉ l.map (·.1) → l.lookup x = none
  | [], _, _ => rfl
  | (y, b) :: r, x, h => by
    rw [List.map_cons, List.mem_cons, not_or] at h
    rw [List.lookup_cons, show (x == y) = false from beq_eq_false_iff_ne.mpr h.1]
    exact lookup_none_of h.2
theorem lookup_append' {α : Type} {l r : List (Str × α)} {x : Str} : (l ++ r).lookup x = (l.lookup x).or (r.lookup x) := List.lookup_append

theorem pushCells_apart : ∀ (names : List (Str × NameKind)) (n : Nat), (cellsFrom n names []).Pairwise fun x y => x.2 ≠ y.2
  | [], _ => .nil
  | (y, k) :: r, n => by
    unfold cellsFrom
    split
    · rw [cellsFrom_acc]
      refine List.pairwise_append.mpr ⟨pushCells_apart r (n + 1), by simp, fun a ha b hb => ?_⟩
      rw [List.mem_singleton.mp hb]
      have := (cellsFrom_ge r (n + 1) a ha).1
      exact fun e => by rw [e] at this; exact absurd this (by simp)
    · exact pushCells_apart r n

theorem newCompEnv {M : Model} {A : Around} {E : Value → Shared → Prop} {s : Shared} {scope : Scope} {globals : Addr} {cl : List (Str × Addr)} {qual : Str} {outer : Env} {Q : Env → Shared → Prop}
    (h : Q { scope, locals := s.heap.objs.size, globals, cells := cellsFrom (s.heap.objs.size + 1) scope.names cl, qual, func := none, code := outer.code, frame := outer.frame, builtins := outer.builtins }
      { s with heap := pushCells (s.heap.push { cls := .type "dict", data := .dict #[] }) scope.names }) :
    wpAny M A (newFunctionEnv scope globals cl [] qual none .none (some outer)) Q E s := by
  simp only [newFunctionEnv, Option.isSome_some, if_true]
  refine wpAny_bind (wpAny_alloc ?_)
  refine wpAny_bind (wpAny_layCells _ (fun name kind cells => by cases hkc : kind == NameKind.cell <;> simp [hkc]) _ _ _ _ ?_)
  rw [show ({ s with heap := s.heap.push { cls := .type "dict", data := .dict #[] } } : Shared).heap.objs.size = s.heap.objs.size + 1 from Heap.size_push ..]
  exact wpAny_bind (wpAny_pure (wpAny_pure h))

/-- the closure of a block: the cells of the names that it takes from outside -/
theorem closure_go {env : Env} (c : Str → Addr) : ∀ (names : List (Str × NameKind)) (acc : List (Str × Addr)), (∀ x, (x, NameKind.free) ∈ names → env.cells.lookup x = some (c x)) →
    (forIn names acc fun (p : Str × NameKind) (cs : List (Str × Addr)) => if (p.2 == NameKind.free) = true then do let a ← cellOf env p.1; pure (ForInStep.yield ((p.1, a) :: cs)) else pure (ForInStep.yield cs) : Sem (List (Str × Addr))) =
      pure (((names.filter (·.2 == NameKind.free)).map fun p => (p.1, c p.1)).reverse ++ acc)
  | [], acc, _ => by simp
  | (x, k) :: r, acc, h => by
    rw [List.forIn_cons]
    have hr : ∀ x, (x, NameKind.free) ∈ r → env.cells.lookup x = some (c x) := fun x hx => h x (.tail _ hx)
    by_cases hk : k = .free
    · subst hk
      have hx := h x (.head _)
      simp only [beq_self_eq_true, if_true]
      have e : cellOf env x = pure (c x) := by unfold cellOf; rw [hx]
      rw [e]
      show (forIn r ((x, c x) :: acc) _ : Sem (List (Str × Addr))) = _
      rw [closure_go c r _ hr]
      simp
    · have hk' : (k == NameKind.free) = false := by simpa using hk
      simp only [hk', Bool.false_eq_true, if_false]
      show (forIn r acc _ : Sem (List (Str × Addr))) = _
      rw [closure_go c r _ hr]
      simp [hk']
theorem closure_of {env : Env} {scope : Scope} (c : Str → Addr) (h : ∀ x, (x, NameKind.free) ∈ scope.names → env.cells.lookup x = some (c x)) :
    closureFor scope env = pure (((scope.names.filter (·.2 == NameKind.free)).map fun p => (p.1, c p.1)).reverse) := by
  have := closure_go (env := env) c scope.names [] h
  rw [List.append_nil] at this
  unfold closureFor
  show (forIn scope.names [] _ : Sem (List (Str × Addr))) >>= pure = _
  refine (congrArg (· >>= pure) ?_).trans (bind_pure _)
  exact this
end Mine
end
section
open PySem PySem.W PyProof.Rows PySem.Calls
set_option Elab.async false
set_option maxRecDepth 100000
namespace Mine

theorem lookup_relabel {env : Env} : ∀ {names : List (Str × NameKind)} {x : Str} {k : NameKind}, names.lookup x = some k →
    (names.map fun (n, k) => if (k == NameKind.free && env.scope.kind == .function && env.kindOf n == some .cell) then (n, NameKind.cell) else (n, k)).lookup x = some (if (k == NameKind.free && env.scope.kind == .function && env.kindOf x == some .cell) then NameKind.cell else k)
  | [], _, _, h => by simp at h
  | (n, k') :: r, x, k, h => by
    have ih := @lookup_relabel env r x k
    show List.lookup x ((if (k' == NameKind.free && env.scope.kind == .function && env.kindOf n == some .cell) = true then (n, NameKind.cell) else (n, k')) :: _) = _
    cases hx : x == n with
    | true =>
      simp only [List.lookup_cons, hx] at h
      cases h
      have e : x = n := by simpa using hx
      subst e
      by_cases hc : (k' == NameKind.free && env.scope.kind == .function && env.kindOf x == some .cell) = true
      · rw [if_pos hc, if_pos hc]; simp [List.lookup_cons]
      · rw [if_neg hc, if_neg hc]; simp [List.lookup_cons]
    | false =>
      simp only [List.lookup_cons, hx] at h
      by_cases hc : (k' == NameKind.free && env.scope.kind == .function && env.kindOf n == some .cell) = true
      · rw [if_pos hc]; simp only [List.lookup_cons, hx]; exact ih h
      · rw [if_neg hc]; simp only [List.lookup_cons, hx]; exact ih h

noncomputable def plainB (x : Str) : Bool := !(x == ("__debug__" : Str)) && !(x == ("__classdict__" : Str))
theorem plainB_iff {x : Str} (h : plainB x = true) : PlainName x := by
  unfold plainB at h
  simp only [Bool.and_eq_true, Bool.not_eq_true'] at h
  exact h
noncomputable def nodupB : List Str → Bool
  | [] => true
  | x :: r => !r.contains x && nodupB r
theorem nodupB_iff : ∀ {l : List Str}, nodupB l = true → l.Nodup
  | [], _ => List.nodup_nil
  | x :: r, h => by
    unfold nodupB at h
    simp only [Bool.and_eq_true, Bool.not_eq_true'] at h
    refine List.nodup_cons.mpr ⟨fun hm => ?_, nodupB_iff h.2⟩
    have := List.contains_iff_mem.mpr hm
    rw [h.1] at this; cases this
/-- what is asked of a block's table of names -/
noncomputable def compOk (scope : Scope) (parent : List String) (ns : Names) (cn : List String) (rc rg : List String) : Bool :=
  scope.kind == .function && nodupB (scope.names.map (·.1)) &&
  (scope.names.all fun p => p.2 != .free || parent.any fun y => Str.ofString y == p.1) &&
  (ns.all fun p => scope.names.lookup (Str.ofString p.1) == some p.2 && p.2 != .free && plainB (Str.ofString p.1)) &&
  (cn.all fun y => scope.names.lookup (Str.ofString y) == some .free || scope.names.lookup (Str.ofString y) == some .cell) &&
  (rc.all fun y => scope.names.lookup (Str.ofString y) == some .free) && (rg.all fun y => scope.names.lookup (Str.ofString y) == some .globalImplicit) &&
  decide (rc ++ rg).Nodup
structure CompOk (scope : Scope) (parent : List String) (ns : Names) (cn : List String) (rc rg : List String) : Prop where
  kind : scope.kind = .function
  nd : (scope.names.map (·.1)).Nodup
  caps : ∀ x, (x, NameKind.free) ∈ scope.names → ∃ y ∈ parent, Str.ofString y = x
  hns : ∀ p ∈ ns, scope.names.lookup (Str.ofString p.1) = some p.2 ∧ p.2 ≠ .free ∧ PlainName (Str.ofString p.1)
  hcn : ∀ y ∈ cn, scope.names.lookup (Str.ofString y) = some .free ∨ scope.names.lookup (Str.ofString y) = some .cell
  hrc : ∀ y ∈ rc, scope.names.lookup (Str.ofString y) = some .free
  hrg : ∀ y ∈ rg, scope.names.lookup (Str.ofString y) = some .globalImplicit
  rn : (rc ++ rg).Nodup
theorem compOk_iff {scope : Scope} {parent : List String} {ns : Names} {cn : List String} {rc rg : List String} (h : compOk scope parent ns cn rc rg = true) : CompOk scope parent ns cn rc rg := by
  unfold compOk at h
  simp only [Bool.and_eq_true, List.all_eq_true, beq_iff_eq, bne_iff_ne, ne_eq, Bool.or_eq_true, List.any_eq_true, decide_eq_true_eq] at h
  obtain ⟨⟨⟨⟨⟨⟨⟨h1, h2⟩, h3⟩, h4⟩, h5⟩, h6⟩, h7⟩, h8⟩ := h
  refine ⟨h1, nodupB_iff h2, fun x hx => ?_, fun p hp => ?_, h5, h6, h7, h8⟩
  · rcases h3 _ hx with e | e
    · exact absurd rfl e
    · exact e
  · obtain ⟨⟨a, b⟩, c⟩ := h4 p hp
    exact ⟨a, b, plainB_iff c⟩

theorem mem_of_lookup' {l : List (Str × NameKind)} {x : Str} {k : NameKind} (h : l.lookup x = some k) : (x, k) ∈ l := mem_of_lookup h
theorem filter_lookup {names : List (Str × NameKind)} (hn : (names.map (·.1)).Nodup) (c : Str → Addr) {x : Str} (hx : (x, NameKind.free) ∈ names) :
    (((names.filter (·.2 == NameKind.free)).map fun p => (p.1, c p.1)).reverse).lookup x = some (c x) := by
  refine lookup_of_mem ?_ ?_
  · rw [List.map_reverse, List.map_map]
    refine (List.reverse_perm _).nodup_iff.mpr ?_
    have : ((fun x : Str × Addr => x.1) ∘ fun p : Str × NameKind => (p.1, c p.1)) = (·.1) := rfl
    rw [this]
    exact hn.sublist ((List.filter_sublist (l := names)).map _)
  · exact List.mem_reverse.mpr (List.mem_map.mpr ⟨(x, .free), List.mem_filter.mpr ⟨hx, rfl⟩, rfl⟩)
theorem filter_lookup_none {names : List (Str × NameKind)} (c : Str → Addr) {x : Str} {a : Addr} (h : (((names.filter (·.2 == NameKind.free)).map fun p => (p.1, c p.1)).reverse).lookup x = some a) : (x, NameKind.free) ∈ names ∧ a = c x := by
  have := mem_of_lookup h
  obtain ⟨p, hp, e⟩ := List.mem_map.mp (List.mem_reverse.mp this)
  obtain ⟨h1, h2⟩ := List.mem_filter.mp hp
  have h3 : p.2 = .free := by simpa using h2
  cases e
  refine ⟨?_, rfl⟩
  rw [← h3]; exact h1

section
variable {G : Gx} {bs im : PM} {s : Shared} {ρ : Rho} {σ : Led}

/-- the state within a comprehension's block -/
theorem St.block (hS : St G bs im s ρ σ) {scope : Scope} {ns : Names} {cn : List String} {ρc ρg : Rho} (X : List Addr) (hX : ∀ x ∈ X, bs x = none ∧ ∀ p ∈ G.κ, p.2 ≠ x) (hk : CompOk scope G.cn ns cn (ρc.map (·.1)) (ρg.map (·.1))) (hc : ∀ p ∈ ρc, p ∈ ρ) (hg : ∀ p ∈ ρg, p ∈ G.C.gl) :
    ∃ cl, closureFor scope G.env = pure cl ∧ ∀ (qual : Str) (t : Nat), ∃ κ' bs', ∀ env', env' = ({ scope := relabel scope G.env, locals := s.heap.objs.size, globals := G.env.globals, cells := cellsFrom (s.heap.objs.size + 1) scope.names cl, qual, func := none, code := G.env.code, frame := G.env.frame, builtins := G.env.builtins } : Env) →
      St ⟨G.C, env', κ', ns, cn, G.n⟩ bs' im { s with heap := pushCells (s.heap.push { cls := .type "dict", data := .dict #[] }) scope.names, toks := t } (ρc ++ ρg) σ ∧
      (∀ b o, s.heap.get? b = some o → b ∉ σ.map (·.1) → b ∉ X → bs' b = some o) ∧ (∀ b ∈ X, bs' b = none) ∧ (∀ p ∈ κ', s.heap.get? p.2 = none) := by
  have hfree : ∀ x, (x, NameKind.free) ∈ scope.names → ∃ c, G.env.cells.lookup x = some c := fun x hx => by
    obtain ⟨y, hy, rfl⟩ := hk.caps x hx
    exact (hS.f.ck y hy).2
  let c : Str → Addr := fun x => (G.env.cells.lookup x).getD 0
  have hcl : ∀ x, (x, NameKind.free) ∈ scope.names → G.env.cells.lookup x = some (c x) := fun x hx => by
    obtain ⟨a, ha⟩ := hfree x hx
    show _ = some ((G.env.cells.lookup x).getD 0)
    rw [ha]; rfl
  refine ⟨_, closure_of c hcl, fun qual t => ?_⟩
  generalize hcle : ((scope.names.filter (·.2 == NameKind.free)).map fun p => (p.1, c p.1)).reverse = cl
  have hn := get?_size_none s.heap
  generalize hC : s.heap.objs.size = C at *
  let κ' := cellsFrom (C + 1) scope.names []
  let h₁ := s.heap.push { cls := .type "dict", data := .dict #[] }
  let h₂ := pushCells h₁ scope.names
  have hk₁ : ∀ b o, s.heap.get? b = some o → h₁.get? b = some o := fun b o e => Heap.get?_push_of_some _ e
  have hk₂ : ∀ b o, s.heap.get? b = some o → h₂.get? b = some o := fun b o e => pushCells_keeps _ _ b o (hk₁ b o e)
  have hsz : h₁.objs.size = C + 1 := by rw [← hC]; exact Heap.size_push ..
  have cok := cellsFrom_ok scope.names h₁ (C + 1) [] ⟨fun _ _ hm => (nomatch hm), List.Pairwise.nil⟩ (by rw [hsz]; exact Nat.le_refl _)
  rw [hsz] at cok
  have fresh : ∀ a, C ≤ a → s.heap.get? a = none := fun a ha => by
    cases e : s.heap.get? a with
    | none => rfl
    | some o => have := Heap.lt_size e; rw [hC] at this; exact absurd this (Nat.not_lt.mpr ha)
  have κge : ∀ p ∈ κ', C + 1 ≤ p.2 ∧ (p.1, NameKind.cell) ∈ scope.names := fun p hp => cellsFrom_ge _ _ p hp
  have κnd : (κ'.map (·.1)).Nodup := cellsFrom_keys _ _ hk.nd
  let hid : List Addr := C :: κ'.map (·.2) ++ (σ.map (·.1) ++ X)
  let bs' : PM := fun b => if b ∈ hid then none else h₂.get? b
  have nhid : ∀ b o, s.heap.get? b = some o → b ∉ σ.map (·.1) → b ∉ X → b ∉ hid := fun b o e hb hbX hm => by
    rcases List.mem_append.mp hm with hm | hm
    · rcases List.mem_cons.mp hm with q | hm
      · rw [q, hn] at e; cases e
      · obtain ⟨p, hp, q⟩ := List.mem_map.mp hm
        rw [← q, fresh p.2 (Nat.le_of_succ_le (κge p hp).1)] at e; cases e
    · rcases List.mem_append.mp hm with hm | hm
      · exact hb hm
      · exact hbX hm
  have hbs' : ∀ b o, s.heap.get? b = some o → b ∉ σ.map (·.1) → b ∉ X → bs' b = some o := fun b o e hb hbX => by
    show (if b ∈ hid then none else h₂.get? b) = _
    rw [if_neg (nhid b o e hb hbX)]; exact hk₂ b o e
  have hidn : ∀ b, b ∈ hid → bs' b = none := fun b hb => by show (if b ∈ hid then none else h₂.get? b) = _; rw [if_pos hb]
  have inσ : ∀ b, b ∈ σ.map (·.1) → b ∈ hid := fun b hb => List.mem_append_right _ (List.mem_append_left _ hb)
  refine ⟨κ', bs', fun env' henv => ⟨⟨⟨hS.l.os, hS.l.gens, fun a o e => ?_, fun b o e => ?_, fun b o e => hk₂ b o (hS.l.him b o e), fun p hp => ?_, hS.l.nd, hS.l.gok⟩,
    ⟨⟨fun _ => none, ?_, fun p hp => ?_⟩, ?_, hidn _ ?_, (by subst henv; exact hS.l.im_none hn), (by subst henv; exact hS.l.led_some hn), fun p hp => ?_, pushCells_apart _ _, fun x a hx => ?_, ?_, ?_, ?_, fun p hp => ?_, fun p hp hp2 => ?_, fun y hy => ?_⟩⟩, hbs', fun b hb => hidn _ (List.mem_append_right _ (List.mem_append_right _ hb)), fun p hp => fresh _ (Nat.le_of_succ_le (κge p hp).1)⟩⟩
  · have := hS.l.cb a o e
    exact hbs' a o (hS.l.hbs _ _ this) (fun hm => by rw [(hS.l.ledNe hm).1] at this; cases this) fun hm => by rw [(hX a hm).1] at this; cases this
  · have e' : (if b ∈ hid then none else h₂.get? b) = some o := e
    split at e'
    · cases e'
    · exact e'
  · obtain ⟨a, b, d⟩ := hS.l.led p hp
    exact ⟨a.at fun o e => hk₂ _ o e, hidn _ (inσ _ (mem_map_fst hp)), d⟩
  · subst henv
    have := (Heap.Ns.new s.heap (.type "dict")).keeps (pushCells_keeps scope.names h₁)
    rw [hC] at this; exact this
  · -- the names that the block reads
    rcases List.mem_append.mp hp with hp | hp
    · have hfr := mem_of_lookup (hk.hrc p.1 (List.mem_map_of_mem hp))
      obtain ⟨m, hm, hr⟩ := hS.f.vars
      obtain ⟨v, hv, hpn, how⟩ := hr p (hc p hp)
      refine ⟨v, hv, hpn, ?_⟩
      obtain ⟨y, hy, hye⟩ := hk.caps _ hfr
      have hck := hS.f.ck y hy
      rw [hye] at hck
      have hkind : env'.kindOf (Str.ofString p.1) = some .cell ∨ env'.kindOf (Str.ofString p.1) = some .free := by
        subst henv
        have := lookup_relabel (env := G.env) (hk.hrc p.1 (List.mem_map_of_mem hp))
        show (relabel scope G.env).names.lookup _ = _ ∨ (relabel scope G.env).names.lookup _ = _
        unfold relabel
        dsimp only
        rw [this]
        split <;> simp
      have hlook : env'.cells.lookup (Str.ofString p.1) = some (c (Str.ofString p.1)) := by
        subst henv
        show (cellsFrom (C + 1) scope.names cl).lookup _ = _
        rw [cellsFrom_acc, lookup_append', lookup_none_of (l := cellsFrom (C + 1) scope.names []) (fun hm => by
          obtain ⟨q, hq, e⟩ := List.mem_map.mp hm
          have h1 := lookup_of_mem hk.nd (κge q hq).2
          rw [e, hk.hrc p.1 (List.mem_map_of_mem hp)] at h1; cases h1), ← hcle, filter_lookup hk.nd c hfr]
        rfl
      cases how with
      | loc hkk _ => rcases hck.1 with q | q <;> rw [hkk] at q <;> cases q
      | cell hkk a ha hcell =>
        have hca : a = c (Str.ofString p.1) := by have := hcl _ hfr; rw [ha] at this; exact Option.some.inj this
        exact .cell hkind _ hlook (hca ▸ hcell.keeps hk₂)
      | glob hkk _ => rcases hck.1 with q | q <;> rw [hkk] at q <;> cases q
    · obtain ⟨hpn, v, hv, hgl⟩ := hS.l.gok p (hg p hp)
      refine ⟨v, hv im, hpn, .glob ?_ hgl⟩
      subst henv
      have := lookup_relabel (env := G.env) (hk.hrg p.1 (List.mem_map_of_mem hp))
      show (relabel scope G.env).names.lookup _ = _
      unfold relabel
      dsimp only
      rw [this]; rfl
  · rw [List.map_append]; exact hk.rn
  · subst henv; exact .head _
  · obtain ⟨h1, h2⟩ := cok.empty p.1 p.2 hp
    refine ⟨⟨_, h1⟩, hidn _ (List.mem_append_left _ (.tail _ (List.mem_map_of_mem hp))), hS.l.im_none (fresh _ (Nat.le_of_succ_le h2)), hS.l.led_some (fresh _ (Nat.le_of_succ_le h2)), ?_⟩
    subst henv
    show (cellsFrom (C + 1) scope.names cl).lookup _ = _
    rw [cellsFrom_acc, lookup_append', lookup_of_mem κnd hp]; rfl
  · subst henv
    have hx' : (cellsFrom (C + 1) scope.names cl).lookup x = some a := hx
    rw [cellsFrom_acc, lookup_append'] at hx'
    cases hq : (cellsFrom (C + 1) scope.names []).lookup x with
    | some b => rw [hq] at hx'; cases hx'; exact .inl (mem_of_lookup hq)
    | none =>
      rw [hq] at hx'
      have hx2 : cl.lookup x = some a := hx'
      rw [← hcle] at hx2
      obtain ⟨h1, h2⟩ := filter_lookup_none c hx2
      refine .inr ?_
      have hl := hcl x h1
      rw [← h2] at hl
      rcases hS.f.outer x a hl with q | ⟨o, q⟩
      · obtain ⟨⟨w, o, ho, _⟩, _, _, hnm, _⟩ := hS.f.cells _ q
        exact ⟨o, hbs' a o ho hnm fun hm => (hX a hm).2 _ q rfl⟩
      · exact ⟨o, hbs' a o (hS.l.hbs _ _ q) (fun hm => by rw [(hS.l.ledNe hm).1] at q; cases q) fun hm => by rw [(hX a hm).1] at q; cases q⟩
  · subst henv; exact hk.kind
  · subst henv; exact hS.f.gl
  · subst henv; exact hS.f.bi
  · obtain ⟨a, b, d⟩ := hk.hns p hp
    refine ⟨?_, d⟩
    subst henv
    have := lookup_relabel (env := G.env) a
    show (relabel scope G.env).names.lookup _ = _
    unfold relabel
    dsimp only
    rw [this, if_neg]
    simp [b]
  · obtain ⟨a, b, d⟩ := hk.hns p hp
    rw [hp2] at a
    exact cellsFrom_mem _ _ _ (mem_of_lookup a)
  · subst henv
    have key : ∀ k, scope.names.lookup (Str.ofString y) = some k → k = .free ∨ k = .cell → ((relabel scope G.env).names.lookup (Str.ofString y) = some .cell ∨ (relabel scope G.env).names.lookup (Str.ofString y) = some .free) := fun k hk' hkk => by
      have := lookup_relabel (env := G.env) hk'
      unfold relabel
      dsimp only
      rw [this]
      rcases hkk with rfl | rfl
      · split <;> simp
      · simp
    rcases hk.hcn y hy with h | h
    · refine ⟨key _ h (.inl rfl), ?_⟩
      show ∃ c, (cellsFrom (C + 1) scope.names cl).lookup _ = _
      rw [cellsFrom_acc, lookup_append', ← hcle, filter_lookup hk.nd c (mem_of_lookup h)]
      cases (cellsFrom (C + 1) scope.names []).lookup (Str.ofString y) with
      | none => exact ⟨_, rfl⟩
      | some b => exact ⟨_, rfl⟩
    · refine ⟨key _ h (.inr rfl), ?_⟩
      obtain ⟨a, ha⟩ := cellsFrom_mem scope.names (C + 1) _ (mem_of_lookup h)
      show ∃ c, (cellsFrom (C + 1) scope.names cl).lookup _ = _
      rw [cellsFrom_acc, lookup_append', lookup_of_mem κnd ha]
      exact ⟨_, rfl⟩
end
end Mine
end
section
open PySem PySem.W PyProof.Rows PySem.Calls
set_option Elab.async false
set_option maxRecDepth 100000
namespace Mine

section
variable {G : Gx} {A : Around} {bs im₀ im : PM} {h₀ : Heap} {s : Shared} {ρ : Rho} {σ σf σr : Led} {items : List PV} {I : Addr} {fp : List Addr} {P : Nat → Value → Prop} {S : Nat → Heap → Prop} {i : Nat}
/-- the loop is over: what the ledger gave comes back -/
theorem Loop.fin (y : Loop G A im₀ bs im h₀ s σf σr items I fp P S i ρ σ) (hI : IsIt G A im₀ h₀ σf σr items I fp P S) (hl : G.env.locals ∉ fp) (hk : ∀ p ∈ G.κ, p.2 ∉ fp) (hsr : ∀ b ∈ σr.map (·.1), b ∈ fp)
    (hback : ∀ p ∈ σr, LR im₀ h₀ p.1 p.2 ∧ bs p.1 = none ∧ G.env.locals ≠ p.1 ∧ ∀ q ∈ G.κ, q.2 ≠ p.1) (hnr : (σr.map (·.1)).Nodup) {h' : Heap} (tk : Nat) (hk' : ∀ b o, b ∉ [I] → s.heap.get? b = some o → h'.get? b = some o) :
    St G bs im { s with heap := h', toks := tk } ρ (σr ++ σ) := by
  have hIf := hI.fpI
  have z : St G bs im { s with heap := h', toks := tk } ρ σ := y.st.off (W := fun b => b = I) tk (fun b o q e => hk' b o (by simpa using q) e) (fun b q => q ▸ y.ib) (fun b q => q ▸ y.ii) (fun b q => by rw [q]; exact y.is I hIf) (fun q => hl (q ▸ hIf)) (fun p hp q => hk p hp (by rw [q]; exact hIf))
  have fr : ∀ p ∈ σr, p.1 ∉ σ.map (·.1) := fun p hp => y.is _ (hsr _ (mem_map_fst hp))
  refine ⟨⟨z.l.os, z.l.gens, z.l.cb, z.l.hbs, z.l.him, fun p hp => ?_, ?_, z.l.gok⟩, ⟨z.f.vars, z.f.rn, z.f.lbs, z.f.lim, ?_, fun p hp => ?_, z.f.apart, z.f.outer, z.f.kind, z.f.gl, z.f.bi, z.f.kn, z.f.own, z.f.ck⟩⟩
  · rcases List.mem_append.mp hp with hp | hp
    · obtain ⟨a, b, _⟩ := hback p hp
      obtain ⟨hpf, hpfp, hpI⟩ := hI.back p hp
      exact ⟨(a.at fun o e => hk' _ o (by simpa using hpI) (y.old _ hpfp hpI o e)).mono y.ext.1, b, y.ifr _ (mem_map_fst hp)⟩
    · exact z.l.led p hp
  · rw [List.map_append]
    refine List.nodup_append.mpr ⟨hnr, z.l.nd, fun a ha b hb e => ?_⟩
    obtain ⟨p, hp, rfl⟩ := List.mem_map.mp ha
    exact fr p hp (e ▸ hb)
  · rw [List.map_append]; intro hm
    rcases List.mem_append.mp hm with hm | hm
    · obtain ⟨p, hp, e⟩ := List.mem_map.mp hm
      exact (hback p hp).2.2.1 e.symm
    · exact z.f.lled hm
  · obtain ⟨a, b, c, d, e⟩ := z.f.cells p hp
    refine ⟨a, b, c, ?_, e⟩
    rw [List.map_append]; intro hm
    rcases List.mem_append.mp hm with hm | hm
    · obtain ⟨q, hq, e⟩ := List.mem_map.mp hm
      exact (hback q hq).2.2.2 p hp e.symm
    · exact d hm
end

noncomputable def isSetE : Expr → Bool
  | .Set .. => true
  | _ => false
theorem folded_of {e : Expr} (h : isSetE e = false) (env : Env) (x : Value) : foldedSetIterable e env x = pure x := by
  cases e <;> first | rfl | (exact absurd h (by simp [isSetE]))
noncomputable def gensOk (gens : List Comprehension) : Bool := gens.all fun g => !isSetE g.iter && g.is_async == 0
theorem gensOk_iff {gens : List Comprehension} (h : gensOk gens = true) : (∀ g ∈ gens, g.is_async = 0) ∧ ∀ g ∈ gens, ∀ env x, foldedSetIterable g.iter env x = pure x := by
  unfold gensOk at h
  rw [List.all_eq_true] at h
  refine ⟨fun g hg => ?_, fun g hg env x => folded_of ?_ env x⟩
  · have := h g hg; simp only [Bool.and_eq_true, beq_iff_eq] at this; exact this.2
  · have := h g hg; simp only [Bool.and_eq_true, Bool.not_eq_true'] at this; exact this.1

/-- a comprehension: what is asked of it -/
noncomputable def CompT (G : Gx) (elt : Expr) (g : Comprehension) (rest : List Comprehension) (scope : Scope) (ρ : Rho) (σ : Led) (Q : List PV → Rho → Led → Prop) : Prop :=
  Ev G g.iter ρ σ (fun p ρ₁ σ₁ => ∃ σf σr σ₂ items ns cn ρc ρg, ItSrc G p σf σr items ∧ (∀ q ∈ σf ++ σ₂, q ∈ σ₁) ∧ (((σf ++ σ₂).map (·.1)).Nodup ∨ σf ++ σ₂ = σ₁) ∧ (σr.map (·.1)).Nodup ∧
    compOk scope G.cn ns cn (ρc.map (·.1)) (ρg.map (·.1)) = true ∧ (∀ p ∈ ρc, p ∈ ρ₁) ∧ (∀ p ∈ ρg, p ∈ G.C.gl) ∧
    ∀ env' κ', compItems ⟨G.C, env', κ', ns, cn, G.n⟩ g (compInner ⟨G.C, env', κ', ns, cn, G.n⟩ elt rest) items [] (ρc ++ ρg) σ₂ (fun acc _ σ' => Q acc ρ₁ (σr ++ σ')))

theorem comp_run {G : Gx} {elt : Expr} {g : Comprehension} {rest : List Comprehension} {scope : Scope} {pos : Pos} {ρ : Rho} {σ : Led} {Q : List PV → Rho → Led → Prop} (h : CompT G elt g rest scope ρ σ Q) (hgs : gensOk (g :: rest) = true)
    {use : Option (Value → Sem Unit)} {A : Around} {bs im : PM} {s : Shared} (hA : AOk G.n A) (hS : St G bs im s ρ σ) (hcl0 : ∀ x, (x, NameKind.free) ∈ scope.names → ∃ y ∈ G.cn, Str.ofString y = x) (hnd0 : (scope.names.map (·.1)).Nodup) (hkind0 : scope.kind = .function)
    {Qv : Value → Shared → Prop}
    (hQ : ∀ D C s' im' ρ₁ σ' acc, St G bs im' s' ρ₁ ((D, .list acc) :: σ') → Ext bs im im' → Q acc ρ₁ σ' → (∃ m, s'.heap.Ns C m) → (bs C = none ∧ im' C = none ∧ C ∉ ((D, LO.list acc) :: σ').map (·.1) ∧ C ≠ G.env.locals ∧ ∀ p ∈ G.κ, p.2 ≠ C) →
      compPost G.C.M A Bot use Qv (.ref D) C (.ok .next) s') :
    wpAny G.C.M A (comprehension (.ListComp elt (g :: rest) scope pos) scope G.env (firstIterPos (g :: rest) pos) (newList []) (firstAsync (g :: rest)) (firstIter (g :: rest) G.env) use) Qv Bot s := by
  obtain ⟨hga, hgf⟩ := gensOk_iff hgs
  have e1 : firstAsync (g :: rest) = false := by
    obtain ⟨t, i, f, a⟩ := g
    have : a = 0 := hga _ (.head _)
    subst this; rfl
  have e2 : firstIter (g :: rest) G.env = eval g.iter G.env := by obtain ⟨t, i, f, a⟩ := g; rfl
  rw [e1, e2]
  have hfree : ∀ x, (x, NameKind.free) ∈ scope.names → ∃ c, G.env.cells.lookup x = some c := fun x hx => by
    obtain ⟨y, hy, rfl⟩ := hcl0 x hx
    exact (hS.f.ck y hy).2
  have hcl : ∃ cl, closureFor scope G.env = pure cl := ⟨_, closure_of (fun x => (G.env.cells.lookup x).getD 0) fun x hx => by obtain ⟨c, hc⟩ := hfree x hx; rw [hc]; rfl⟩
  obtain ⟨cl, hcl⟩ := hcl
  refine wpAny_comprehension_free (use := use) (g := g) (gs := rest) rfl (hgf g (.head _) G.env) hcl hkind0 (fun x hx e => lookup_of_mem hnd0 (by rw [← e]; exact hx)) ?_
  refine wpAny_mono (h A bs im s hA hS) (fun v s₁ p => ?_) fun _ _ e => e
  obtain ⟨im₁, r, ρ₁, σ₁, e₁, hr, hS₁, σf, σr, σ₂, items, ns, cn, ρc, ρg, hI, hsub, hnd', hnr, hck, hρc, hρg, hT⟩ := p
  have hnd : ((σf ++ σ₂).map (·.1)).Nodup := hnd'.elim id fun e => e ▸ hS₁.l.nd
  have hck := compOk_iff hck
  have hS₁' := hS₁.sub hsub hnd
  refine hI A bs im₁ s₁ ρ₁ σ₂ v _ hA hS₁' hr fun I h' tk fp P S hk hfr hob hIt => ?_
  obtain ⟨hI2, hfp, hm⟩ := it_facts hS₁' hk hfr hob hIt
  have hS₂ : St G bs im₁ { s₁ with heap := h', toks := tk } ρ₁ (σf ++ σ₂) := hS₁'.grow hk tk
  -- the list
  refine wpAny_newObj_type ?_
  generalize hD : ({ s₁ with heap := h', toks := tk } : Shared).heap.objs.size = D
  have hS₃ := hS₂.pushLed { cls := .type "list", data := .seq ([] : List Value).toArray } (.list []) tk ⟨[], 0, Heap.get?_push_size _ rfl, .nil⟩
  have hDn : h'.get? D = none := by rw [← hD]; exact get?_size_none _
  dsimp only at hS₃ hD ⊢
  rw [hD] at hS₃
  generalize hH : h'.push { cls := .type "list", data := .seq ([] : List Value).toArray } = h₃ at hS₃ ⊢
  have hk₃ : ∀ b o, h'.get? b = some o → h₃.get? b = some o := fun b o e => by rw [← hH]; exact Heap.get?_push_of_some _ e
  -- the block
  have hX : ∀ x ∈ [I], bs x = none ∧ ∀ p ∈ G.κ, p.2 ≠ x := fun x hx => by
    rw [List.mem_singleton.mp hx]; exact ⟨hI2.1, (hfp I hIt.fpI).2.2.1⟩
  obtain ⟨cl', hcl', hblk⟩ := hS₃.block [I] hX hck hρc hρg
  have ecl : cl' = cl := by rw [hcl] at hcl'; injection hcl' with hcl'; exact hcl'.symm
  subst ecl
  refine newCompEnv ?_
  obtain ⟨κ', bs', hblk⟩ := hblk G.env.qual tk
  obtain ⟨hS₄, hbs', hbX, hκ'⟩ := hblk _ rfl
  dsimp only at hS₄ ⊢
  generalize hC : h₃.objs.size = C at hS₄ ⊢
  generalize hH₄ : pushCells (h₃.push { cls := .type "dict", data := .dict #[] }) scope.names = h₄ at hS₄ ⊢
  generalize henv : ({ scope := relabel scope G.env, locals := C, globals := G.env.globals, cells := cellsFrom (C + 1) scope.names cl', qual := G.env.qual, func := none, code := G.env.code, frame := G.env.frame, builtins := G.env.builtins } : Env) = env' at hS₄ ⊢
  have envC : env'.locals = C := by rw [← henv]
  have hk₄ : ∀ b o, h₃.get? b = some o → h₄.get? b = some o := fun b o e => by rw [← hH₄]; exact pushCells_keeps _ _ b o (Heap.get?_push_of_some _ e)
  have hk₁₄ : ∀ b o, h'.get? b = some o → h₄.get? b = some o := fun b o e => hk₄ b o (hk₃ b o e)
  have hCn : h₃.get? C = none := by rw [← hC]; exact get?_size_none _
  let G' : Gx := ⟨G.C, env', κ', ns, cn, G.n⟩
  have hS₄' : St G' bs' im₁ { s₁ with heap := h₄, toks := tk } (ρc ++ ρg) ((D, .list []) :: σ₂) := by
    refine hS₄.sub (fun q hq => ?_) ?_
    · rcases List.mem_cons.mp hq with rfl | hq
      · exact .head _
      · exact .tail _ (List.mem_append_right _ hq)
    · have := hS₃.l.nd
      rw [List.map_cons, List.map_append, List.nodup_cons] at this
      rw [List.map_cons, List.nodup_cons]
      exact ⟨fun q => this.1 (List.mem_append_right _ q), (List.nodup_append.mp this.2).2.1⟩
  have h3some : ∀ b ∈ fp, ∃ o, h₃.get? b = some o := fun b hb => let ⟨o, ho⟩ := (hfp b hb).2.2.2; ⟨o, hk₃ b o ho⟩
  have fpl : G'.env.locals ∉ fp := fun hm' => by
    obtain ⟨o, ho⟩ := h3some _ hm'
    have : G'.env.locals = C := envC
    rw [this, hCn] at ho; cases ho
  have fpk : ∀ p ∈ G'.κ, p.2 ∉ fp := fun p hp hm' => by
    obtain ⟨o, ho⟩ := h3some _ hm'
    have := hκ' p hp
    dsimp only at this
    rw [ho] at this; cases this
  have fpσ : ∀ b ∈ fp, b ∉ ((D, LO.list []) :: σ₂).map (·.1) := fun b hb hm' => by
    rcases List.mem_cons.mp hm' with q | q
    · obtain ⟨o, ho⟩ := (hfp b hb).2.2.2
      rw [q, hDn] at ho; cases ho
    · exact (hfp b hb).1 q
  have hsrf : ∀ p ∈ σr, p.1 ∈ σf.map (·.1) := fun p hp => mem_map_fst (hIt.back p hp).1
  have hsr : ∀ b ∈ σr.map (·.1), b ∈ fp := fun b hb => by obtain ⟨p, hp, rfl⟩ := List.mem_map.mp hb; exact (hIt.back p hp).2.1
  have hbI : bs' I = none := hbX I (.head _)
  have hIt' : IsIt G' A im₁ h₄ σf σr items I fp P S := ⟨hIt.walks, hIt.walks.frame _ _ _ hIt.st fun b _ o e => hk₁₄ b o e, hIt.fpI, hIt.fps, hIt.back, hIt.has, hIt.item, hIt.go⟩
  have hin : InnerOk G' elt (g :: rest) scope pos D 0 rest := InnerOk.all hga (fun g hg x => hgf g hg _ x) rest 0 rfl
  have hso : ∀ b ∈ fp, ∃ o, h₄.get? b = some o := fun b hb => let ⟨o, ho⟩ := (hfp b hb).2.2.2; ⟨o, hk₁₄ b o ho⟩
  have loop : ∀ {R : Result → Shared → Prop}, (∀ im' s' ρ' σ' acc' i h'' tk', Loop G' A im₁ bs' im' h₄ s' σf σr items I fp P S i ρ' ((D, .list acc') :: σ') → (∀ b o, b ∉ [I] → s'.heap.get? b = some o → h''.get? b = some o) → Q acc' ρ₁ (σr ++ σ') → R (.ok .next) { s' with heap := h'', toks := tk' }) →
      codeAny G.C.M A (.compLoop (.ListComp elt (g :: rest) scope pos) 0 (.ref I) (.ref D) env') R { s₁ with heap := h₄, toks := tk } := fun {R} hR =>
    Comp.loop (G := G') (K := fun acc _ σ' => Q acc ρ₁ (σr ++ σ')) hin rfl hga hA hIt' fpl fpk hsr hso
      ⟨hS₄', .refl, hIt'.st, fun _ _ _ o q => q, hbI, hI2.2, fpσ, fun b hb => by obtain ⟨p, hp, rfl⟩ := List.mem_map.mp hb; exact (hm _ (hsrf p hp)).2.1⟩ (hT env' κ') hR
  have post : ∀ im' s' ρ' σ' acc' i h'' tk', Loop G' A im₁ bs' im' h₄ s' σf σr items I fp P S i ρ' ((D, .list acc') :: σ') → (∀ b o, b ∉ [I] → s'.heap.get? b = some o → h''.get? b = some o) → Q acc' ρ₁ (σr ++ σ') →
      compPost G.C.M A Bot use Qv (.ref D) C (.ok .next) { s' with heap := h'', toks := tk' } := fun im' s' ρ' σ' acc' i h'' tk' L hk'' hq => by
    have hback : ∀ p ∈ σr, LR im₁ h₄ p.1 p.2 ∧ bs' p.1 = none ∧ G'.env.locals ≠ p.1 ∧ ∀ q ∈ G'.κ, q.2 ≠ p.1 := fun p hp => by
      obtain ⟨hpf, hpfp, hpI⟩ := hIt.back p hp
      have := hS₄.l.led p (.tail _ (List.mem_append_left _ hpf))
      exact ⟨this.1, this.2.1, fun q => fpl (q ▸ hpfp), fun q hq e => fpk q hq (e ▸ hpfp)⟩
    have F := L.fin hIt' fpl fpk hsr hback hnr tk' hk''
    have hCm : ∃ m, h''.Ns C m := by obtain ⟨m, a, _⟩ := F.f.vars; exact ⟨m, envC ▸ a⟩
    -- back in the frame
    have B := hS₁'.back (s' := { s' with heap := h'', toks := tk' }) (σ' := σr ++ (D, .list acc') :: σ') (fun b => b ∈ (σf ++ σ₂).map (·.1) ∨ b = I ∨ b = D) F.l L.ext (fun b o e nh => ?_) fun b hb => ?_
    · obtain ⟨B1, B2⟩ := B
      have s1n : ∀ b, h₃.get? b = none → s₁.heap.get? b = none := fun b q => by
        cases z : s₁.heap.get? b with
        | none => rfl
        | some o => rw [hk₃ b o (hk b o z)] at q; cases q
      have hC1 := s1n C hCn
      have hCs : C ∉ ((D, LO.list acc') :: (σr ++ σ')).map (·.1) := fun q => by
        have hl := F.f.lled
        have : G'.env.locals = C := envC
        rw [this, List.map_append, List.map_cons] at hl
        rw [List.map_cons, List.map_append] at q
        rcases List.mem_cons.mp q with q | q
        · exact hl (List.mem_append_right _ (q ▸ .head _))
        · rcases List.mem_append.mp q with q | q
          · exact hl (List.mem_append_left _ q)
          · exact hl (List.mem_append_right _ (.tail _ q))
      have B3 : St G bs im' { s' with heap := h'', toks := tk' } ρ₁ ((D, .list acc') :: (σr ++ σ')) := by
        refine B1.sub (fun q hq => ?_) ?_
        · rcases List.mem_cons.mp hq with rfl | hq
          · exact List.mem_append_right _ (.head _)
          · rcases List.mem_append.mp hq with hq | hq
            · exact List.mem_append_left _ hq
            · exact List.mem_append_right _ (.tail _ hq)
        · have := B1.l.nd
          rw [List.map_append, List.map_cons] at this
          rw [List.map_cons, List.map_append]
          exact (List.perm_middle.symm.nodup_iff).mpr this
      refine hQ D C _ im' ρ₁ (σr ++ σ') acc' B3 (e₁.trans B2) hq hCm ⟨hS₁'.l.bs_none hC1, ?_, hCs, ?_, fun p hp q => ?_⟩
      · have := F.f.lim
        rw [show G'.env.locals = C from envC] at this; exact this
      · intro q
        obtain ⟨o, _, _, ho, _⟩ := hS₁'.f.loc_some
        rw [← q, hC1] at ho; cases ho
      · obtain ⟨⟨w, o, ho, _⟩, _⟩ := hS₁'.f.cells p hp
        rw [q, hC1] at ho; cases ho
    · have h1 : b ∉ (σf ++ σ₂).map (·.1) := fun q => nh (.inl q)
      have h2 : b ≠ I := fun q => nh (.inr (.inl q))
      have h3 : b ≠ D := fun q => nh (.inr (.inr q))
      exact hbs' b o (hk₃ b o (hk b o e)) (by rw [List.map_cons]; intro q; rcases List.mem_cons.mp q with q | q; exact h3 q; exact h1 q) (by simpa using h2)
    · rcases hb with q | q | q
      · exact .inl q
      · subst q
        rcases hfr with z | z
        · exact .inr z
        · exact .inl (by rw [List.map_append]; exact List.mem_append_left _ z)
      · subst q
        refine .inr ?_
        cases z : s₁.heap.get? b with
        | none => rfl
        | some o => rw [hk b o z] at hDn; cases hDn
  have hgz : env' = { env' with scope := relabel scope G.env } := by rw [← henv]
  show codeAny _ _ (.compStart (.ListComp elt (g :: rest) scope pos) 0 (.ref I) (.ref D) _) _ _
  refine codeAny_compStart_at (g := g) rfl (hga g (.head _)) (loop post) (hIt.walks.self 0 _ _ _ hIt'.st (loop post))

/-- [e for ..]: a list that nobody turns any more -/
theorem Ev.comp {G : Gx} {elt : Expr} {g : Comprehension} {rest : List Comprehension} {scope : Scope} {pos : Pos} {ρ : Rho} {σ : Led} {Q : PV → Rho → Led → Prop} (h : CompT G elt g rest scope ρ σ (fun acc ρ' σ' => Q (.lst acc) ρ' σ'))
    (hgs : gensOk (g :: rest) = true := by rfl) (hsc : compOk scope G.cn [] [] [] [] = true := by rfl) : Ev G (.ListComp elt (g :: rest) scope pos) ρ σ Q := fun A bs im s hA hS => by
  have hk := compOk_iff hsc
  show wpAny _ _ (eval (.ListComp elt (g :: rest) scope pos) G.env) _ _ _
  rw [eval_ListComp]
  refine comp_run h hgs (use := Option.none) hA hS hk.caps hk.nd hk.kind fun D C s' im' ρ₁ σ' acc B e hq hC hf => ?_
  obtain ⟨m, hm⟩ := hC
  refine ⟨m, hm, fun h' hs' => ?_⟩
  have B' : St G bs im' { s' with heap := h', toks := s'.toks } ρ₁ ((D, .list acc) :: σ') := B.off (W := fun b => b = C) s'.toks (fun b o q e => (hs'.2 b q).trans e) (fun b q => q ▸ hf.1) (fun b q => q ▸ hf.2.1) (fun b q => by rw [q]; exact hf.2.2.1) (fun q => hf.2.2.2.1 q.symm) (fun p hp q => hf.2.2.2.2 p hp q)
  obtain ⟨im'', e', hv, B''⟩ := B'.freeze
  exact ⟨im'', _, ρ₁, σ', e.trans e', hv, B'', hq⟩
/-- the same, as a list that may be turned -/
theorem Ev.compM {G : Gx} {elt : Expr} {g : Comprehension} {rest : List Comprehension} {scope : Scope} {pos : Pos} {ρ : Rho} {σ : Led} {Q : PV → Rho → Led → Prop} (h : CompT G elt g rest scope ρ σ (fun acc ρ' σ' => ∀ D, Q (.ref D) ρ' ((D, .list acc) :: σ')))
    (hgs : gensOk (g :: rest) = true := by rfl) (hsc : compOk scope G.cn [] [] [] [] = true := by rfl) : Ev G (.ListComp elt (g :: rest) scope pos) ρ σ Q := fun A bs im s hA hS => by
  have hk := compOk_iff hsc
  show wpAny _ _ (eval (.ListComp elt (g :: rest) scope pos) G.env) _ _ _
  rw [eval_ListComp]
  refine comp_run h hgs (use := Option.none) hA hS hk.caps hk.nd hk.kind fun D C s' im' ρ₁ σ' acc B e hq hC hf => ?_
  obtain ⟨m, hm⟩ := hC
  refine ⟨m, hm, fun h' hs' => ?_⟩
  have B' : St G bs im' { s' with heap := h', toks := s'.toks } ρ₁ ((D, .list acc) :: σ') := B.off (W := fun b => b = C) s'.toks (fun b o q e => (hs'.2 b q).trans e) (fun b q => q ▸ hf.1) (fun b q => q ▸ hf.2.1) (fun b q => by rw [q]; exact hf.2.2.1) (fun q => hf.2.2.2.1 q.symm) (fun p hp q => hf.2.2.2.2 p hp q)
  exact ⟨im', _, ρ₁, _, e, .ref, B', hq D⟩

noncomputable def swapC (scope : Scope) (pos : Pos) (y : Str) (py : Pos) : Bool := py.line == pos.line && !(scope.names.any fun p => p.1 == y && (p.2 == .local || p.2 == .cell))
theorem swapC_iff {env : Env} {elt : Expr} {gens : List Comprehension} {scope : Scope} {pos py : Pos} {y : Str} {line : Nat} (hk : env.scope.kind = .function) (ky : env.kindOf y = some .local) (h : swapC scope pos y py = true) : swapsWith (.ListComp elt gens scope pos) (some (.Name y py)) line env = pure true := by
  have hb : env.blockKind = .function := by unfold Env.blockKind; rw [hk]; rfl
  unfold swapC at h
  simp only [Bool.and_eq_true] at h
  unfold swapsWith
  dsimp only
  rw [hb, ky]
  have e : (py.line == (Expr.ListComp elt gens scope pos).pos.line) = true := h.1
  have e2 : ∀ f : Str × NameKind → Bool, (∀ p, f p = (p.1 == y && (p.2 == .local || p.2 == .cell))) → (!(scope.names.any f)) = true := fun f hf => by rw [show f = _ from funext hf]; exact h.2
  rw [e, e2 _ (fun p => rfl)]
  rfl
/-- x = [e for ..] -/
theorem asg_comp {G : Gx} {elt : Expr} {g : Comprehension} {rest : List Comprehension} {scope : Scope} {pos spos : Pos} {y : String} {py : Pos} {ρ : Rho} {σ : Led} {Q : Fl → Rho → Led → Prop} {val : Addr → List PV → PV} {led : Addr → List PV → Led → Led}
    (hfz : ∀ {bs im s ρ σ D acc}, St G bs im s ρ ((D, .list acc) :: σ) → ∃ im', Ext bs im im' ∧ VR im' (val D acc) (.ref D) ∧ St G bs im' s ρ (led D acc σ))
    (h : CompT G elt g rest scope ρ σ (fun acc ρ' σ' => ∀ D, As G (.Name (Str.ofString y) py) (val D acc) ρ' (led D acc σ') (fun ρ'' σ'' => Q .next ρ'' σ'')))
    (hy : (y, NameKind.local) ∈ G.ns) (hsw : swapC scope pos (Str.ofString y) py = true)
    (hgs : gensOk (g :: rest) = true) (hsc : compOk scope G.cn [] [] [] [] = true) :
    Ex1 G (.Assign [.Name (Str.ofString y) py] (.ListComp elt (g :: rest) scope pos) spos) ρ σ Q := fun A bs im s hA hS => by
  have hk := compOk_iff hsc
  show wpAny _ _ (exec (.Assign [.Name (Str.ofString y) py] (.ListComp elt (g :: rest) scope pos) spos) G.env) _ _ _
  rw [exec_Assign_Name_used _ _ _ _ (swapC_iff hS.f.kind (hS.f.kn _ hy).1 hsw)]
  refine wpAny_bind (wpAny_standAt (wpAny_bind ?_))
  show wpAny _ A (do let _ ← comprehension (.ListComp elt (g :: rest) scope pos) scope G.env _ (newList []) (firstAsync (g :: rest)) (firstIter (g :: rest) G.env) (some (assign (.Name (Str.ofString y) py) G.env))) _ _ s
  refine wpAny_bind (wpAny_mono (comp_run (Qv := fun _ s' => Post G FlR bs im Q .next s') h hgs (use := some (assign (.Name (Str.ofString y) py) G.env)) hA hS hk.caps hk.nd hk.kind fun D C s' im' ρ₁ σ' acc B e hq hC hf => ?_) (fun _ s' p => wpAny_pure (wpAny_pure p)) fun _ _ x => x)
  show wpAny _ A (assign (.Name (Str.ofString y) py) G.env (.ref D)) _ _ _
  obtain ⟨m, hm⟩ := hC
  have hCs : ∀ b, b = C → b ∉ ((D, LO.list acc) :: σ').map (·.1) := fun b q => by rw [q]; exact hf.2.2.1
  have B₁ := B.over (fun b => b = C) hCs (fun q => hf.2.2.2.1 q.symm) (fun p hp q => hf.2.2.2.2 p hp q)
  have sub := PM.over_sub (F := fun b => b = C) B.l.hbs
  obtain ⟨im₂, e₂, hv, B₂⟩ := hfz B₁
  refine wpAny_mono (hq D A _ im₂ s' (.ref D) hA B₂ hv) (fun _ s₃ p => ?_) fun _ _ x => x
  obtain ⟨im₃, _, ρ₃, σ₃, e₃, _, B₃, hq₃⟩ := p
  obtain ⟨oC, es, ep, hoC, hr⟩ := hm
  have bsC : bs.over (fun b => b = C) s'.heap C = some oC := by unfold PM.over; rw [if_pos rfl]; exact hoC
  refine ⟨m, ⟨oC, es, ep, B₃.l.hbs _ _ bsC, hr⟩, fun h' hs' => ?_⟩
  have e23 := e₂.trans e₃
  have imC : im₃ C = none := by
    cases q : im₃ C with
    | none => rfl
    | some o => exact absurd hf.2.1 ((e23.2 C (by rw [q]; simp)).resolve_right (by rw [bsC]; simp))
  have ledC : C ∉ σ₃.map (·.1) := fun q => by rw [(B₃.l.ledNe q).1] at bsC; cases bsC
  have B₄ := B₃.under sub B.l.cb B.f.outer
  exact ⟨im₃, .next, ρ₃, σ₃, e.trans (e23.under sub), rfl, B₄.off (W := fun b => b = C) s₃.toks (fun b o q e => (hs'.2 b q).trans e) (fun b q => q ▸ hf.1) (fun b q => q ▸ imC) (fun b q => by rw [q]; exact ledC) (fun q => hf.2.2.2.1 q.symm) (fun p hp q => hf.2.2.2.2 p hp q), hq₃⟩
theorem Ex1.asgComp {G : Gx} {elt : Expr} {g : Comprehension} {rest : List Comprehension} {scope : Scope} {pos spos : Pos} {y : String} {py : Pos} {ρ : Rho} {σ : Led} {Q : Fl → Rho → Led → Prop}
    (h : CompT G elt g rest scope ρ σ (fun acc ρ' σ' => ∀ _ : Addr, As G (.Name (Str.ofString y) py) (.lst acc) ρ' σ' (fun ρ'' σ'' => Q .next ρ'' σ'')))
    (hy : (y, NameKind.local) ∈ G.ns) (hsw : swapC scope pos (Str.ofString y) py = true)
    (hgs : gensOk (g :: rest) = true := by rfl) (hsc : compOk scope G.cn [] [] [] [] = true := by rfl) :
    Ex1 G (.Assign [.Name (Str.ofString y) py] (.ListComp elt (g :: rest) scope pos) spos) ρ σ Q :=
  asg_comp (val := fun _ acc => .lst acc) (led := fun _ _ σ => σ) (fun hS => hS.freeze) h hy hsw hgs hsc
theorem Ex1.asgCompM {G : Gx} {elt : Expr} {g : Comprehension} {rest : List Comprehension} {scope : Scope} {pos spos : Pos} {y : String} {py : Pos} {ρ : Rho} {σ : Led} {Q : Fl → Rho → Led → Prop}
    (h : CompT G elt g rest scope ρ σ (fun acc ρ' σ' => ∀ D : Addr, As G (.Name (Str.ofString y) py) (.ref D) ρ' ((D, .list acc) :: σ') (fun ρ'' σ'' => Q .next ρ'' σ'')))
    (hy : (y, NameKind.local) ∈ G.ns) (hsw : swapC scope pos (Str.ofString y) py = true)
    (hgs : gensOk (g :: rest) = true := by rfl) (hsc : compOk scope G.cn [] [] [] [] = true := by rfl) :
    Ex1 G (.Assign [.Name (Str.ofString y) py] (.ListComp elt (g :: rest) scope pos) spos) ρ σ Q :=
  asg_comp (val := fun D _ => .ref D) (led := fun D acc σ => (D, .list acc) :: σ) (fun {_ im _ _ _ _ _} hS => ⟨im, .refl, .ref, hS⟩) h hy hsw hgs hsc
end Mine
end
section
open PySem PySem.W PyProof.Rows PySem.Calls
set_option Elab.async false
set_option maxRecDepth 100000
namespace Mine

/-! lists of expressions -/
noncomputable def EvL (G : Gx) (pos : Pos) (es : List Expr) (ρ : Rho) (σ : Led) (Q : List PV → Rho → Led → Prop) : Prop := Tr G relL (spliced (backTo pos (starEach es G.env))) ρ σ Q
theorem EvL.nil {G : Gx} {pos : Pos} {ρ : Rho} {σ : Led} {Q : List PV → Rho → Led → Prop} (h : Q [] ρ σ) : EvL G pos [] ρ σ Q := fun _ _ _ _ _ hS => spliced_nil (.now hS .nil h)
theorem EvL.cons {G : Gx} {pos : Pos} {e : Expr} {es : List Expr} {ρ : Rho} {σ : Led} {Q : List PV → Rho → Led → Prop} (h : Ev G e ρ σ (fun p ρ₁ σ₁ => EvL G pos es ρ₁ σ₁ (fun ps ρ₂ σ₂ => Q (p :: ps) ρ₂ σ₂)))
    (he : starEach (e :: es) G.env = (false, eval e G.env) :: starEach es G.env := by rfl) : EvL G pos (e :: es) ρ σ Q := fun A bs im s hA hS => by
  rw [he]
  show wpAny _ _ (spliced ((false, eval e G.env) :: backTo pos (starEach es G.env))) _ _ _
  refine spliced_cons (wpAny_mono (h A bs im s hA hS) (fun v s₁ p => ?_) fun _ _ x => x)
  obtain ⟨im₁, r, ρ₁, σ₁, e₁, hr, hS₁, hC⟩ := p
  refine wpAny_mono (hC A bs im₁ s₁ hA hS₁) (fun vs s₂ p => ?_) fun _ _ x => x
  obtain ⟨im₂, rs, ρ₂, σ₂, e₂, hrs, hS₂, hD⟩ := p
  exact ⟨im₂, r :: rs, ρ₂, σ₂, e₁.trans e₂, .cons (hr.mono e₂.1) hrs, hS₂, hD⟩
/-- keywords' values -/
noncomputable def EvK (G : Gx) (pos : Pos) (ks : List Keyword) (ρ : Rho) (σ : Led) (Q : List PV → Rho → Led → Prop) : Prop := Tr G relL (evalAll ((backToKw pos (keywordEach ks G.env)).map (·.2))) ρ σ Q
theorem EvK.nil {G : Gx} {pos : Pos} {ρ : Rho} {σ : Led} {Q : List PV → Rho → Led → Prop} (h : Q [] ρ σ) : EvK G pos [] ρ σ Q := fun _ _ _ _ _ hS => wpAny_evalAll_nil (.now hS .nil h)
theorem EvK.cons {G : Gx} {pos p0 : Pos} {x : Option Str} {e : Expr} {ks : List Keyword} {ρ : Rho} {σ : Led} {Q : List PV → Rho → Led → Prop} (h : Ev G e ρ σ (fun p ρ₁ σ₁ => EvK G pos ks ρ₁ σ₁ (fun ps ρ₂ σ₂ => Q (p :: ps) ρ₂ σ₂))) :
    EvK G pos (⟨x, e, p0⟩ :: ks) ρ σ Q := fun A bs im s hA hS => by
  show wpAny _ _ (evalAll ((do let v ← eval e G.env; standAt pos; pure v) :: (backToKw pos (keywordEach ks G.env)).map (·.2))) _ _ _
  refine wpAny_evalAll_cons (wpAny_bind (wpAny_mono (h A bs im s hA hS) (fun v s₁ p => wpAny_bind (wpAny_standAt (wpAny_pure ?_))) fun _ _ x => x))
  obtain ⟨im₁, r, ρ₁, σ₁, e₁, hr, hS₁, hC⟩ := p
  refine wpAny_mono (hC A bs im₁ s₁ hA hS₁) (fun vs s₂ p => ?_) fun _ _ x => x
  obtain ⟨im₂, rs, ρ₂, σ₂, e₂, hrs, hS₂, hD⟩ := p
  exact ⟨im₂, r :: rs, ρ₂, σ₂, e₁.trans e₂, .cons (hr.mono e₂.1) hrs, hS₂, hD⟩

theorem newTuple_run {G : Gx} {A : Around} {bs im : PM} {s : Shared} {ρ : Rho} {σ : Led} {ps : List PV} {vs : List Value} {Q : PV → Rho → Led → Prop} (hS : St G bs im s ρ σ) (hv : VRs im ps vs) (hl : ps.length ≤ 1000000) (h : Q (.tup ps) ρ σ) :
    wpAny G.C.M A (newTuple vs) (Post G VR bs im Q) Bot s := by
  refine wpAny_newObj_type ?_ (by show vs.toArray.size ≤ sizeLine; rw [List.size_toArray, hv.length, sizeLine_eq]; omega)
  obtain ⟨e, hS'⟩ := hS.pushIm { cls := .type "tuple", data := .seq vs.toArray } rfl s.toks
  exact ⟨_, _, ρ, σ, e, .tup (PM.put_self ..) (hv.mono e.1), hS', h⟩
theorem Ev.tuple {G : Gx} {es : List Expr} {k : Nat} {pos : Pos} {ρ : Rho} {σ : Led} {Q : PV → Rho → Led → Prop} (h : EvL G pos es ρ σ (fun ps ρ₁ σ₁ => ps.length ≤ 1000000 ∧ Q (.tup ps) ρ₁ σ₁)) : Ev G (.Tuple es k pos) ρ σ Q :=
  fun A bs im s hA hS => Tuple_ (wpAny_mono (h A bs im s hA hS) (fun vs s₁ p => by
    obtain ⟨im₁, r, ρ₁, σ₁, e₁, hr, hS₁, hl, hC⟩ := p
    exact wpAny_mono (newTuple_run hS₁ hr hl hC) (fun _ _ q => q.ext e₁) fun _ _ x => x) fun _ _ x => x)
/-- a list display: a mutable list -/
theorem Ev.listM {G : Gx} {es : List Expr} {pos : Pos} {ρ : Rho} {σ : Led} {Q : PV → Rho → Led → Prop} (h : EvL G pos es ρ σ (fun ps ρ₁ σ₁ => ps.length ≤ 1000000 ∧ ∀ D, Q (.ref D) ρ₁ ((D, .list ps) :: σ₁))) : Ev G (.List es pos) ρ σ Q :=
  fun A bs im s hA hS => List_ (wpAny_mono (h A bs im s hA hS) (fun vs s₁ p => by
    obtain ⟨im₁, r, ρ₁, σ₁, e₁, hr, hS₁, hl, hC⟩ := p
    refine wpAny_newObj_type ?_ (by show vs.toArray.size ≤ sizeLine; rw [List.size_toArray, VRs.length hr, sizeLine_eq]; omega)
    have hS₂ := hS₁.pushLed { cls := .type "list", data := .seq vs.toArray } (.list r) s₁.toks ⟨vs, 0, Heap.get?_push_size _ rfl, hr⟩
    exact ⟨im₁, _, ρ₁, _, e₁, .ref, hS₂, hC _⟩) fun _ _ x => x)
/-- a list display: a list that nobody turns -/
theorem Ev.list {G : Gx} {es : List Expr} {pos : Pos} {ρ : Rho} {σ : Led} {Q : PV → Rho → Led → Prop} (h : EvL G pos es ρ σ (fun ps ρ₁ σ₁ => ps.length ≤ 1000000 ∧ Q (.lst ps) ρ₁ σ₁)) : Ev G (.List es pos) ρ σ Q :=
  fun A bs im s hA hS => List_ (wpAny_mono (h A bs im s hA hS) (fun vs s₁ p => by
    obtain ⟨im₁, r, ρ₁, σ₁, e₁, hr, hS₁, hl, hC⟩ := p
    refine wpAny_newObj_type ?_ (by show vs.toArray.size ≤ sizeLine; rw [List.size_toArray, VRs.length hr, sizeLine_eq]; omega)
    obtain ⟨e, hS'⟩ := hS₁.pushIm { cls := .type "list", data := .seq vs.toArray } rfl s₁.toks
    exact ⟨_, _, ρ₁, σ₁, e₁.trans e, .lst (PM.put_self ..) (hr.mono e.1), hS', hC⟩) fun _ _ x => x)

/-! calls -/
noncomputable def KwR (im : PM) (kw : List (String × PV)) (kvs : List (Str × Value)) : Prop := kvs.map (·.1) = kw.map (fun p => Str.ofString p.1) ∧ VRs im (kw.map (·.2)) (kvs.map (·.2))
theorem KwR.nil {im : PM} : KwR im [] [] := ⟨rfl, .nil⟩
noncomputable def Keeps? (M : Model) (h : Heap) (f : Value) : Prop := ∃ k, (k = Keeper.frame ∨ k = Keeper.machine ∨ k = Keeper.boundFrame) ∧ Looks M h (keeperOf f) k
theorem keeps_builtin {M : Model} {h : Heap} {id : String} : Keeps? M h (.builtin id) := ⟨.machine, .inr (.inl rfl), fun _ _ _ _ _ q => wpAny_pure q⟩
theorem keeps_type {M : Model} {h : Heap} {id : String} : Keeps? M h (.type id) := ⟨.machine, .inr (.inl rfl), fun _ _ _ _ _ q => wpAny_pure q⟩
theorem keeps_func {M : Model} {h : Heap} {a : Addr} {o : Obj} {fd : FuncData} (ho : h.get? a = some o) (hd : o.data = .func fd) : Keeps? M h (.ref a) :=
  ⟨.frame, .inl rfl, fun A Q E s k q => by
    unfold keeperOf
    refine wpAny_bind (wpAny_load (k _ _ ho) ?_)
    rw [hd]; exact wpAny_pure q⟩
theorem keeps_rec {M : Model} {h : Heap} {a : Addr} {o : Obj} {vs : Array Value} (ho : h.get? a = some o) (hc : o.cls = .type "builtin_function_or_method") (hd : o.data = .fields vs) : Keeps? M h (.ref a) :=
  ⟨.machine, .inr (.inl rfl), fun A Q E s k q => by
    unfold keeperOf
    refine wpAny_bind (wpAny_load (k _ _ ho) ?_)
    rw [hd, hc]
    exact wpAny_pure q⟩

/-- a call of f by values and keywords -/
noncomputable def CallP (G : Gx) (f : PV) (ps : List PV) (kw : List (String × PV)) (ρ : Rho) (σ : Led) (Q : PV → Rho → Led → Prop) : Prop :=
  ∀ A bs im s fv vs kvs, AOk G.n A → St G bs im s ρ σ → VR im f fv → VRs im ps vs → KwR im kw kvs → Keeps? G.C.M s.heap fv ∧ wpAny G.C.M A (call fv vs kvs) (Post G VR bs im Q) Bot s

theorem evalArgs_any {M : Model} {A : Around} {E : Value → Shared → Prop} {s : Shared} {f : Value} {l : List (Bool × Sem Value)} {Q : Args → Shared → Prop} (hst : l.any (·.1) = false)
    (h : wpAny M A (spliced l) (fun vs s' => Q ⟨vs, []⟩ s') E s) : wpAny M A (evalArgs f true l []) Q E s := by
  cases l with
  | nil =>
    unfold evalArgs
    show wpAny M A (spliced [] >>= _) Q E s
    refine wpAny_bind (wpAny_mono h (fun vs s' h' => ?_) fun _ _ x => x)
    exact wpAny_bind (wpAny_pure (wpAny_holding (wpAny_bind (wpAny_pure (wpAny_bind (wpAny_pure (wpAny_pure h')))))))
  | cons a r =>
    obtain ⟨b, t⟩ := a
    rw [List.any_cons, Bool.or_eq_false_iff] at hst
    have hb : b = false := hst.1
    subst hb
    exact evalArgs_plain h
theorem evalArgs_kws {M : Model} {A : Around} {E : Value → Shared → Prop} {s : Shared} {f : Value} {l : List (Bool × Sem Value)} {keywords : List (Option Str × Sem Value)} {Q : Args → Shared → Prop} (hst : l.any (·.1) = false) (hall : keywords.all (·.1.isSome) = true)
    (h : wpAny M A (spliced l) (fun vs s₁ => wpAny M A (evalAll (keywords.map (·.2))) (fun ks s₂ => Q ⟨vs, (keywords.filterMap (·.1)).zip ks⟩ s₂) E s₁) E s) : wpAny M A (evalArgs f true l keywords) Q E s := by
  cases l with
  | nil =>
    unfold evalArgs
    show wpAny M A (spliced [] >>= _) Q E s
    refine wpAny_bind (wpAny_mono h (fun vs s' h' => ?_) fun _ _ x => x)
    refine wpAny_bind (wpAny_pure (wpAny_holding ?_))
    simp only [hall, if_true]
    exact wpAny_bind (wpAny_mono h' (fun ks s₂ h₂ => wpAny_bind (wpAny_pure (wpAny_pure h₂))) fun _ _ x => x)
  | cons a r =>
    obtain ⟨b, t⟩ := a
    rw [List.any_cons, Bool.or_eq_false_iff] at hst
    have hb : b = false := hst.1
    subst hb
    exact evalArgs_kw hall h

theorem callWith_run {G : Gx} {f : PV} {ps₀ : List PV} {pos pos' : Pos} {args : List Expr} {ρ : Rho} {σ : Led} {Q : PV → Rho → Led → Prop} (h : EvL G pos args ρ σ (fun ps ρ₁ σ₁ => CallP G f (ps₀ ++ ps) [] ρ₁ σ₁ Q))
    (hst : (backTo pos (starEach args G.env)).any (·.1) = false) {A : Around} {bs im : PM} {s : Shared} {fv : Value} {first : List Value} (hA : AOk G.n A) (hS : St G bs im s ρ σ) (hf : VR im f fv) (h0 : VRs im ps₀ first) :
    wpAny G.C.M A (callWith pos' fv first (backTo pos (starEach args G.env)) []) (Post G VR bs im Q) Bot s := by
  refine callWith_of (P := fun h => Keeps? G.C.M h fv) (by rw [hst]; rfl) (fun h k => k) (evalArgs_any hst (wpAny_mono (h A bs im s hA hS) (fun vs s₁ p => ?_) fun _ _ x => x))
  obtain ⟨im₁, r, ρ₁, σ₁, e₁, hr, hS₁, hC⟩ := p
  obtain ⟨k, w⟩ := hC A bs im₁ s₁ fv (first ++ vs) [] hA hS₁ (hf.mono e₁.1) ((h0.mono e₁.1).append hr) .nil
  exact ⟨k, wpAny_mono w (fun _ _ q => q.ext e₁) fun _ _ x => x⟩
theorem callWith_runK {G : Gx} {f : PV} {ps₀ : List PV} {pos pos' : Pos} {args : List Expr} {ks : List Keyword} {ρ : Rho} {σ : Led} {Q : PV → Rho → Led → Prop} (xs : List String)
    (h : EvL G pos args ρ σ (fun ps ρ₁ σ₁ => EvK G pos ks ρ₁ σ₁ (fun kps ρ₂ σ₂ => kps.length = xs.length ∧ CallP G f (ps₀ ++ ps) (xs.zip kps) ρ₂ σ₂ Q)))
    (hst : (backTo pos (starEach args G.env)).any (·.1) = false) (hx : (backToKw pos (keywordEach ks G.env)).map (·.1) = xs.map fun x => some (Str.ofString x)) {A : Around} {bs im : PM} {s : Shared} {fv : Value} {first : List Value} (hA : AOk G.n A) (hS : St G bs im s ρ σ) (hf : VR im f fv) (h0 : VRs im ps₀ first) :
    wpAny G.C.M A (callWith pos' fv first (backTo pos (starEach args G.env)) (backToKw pos (keywordEach ks G.env))) (Post G VR bs im Q) Bot s := by
  have e1 : (backToKw pos (keywordEach ks G.env)).all (·.1.isSome) = true := by
    rw [List.all_eq_true]; intro p hp
    have : p.1 ∈ (backToKw pos (keywordEach ks G.env)).map (·.1) := List.mem_map_of_mem hp
    rw [hx] at this
    obtain ⟨x, _, e⟩ := List.mem_map.mp this
    rw [← e]; rfl
  have e2 : (backToKw pos (keywordEach ks G.env)).any (·.1.isNone) = false := by
    rw [List.any_eq_false]; intro p hp
    have := List.all_eq_true.mp e1 p hp
    cases z : p.1 with
    | none => rw [z] at this; cases this
    | some x => simp
  have e3 : (backToKw pos (keywordEach ks G.env)).filterMap (·.1) = xs.map Str.ofString := by
    have : (backToKw pos (keywordEach ks G.env)).filterMap (·.1) = ((backToKw pos (keywordEach ks G.env)).map (·.1)).filterMap id := by rw [List.filterMap_map]; rfl
    rw [this, hx, List.filterMap_map]
    induction xs with
    | nil => rfl
    | cons x r ih => simp
  refine callWith_of (P := fun h => Keeps? G.C.M h fv) (by rw [hst, e2]; rfl) (fun h k => k) (evalArgs_kws hst e1 (wpAny_mono (h A bs im s hA hS) (fun vs s₁ p => ?_) fun _ _ x => x))
  obtain ⟨im₁, r, ρ₁, σ₁, e₁, hr, hS₁, hC⟩ := p
  refine wpAny_mono (hC A bs im₁ s₁ hA hS₁) (fun ks' s₂ p => ?_) fun _ _ x => x
  obtain ⟨im₂, kps, ρ₂, σ₂, e₂, hkps, hS₂, hlen, hD⟩ := p
  have e12 := e₁.trans e₂
  have hl1 := VRs.length hkps
  have hl2 : (xs.map Str.ofString).length = ks'.length := by rw [List.length_map]; omega
  have hl3 : xs.length = kps.length := by omega
  have hkw : KwR im₂ (xs.zip kps) ((xs.map Str.ofString).zip ks') := by
    refine ⟨?_, ?_⟩
    · rw [List.map_fst_zip (Nat.le_of_eq hl2)]
      rw [show (fun p : String × PV => Str.ofString p.1) = Str.ofString ∘ (·.1) from rfl, ← List.map_map, List.map_fst_zip (Nat.le_of_eq hl3)]
    · rw [List.map_snd_zip (Nat.le_of_eq hl2.symm), List.map_snd_zip (Nat.le_of_eq hl3.symm)]
      exact hkps
  rw [e3]
  obtain ⟨k, w⟩ := hD A bs im₂ s₂ fv (first ++ vs) _ hA hS₂ (hf.mono e12.1) ((h0.mono e12.1).append (VRs.mono e₂.1 _ _ hr)) hkw
  exact ⟨k, wpAny_mono w (fun _ _ q => q.ext e12) fun _ _ x => x⟩

/-- f(..) -/
theorem Ev.call {G : Gx} {x : String} {p0 pos : Pos} {args : List Expr} {ρ : Rho} {σ : Led} {Q : PV → Rho → Led → Prop} {f : PV} (hf : (x, f) ∈ ρ)
    (h : EvL G pos args ρ σ (fun ps ρ₁ σ₁ => CallP G f ps [] ρ₁ σ₁ Q)) (hst : (backTo pos (starEach args G.env)).any (·.1) = false := by rfl) : Ev G (.Call (.Name (Str.ofString x) p0) args [] pos) ρ σ Q := fun A bs im s hA hS => by
  rw [arm_eval_Call_Name']
  obtain ⟨hp, hl⟩ := load_has (A := A) (E := Bot) hS hf (Qv := fun v s₁ => wpAny G.C.M A (callWith pos v [] (backTo pos (starEach args G.env)) []) (Post G VR bs im Q) Bot s₁) (fun v hv => callWith_run (ps₀ := []) h hst hA hS hv .nil)
  exact wpAny_bind (wpAny_Name hl hp.1)
theorem Ev.callK {G : Gx} {x : String} {p0 pos : Pos} {args : List Expr} {ks : List Keyword} {ρ : Rho} {σ : Led} {Q : PV → Rho → Led → Prop} {f : PV} (xs : List String) (hf : (x, f) ∈ ρ)
    (h : EvL G pos args ρ σ (fun ps ρ₁ σ₁ => EvK G pos ks ρ₁ σ₁ (fun kps ρ₂ σ₂ => kps.length = xs.length ∧ CallP G f ps (xs.zip kps) ρ₂ σ₂ Q)))
    (hst : (backTo pos (starEach args G.env)).any (·.1) = false := by rfl) (hx : (backToKw pos (keywordEach ks G.env)).map (·.1) = xs.map (fun x => some (Str.ofString x)) := by rfl) : Ev G (.Call (.Name (Str.ofString x) p0) args ks pos) ρ σ Q := fun A bs im s hA hS => by
  rw [arm_eval_Call_Name']
  obtain ⟨hp, hl⟩ := load_has (A := A) (E := Bot) hS hf (Qv := fun v s₁ => wpAny G.C.M A (callWith pos v [] (backTo pos (starEach args G.env)) (backToKw pos (keywordEach ks G.env))) (Post G VR bs im Q) Bot s₁) (fun v hv => callWith_runK (ps₀ := []) xs h hst hx hA hS hv .nil)
  exact wpAny_bind (wpAny_Name hl hp.1)

/-- o.name(..): what the look-up of the method gives -/
noncomputable def MethP (G : Gx) (p : PV) (name : Str) (f : PV) (first : List PV) (ρ : Rho) (σ : Led) : Prop :=
  ∀ A bs im s v pl (Q : Value × List Value → Shared → Prop), AOk G.n A → St G bs im s ρ σ → VR im p v → (∀ fv fs tk, VR im f fv → VRs im first fs → Q (fv, fs) { s with toks := tk }) → wpAny G.C.M A (getMethod v name pl) Q Bot s
theorem meth_run {G : Gx} {o : Expr} {name : Str} {apos pos : Pos} {args : List Expr} {ks : List Keyword} {ρ : Rho} {σ : Led} {Q : PV → Rho → Led → Prop} {call : PV → List PV → Rho → Led → Prop}
    (h : Ev G o ρ σ (fun p ρ₁ σ₁ => ∃ f first, MethP G p name f first ρ₁ σ₁ ∧ call f first ρ₁ σ₁))
    (hcall : ∀ f first ρ σ, call f first ρ σ → ∀ {A : Around} {bs im : PM} {s : Shared} {fv : Value} {fs : List Value}, AOk G.n A → St G bs im s ρ σ → VR im f fv → VRs im first fs →
      wpAny G.C.M A (callWith pos fv fs (backTo pos (starEach args G.env)) (backToKw pos (keywordEach ks G.env))) (Post G VR bs im Q) Bot s)
    (hb : attributeBase o name G.env (eval o G.env) = eval o G.env) (hform : methodCallForm (args.length + ks.length) (backTo pos (starEach args G.env)) (backToKw pos (keywordEach ks G.env)) = true)
    (hl : (apos.endLine == pos.line) = true) : Ev G (.Call (.Attribute o name apos) args ks pos) ρ σ Q := fun A bs im s hA hS => by
  show wpAny _ _ (do
    let ov ← attributeBase o name G.env (eval o G.env)
    standAt apos.atName
    methodCall o name apos pos G.env ov (args.length + ks.length) (backTo pos (starEach args G.env)) (backToKw pos (keywordEach ks G.env))) _ _ _
  rw [hb]
  refine wpAny_bind (wpAny_mono (h A bs im s hA hS) (fun ov s₁ p => wpAny_bind (wpAny_standAt ?_)) fun _ _ x => x)
  obtain ⟨im₁, r, ρ₁, σ₁, e₁, hr, hS₁, f, first, hm, hc⟩ := p
  unfold methodCall
  rw [hform]
  refine wpAny_bind (wpAny_holding ?_)
  unfold calleeOf
  rw [if_pos rfl]
  refine hm A bs im₁ s₁ ov _ _ hA hS₁ hr fun fv fs tk hf hfs => ?_
  unfold methodCallPos
  rw [hl]
  simp only [Bool.not_true, Bool.false_or, if_true]
  exact wpAny_bind (wpAny_pure (wpAny_mono (hcall f first ρ₁ σ₁ hc hA (hS₁.toks tk) hf hfs) (fun _ _ q => q.ext e₁) fun _ _ x => x))
theorem Ev.meth {G : Gx} {o : Expr} {name : Str} {apos pos : Pos} {args : List Expr} {ρ : Rho} {σ : Led} {Q : PV → Rho → Led → Prop}
    (h : Ev G o ρ σ (fun p ρ₁ σ₁ => ∃ f first, MethP G p name f first ρ₁ σ₁ ∧ EvL G pos args ρ₁ σ₁ (fun ps ρ₂ σ₂ => CallP G f (first ++ ps) [] ρ₂ σ₂ Q)))
    (hst : (backTo pos (starEach args G.env)).any (·.1) = false := by rfl) (hb : attributeBase o name G.env (eval o G.env) = eval o G.env := by rfl) (hform : methodCallForm (args.length + 0) (backTo pos (starEach args G.env)) [] = true := by rfl)
    (hl : (apos.endLine == pos.line) = true := by rfl) : Ev G (.Call (.Attribute o name apos) args [] pos) ρ σ Q :=
  meth_run (call := fun f first ρ₁ σ₁ => EvL G pos args ρ₁ σ₁ (fun ps ρ₂ σ₂ => CallP G f (first ++ ps) [] ρ₂ σ₂ Q)) h (fun f first ρ σ hc A bs im s fv fs hA hS hf hfs => callWith_run hc hst hA hS hf hfs) hb hform hl
theorem Ev.methK {G : Gx} {o : Expr} {name : Str} {apos pos : Pos} {args : List Expr} {ks : List Keyword} {ρ : Rho} {σ : Led} {Q : PV → Rho → Led → Prop} (xs : List String)
    (h : Ev G o ρ σ (fun p ρ₁ σ₁ => ∃ f first, MethP G p name f first ρ₁ σ₁ ∧ EvL G pos args ρ₁ σ₁ (fun ps ρ₂ σ₂ => EvK G pos ks ρ₂ σ₂ (fun kps ρ₃ σ₃ => kps.length = xs.length ∧ CallP G f (first ++ ps) (xs.zip kps) ρ₃ σ₃ Q))))
    (hst : (backTo pos (starEach args G.env)).any (·.1) = false := by rfl) (hx : (backToKw pos (keywordEach ks G.env)).map (·.1) = xs.map (fun x => some (Str.ofString x)) := by rfl) (hb : attributeBase o name G.env (eval o G.env) = eval o G.env := by rfl)
    (hform : methodCallForm (args.length + ks.length) (backTo pos (starEach args G.env)) (backToKw pos (keywordEach ks G.env)) = true := by rfl)
    (hl : (apos.endLine == pos.line) = true := by rfl) : Ev G (.Call (.Attribute o name apos) args ks pos) ρ σ Q :=
  meth_run (call := fun f first ρ₁ σ₁ => EvL G pos args ρ₁ σ₁ (fun ps ρ₂ σ₂ => EvK G pos ks ρ₂ σ₂ (fun kps ρ₃ σ₃ => kps.length = xs.length ∧ CallP G f (first ++ ps) (xs.zip kps) ρ₃ σ₃ Q))) h (fun f first ρ σ hc A bs im s fv fs hA hS hf hfs => callWith_runK xs hc hst hx hA hS hf hfs) hb hform hl
end Mine
end
section
open PySem PySem.W PyProof.Rows PySem.Calls
set_option Elab.async false
set_option maxRecDepth 100000
namespace Mine

/-! functions of the program -/
/-- the state within a function's frame -/
theorem StL.enter {C : Cx} {bs im : PM} {s : Shared} {σ : Led} (hS : StL C bs im s σ) {scope : Scope} {ns : Names} {cn : List String} {ρg : Rho} (n : Nat) (hk : CompOk scope [] ns cn [] (ρg.map (·.1))) (hg : ∀ p ∈ ρg, p ∈ C.gl) (t : Nat) :
    ∃ κ' bs', (∀ env' : Env, env'.scope = scope → env'.locals = s.heap.objs.size → env'.globals = mainGlobals → env'.builtins = builtinsNs → env'.cells = cellsFrom (s.heap.objs.size + 1) scope.names [] →
      St ⟨C, env', κ', ns, cn, n⟩ bs' im { s with heap := pushCells (s.heap.push { cls := .type "frame", data := .dict #[] }) scope.names, toks := t } ρg σ) ∧
      (∀ b o, s.heap.get? b = some o → b ∉ σ.map (·.1) → bs' b = some o) := by
  have hn := get?_size_none s.heap
  generalize hC : s.heap.objs.size = L at *
  let κ' := cellsFrom (L + 1) scope.names []
  let h₁ := s.heap.push { cls := .type "frame", data := .dict #[] }
  let h₂ := pushCells h₁ scope.names
  have hk₁ : ∀ b o, s.heap.get? b = some o → h₁.get? b = some o := fun b o e => Heap.get?_push_of_some _ e
  have hk₂ : ∀ b o, s.heap.get? b = some o → h₂.get? b = some o := fun b o e => pushCells_keeps _ _ b o (hk₁ b o e)
  have hsz : h₁.objs.size = L + 1 := by rw [← hC]; exact Heap.size_push ..
  have cok := cellsFrom_ok scope.names h₁ (L + 1) [] ⟨fun _ _ hm => (nomatch hm), List.Pairwise.nil⟩ (by rw [hsz]; exact Nat.le_refl _)
  rw [hsz] at cok
  have fresh : ∀ a, L ≤ a → s.heap.get? a = none := fun a ha => by
    cases e : s.heap.get? a with
    | none => rfl
    | some o => have := Heap.lt_size e; rw [hC] at this; exact absurd this (Nat.not_lt.mpr ha)
  have κge : ∀ p ∈ κ', L + 1 ≤ p.2 ∧ (p.1, NameKind.cell) ∈ scope.names := fun p hp => cellsFrom_ge _ _ p hp
  have κnd : (κ'.map (·.1)).Nodup := cellsFrom_keys _ _ hk.nd
  let hid : List Addr := L :: κ'.map (·.2) ++ σ.map (·.1)
  let bs' : PM := fun b => if b ∈ hid then none else h₂.get? b
  have nhid : ∀ b o, s.heap.get? b = some o → b ∉ σ.map (·.1) → b ∉ hid := fun b o e hb hm => by
    rcases List.mem_append.mp hm with hm | hm
    · rcases List.mem_cons.mp hm with q | hm
      · rw [q, hn] at e; cases e
      · obtain ⟨p, hp, q⟩ := List.mem_map.mp hm
        rw [← q, fresh p.2 (Nat.le_of_succ_le (κge p hp).1)] at e; cases e
    · exact hb hm
  have hbs' : ∀ b o, s.heap.get? b = some o → b ∉ σ.map (·.1) → bs' b = some o := fun b o e hb => by
    show (if b ∈ hid then none else h₂.get? b) = _
    rw [if_neg (nhid b o e hb)]; exact hk₂ b o e
  have hidn : ∀ b, b ∈ hid → bs' b = none := fun b hb => by show (if b ∈ hid then none else h₂.get? b) = _; rw [if_pos hb]
  have inσ : ∀ b, b ∈ σ.map (·.1) → b ∈ hid := fun b hb => List.mem_append_right _ hb
  refine ⟨κ', bs', fun env' hs hl hgl hbi hce => ⟨⟨hS.os, hS.gens, fun a o e => ?_, fun b o e => ?_, fun b o e => hk₂ b o (hS.him b o e), fun p hp => ?_, hS.nd, hS.gok⟩,
    ⟨⟨fun _ => none, ?_, fun p hp => ?_⟩, hk.rn, hidn _ ?_, (by show im env'.locals = none; rw [hl]; exact hS.im_none hn), (by show env'.locals ∉ _; rw [hl]; exact hS.led_some hn), fun p hp => ?_, pushCells_apart _ _, fun x a hx => ?_, ?_, hgl, hbi, fun p hp => ?_, fun p hp hp2 => ?_, fun y hy => ?_⟩⟩, hbs'⟩
  · have := hS.cb a o e
    exact hbs' a o (hS.hbs _ _ this) fun hm => by rw [(hS.ledNe hm).1] at this; cases this
  · have e' : (if b ∈ hid then none else h₂.get? b) = some o := e
    split at e'
    · cases e'
    · exact e'
  · obtain ⟨a, b, d⟩ := hS.led p hp
    exact ⟨a.at fun o e => hk₂ _ o e, hidn _ (inσ _ (mem_map_fst hp)), d⟩
  · have := (Heap.Ns.new s.heap (.type "frame")).keeps (pushCells_keeps scope.names h₁)
    rw [hC, ← hl] at this; exact this
  · obtain ⟨hpn, v, hv, hgl⟩ := hS.gok p (hg p hp)
    refine ⟨v, hv im, hpn, .glob ?_ hgl⟩
    show env'.scope.names.lookup _ = _
    rw [hs]; exact hk.hrg p.1 (List.mem_map_of_mem hp)
  · show env'.locals ∈ hid
    rw [hl]; exact .head _
  · obtain ⟨h1, h2⟩ := cok.empty p.1 p.2 hp
    refine ⟨⟨_, h1⟩, hidn _ (List.mem_append_left _ (.tail _ (List.mem_map_of_mem hp))), hS.im_none (fresh _ (Nat.le_of_succ_le h2)), hS.led_some (fresh _ (Nat.le_of_succ_le h2)), ?_⟩
    show env'.cells.lookup _ = _
    rw [hce]; exact lookup_of_mem κnd hp
  · have hx' : env'.cells.lookup x = some a := hx
    rw [hce] at hx'
    exact .inl (mem_of_lookup hx')
  · show env'.scope.kind = _
    rw [hs]; exact hk.kind
  · obtain ⟨a, b, d⟩ := hk.hns p hp
    refine ⟨?_, d⟩
    show env'.scope.names.lookup _ = _
    rw [hs]; exact a
  · obtain ⟨a, b, d⟩ := hk.hns p hp
    rw [hp2] at a
    exact cellsFrom_mem _ _ _ (mem_of_lookup a)
  · rcases hk.hcn y hy with h | h
    · obtain ⟨z, hz, _⟩ := hk.caps _ (mem_of_lookup h)
      cases hz
    · refine ⟨.inl (by show env'.scope.names.lookup _ = _; rw [hs]; exact h), ?_⟩
      obtain ⟨a, ha⟩ := cellsFrom_mem scope.names (L + 1) _ (mem_of_lookup h)
      show ∃ c, env'.cells.lookup _ = _
      rw [hce, lookup_of_mem κnd ha]
      exact ⟨_, rfl⟩

/-- a call as such: what it gives, its ledger before and after -/
noncomputable def FnSpec (C : Cx) (n : Nat) (f : PV) (ps : List PV) (kw : List (String × PV)) (σ : Led) (Q : PV → Led → Prop) : Prop :=
  ∀ A bs im s fv vs kvs, AOk n A → StL C bs im s σ → VR im f fv → VRs im ps vs → KwR im kw kvs →
    Keeps? C.M s.heap fv ∧ codeAny C.M A (.call fv ⟨vs, kvs⟩) (fun r s' => ∃ v, r = .ok (.ret v) ∧ ∃ im' p σ', Ext bs im im' ∧ VR im' p v ∧ StL C bs im' s' σ' ∧ Q p σ') s
theorem FnSpec.call {C : Cx} {n : Nat} {f : PV} {ps : List PV} {kw : List (String × PV)} {σ : Led} {Q : PV → Led → Prop} (h : FnSpec C n f ps kw σ Q) {A : Around} {bs im : PM} {s : Shared} {fv : Value} {vs : List Value} {kvs : List (Str × Value)}
    (hA : AOk n A) (hS : StL C bs im s σ) (hf : VR im f fv) (hv : VRs im ps vs) (hk : KwR im kw kvs) : Keeps? C.M s.heap fv ∧ wpAny C.M A (call fv vs kvs) (fun v s' => ∃ im' p σ', Ext bs im im' ∧ VR im' p v ∧ StL C bs im' s' σ' ∧ Q p σ') Bot s := by
  obtain ⟨a, b⟩ := h A bs im s fv vs kvs hA hS hf hv hk
  refine ⟨a, wpAny_call (codeAny_mono b fun r s' z => ?_)⟩
  obtain ⟨v, rfl, z⟩ := z
  exact z

theorem FnSpec.mono {C : Cx} {n : Nat} {f : PV} {ps : List PV} {kw : List (String × PV)} {σ : Led} {Q Q' : PV → Led → Prop} (h : FnSpec C n f ps kw σ Q) (k : ∀ p σ, Q p σ → Q' p σ) : FnSpec C n f ps kw σ Q' :=
  fun A bs im s fv vs kvs hA hS hf hv hk => let ⟨a, b⟩ := h A bs im s fv vs kvs hA hS hf hv hk; ⟨a, codeAny_mono b fun _ _ ⟨v, e, im', p, σ', x, y, z, q⟩ => ⟨v, e, im', p, σ', x, y, z, k _ _ q⟩⟩
theorem FnSpec.more {C : Cx} {n m : Nat} {f : PV} {ps : List PV} {kw : List (String × PV)} {σ : Led} {Q : PV → Led → Prop} (h : FnSpec C n f ps kw σ Q) (hm : n ≤ m) : FnSpec C m f ps kw σ Q :=
  fun A bs im s fv vs kvs hA => h A bs im s fv vs kvs (hA.mono hm)

/-- a call within a frame -/
theorem CallP.of {G : Gx} {f : PV} {ps : List PV} {kw : List (String × PV)} {ρ : Rho} {σ σ₁ φ : Led} {Q : PV → Rho → Led → Prop} {Q' : PV → Led → Prop} (h : FnSpec G.C G.n f ps kw σ₁ Q') (hsub : ∀ p ∈ φ ++ σ₁, p ∈ σ) (hnd : ((φ ++ σ₁).map (·.1)).Nodup ∨ φ ++ σ₁ = σ)
    (k : ∀ p σ', Q' p σ' → Q p ρ (φ ++ σ')) : CallP G f ps kw ρ σ Q := fun A bs im s fv vs kvs hA hS₀ hf hv hk => by
  have hnd' : ((φ ++ σ₁).map (·.1)).Nodup := hnd.elim id fun e => e ▸ hS₀.l.nd
  have hS : St G bs im s ρ (φ ++ σ₁) := hS₀.sub hsub hnd'
  have sub₁ : ∀ p ∈ σ₁, p ∈ φ ++ σ₁ := fun p hp => List.mem_append_right _ hp
  have nd₁ : (σ₁.map (·.1)).Nodup := by rw [List.map_append] at hnd'; exact (List.nodup_append.mp hnd').2.1
  have core : ∀ bs, St G bs im s ρ σ₁ → Keeps? G.C.M s.heap fv ∧ wpAny G.C.M A (call fv vs kvs) (Post G VR bs im (fun p ρ' σ' => ρ' = ρ ∧ Q' p σ')) Bot s := fun bs hS => by
    let bs' : PM := fun b => if b ∈ σ₁.map (·.1) then none else s.heap.get? b
    have hb : ∀ b o, s.heap.get? b = some o → ¬ b ∈ σ₁.map (·.1) → bs' b = some o := fun b o e q => by show (if b ∈ σ₁.map (·.1) then none else s.heap.get? b) = _; rw [if_neg q]; exact e
    have nb : ∀ b o, bs b = some o → ¬ b ∈ σ₁.map (·.1) := fun b o e q => by rw [(hS.l.ledNe q).1] at e; cases e
    have L : StL G.C bs' im s σ₁ := by
      refine ⟨hS.l.os, hS.l.gens, fun a o e => ?_, fun b o e => ?_, hS.l.him, fun p hp => ?_, hS.l.nd, hS.l.gok⟩
      · exact hb a o (hS.l.hbs _ _ (hS.l.cb a o e)) (nb _ _ (hS.l.cb a o e))
      · have e' : (if b ∈ σ₁.map (·.1) then none else s.heap.get? b) = some o := e
        split at e'
        · cases e'
        · exact e'
      · obtain ⟨a, _, c⟩ := hS.l.led p hp
        refine ⟨a, ?_, c⟩
        show (if p.1 ∈ σ₁.map (·.1) then none else s.heap.get? p.1) = _
        rw [if_pos (mem_map_fst hp)]
    obtain ⟨w1, w2⟩ := h.call hA L hf hv hk
    refine ⟨w1, wpAny_mono w2 (fun v s' ⟨im', p, σ', e, hp, hL, hq⟩ => ?_) fun _ _ e => e⟩
    obtain ⟨B1, B2⟩ := hS.back (fun b => b ∈ σ₁.map (·.1)) hL e hb fun b q => .inl q
    exact ⟨im', p, ρ, σ', B2, hp, B1, rfl, hq⟩
  refine ⟨(core bs (hS.sub sub₁ nd₁)).1, ?_⟩
  refine wpAny_mono (hS.frame fun bs' hS' => (core bs' hS').2) (fun v s' ⟨im', p, ρ', σ', e, hp, hS', hρ, hq⟩ => ?_) fun _ _ e => e
  subst hρ
  exact ⟨im', p, _, _, e, hp, hS', k _ _ hq⟩

/-- a function of the program lies in the base -/
structure FnAt (C : Cx) (a : Addr) (fd : FuncData) : Prop where
  obj : ∃ o, C.base a = some o ∧ o.data = .func fd
  code : ∀ h : Heap, (∀ b o, C.base b = some o → h.get? b = some o) → h.NoLimit ∧ h.CodeRec fd.code fd.qualname

theorem setR_end {x : String} {p : PV} : ∀ {ρ : Rho}, x ∉ ρ.map (·.1) → SetR x p ρ (ρ ++ [(x, p)])
  | [], _ => .nil
  | q :: r, h => by
    rw [List.map_cons, List.mem_cons, not_or] at h
    exact .tail (Ne.symm h.1) (setR_end h.2)

/-- the parameters are laid -/
theorem layParams {G : Gx} {A : Around} {bs : PM} {σ : Led} : ∀ (params : List (String × PV)) (vals : List Value) {im : PM} {s : Shared} {ρ : Rho} {Q : PUnit → Shared → Prop}, AOk G.n A → St G bs im s ρ σ → VRs im (params.map (·.2)) vals →
    (∀ p ∈ params, (p.1, NameKind.local) ∈ G.ns ∨ (p.1, NameKind.cell) ∈ G.ns) → ((ρ ++ params).map (·.1)).Nodup →
    (∀ im' s', Ext bs im im' → St G bs im' s' (ρ ++ params) σ → Q () s') → wpAny G.C.M A (forIn ((params.map fun p => Str.ofString p.1).zip vals) PUnit.unit fun (p : Str × Value) (_ : PUnit) => do storeName G.env p.1 p.2; pure (ForInStep.yield PUnit.unit)) Q Bot s
  | [], vals, im, s, ρ, Q, hA, hS, hv, hns, hnd, h => by
    rw [show (([] : List (String × PV)).map fun p => Str.ofString p.1).zip vals = [] from rfl, List.forIn_nil]
    rw [List.append_nil] at h
    exact wpAny_pure (h im s .refl hS)
  | (x, p) :: r, vals, im, s, ρ, Q, hA, hS, hv, hns, hnd, h => by
    obtain ⟨v, vs', rfl, hp, hr⟩ := VRs.cons_inv hv
    rw [List.map_cons, List.zip_cons_cons, List.forIn_cons]
    have hx : x ∉ ρ.map (·.1) := fun q => by
      rw [List.map_append, List.map_cons] at hnd
      exact (List.nodup_append.mp hnd).2.2 x q x (.head _) rfl
    have st : Con G VR p (fun v => storeName G.env (Str.ofString x) v) relU ρ σ (fun _ ρ' σ' => ρ' = ρ ++ [(x, p)] ∧ σ' = σ) := by
      rcases hns (x, p) (.head _) with q | q
      · exact store_con q (setR_end hx) ⟨rfl, rfl⟩
      · exact storeC_con q (setR_end hx) ⟨rfl, rfl⟩
    refine wpAny_bind (wpAny_bind (wpAny_mono (st A bs im s v hA hS hp) (fun _ s₁ ⟨im₁, _, ρ₁, σ₁, e₁, _, hS₁, hρ, hσ⟩ => wpAny_pure ?_) fun _ _ e => e))
    subst hρ; subst hσ
    have e2 : ρ ++ [(x, p)] ++ r = ρ ++ (x, p) :: r := by simp
    exact layParams r vs' hA hS₁ (hr.mono e₁.1) (fun q hq => hns q (.tail _ hq)) (by rw [e2]; exact hnd) fun im' s' e' hS' => h im' s' (e₁.trans e') (by rw [← e2]; exact hS')

/-- what is asked of a function's table of names and its parameters -/
noncomputable def fnOk (sc : Scope) (params : List String) (ns : Names) (cn : List String) (rg : List String) : Bool :=
  compOk sc [] ns cn [] rg && (params.all fun x => ns.any fun p => p.1 == x && (p.2 == .local || p.2 == .cell)) && decide (rg ++ params).Nodup && !sc.isCoroutine && !sc.isGenerator

theorem FnSpec.of {C : Cx} {n : Nat} {a : Addr} {fd : FuncData} {body : List Stmt} {ps : List PV} {kw : List (String × PV)} {σ : Led} {Q : PV → Led → Prop} (xs : List String) (pv : List PV) (ns : Names) (cn : List String) (ρg : Rho)
    {sc : Scope} (hf : FnAt C a fd) (hbody : fd.body = .stmts body) (hsc : fd.scope = sc) (hgl : fd.globals = mainGlobals) (hbi : fd.builtins = builtinsNs) (hcl : fd.closure = []) (hok : fnOk sc xs ns cn (ρg.map (·.1)) = true) (hg : ∀ p ∈ ρg, p ∈ C.gl) (hlen : xs.length = pv.length)
    (hbind : ∀ (im : PM) (s : Shared) (vs : List Value) (kvs : List (Str × Value)), (∀ b o, C.base b = some o → s.heap.get? b = some o) → VRs im ps vs → KwR im kw kvs → ∃ vals, VRs im pv vals ∧ BindsTo s fd ⟨vs, kvs⟩ ((xs.map Str.ofString).zip vals))
    (h : ∀ env κ, Ex ⟨C, env, κ, ns, cn, n⟩ body (ρg ++ xs.zip pv) σ (fun fl _ σ' => match fl with | .ret p => Q p σ' | .next => Q .none σ' | _ => False)) : FnSpec C (n + 1) (.ref a) ps kw σ Q := fun A bs im s fv vs kvs hA hS hfv hv hk => by
  have efv := VR.ref_i hfv
  subst efv
  obtain ⟨o, ho, hd⟩ := hf.obj
  have hbase : ∀ b o, C.base b = some o → s.heap.get? b = some o := fun b o e => hS.hbs _ _ (hS.cb _ _ e)
  have ho' := hbase _ _ ho
  obtain ⟨hlim, hcd⟩ := hf.code s.heap hbase
  unfold fnOk at hok
  subst hsc
  simp only [Bool.and_eq_true, Bool.not_eq_true', beq_iff_eq, List.all_eq_true, List.any_eq_true, Bool.or_eq_true, decide_eq_true_eq] at hok
  obtain ⟨⟨⟨⟨hck, hpar⟩, hnd⟩, hco⟩, hge⟩ := hok
  have hck := compOk_iff hck
  refine ⟨keeps_func ho' hd, ?_⟩
  obtain ⟨vals, hvals, hB⟩ := hbind im s vs kvs hbase hv hk
  have hz : (xs.zip pv).map (·.1) = xs := List.map_fst_zip (Nat.le_of_eq hlen)
  have hz2 : (xs.zip pv).map (·.2) = pv := List.map_snd_zip (Nat.le_of_eq hlen.symm)
  refine codeAny_call_function (by have := hA.2.1; show A.depth < 1000; omega) ho' hd hco hge hbody hcd (hB _ _ _ _ ?_)
  simp only [newFunctionEnv, Option.isSome_none, Bool.false_eq_true, if_false]
  refine wpAny_bind (wpAny_alloc ?_)
  refine wpAny_bind (wpAny_layCells _ (fun name kind cells => by cases hkc : kind == NameKind.cell <;> simp [hkc]) _ _ _ _ ?_)
  rw [show ({ s with heap := s.heap.push { cls := .type "frame", data := .dict #[] } } : Shared).heap.objs.size = s.heap.objs.size + 1 from Heap.size_push .., hcl]
  generalize henv : ({ scope := fd.scope, locals := s.heap.objs.size, globals := fd.globals, cells := cellsFrom (s.heap.objs.size + 1) fd.scope.names [], qual := fd.qualname ++ ".<locals>.", func := some a, code := fd.code, frame := some s.heap.objs.size, builtins := fd.builtins } : Env) = env
  obtain ⟨κ', bs', hent, hbs'⟩ := hS.enter n hck hg s.toks
  have hS₁ := hent env (by rw [← henv]) (by rw [← henv]) (by rw [← henv]; exact hgl) (by rw [← henv]; exact hbi) (by rw [← henv])
  have sub : ∀ b o, bs b = some o → bs' b = some o := fun b o e => hbs' b o (hS.hbs _ _ e) fun q => by rw [(hS.ledNe q).1] at e; cases e
  have hA1 : AOk n A.in1 := hA.in1
  have ezip : (xs.map Str.ofString).zip vals = ((xs.zip pv).map fun p => Str.ofString p.1).zip vals := by
    rw [show ((xs.zip pv).map fun p => Str.ofString p.1) = ((xs.zip pv).map (·.1)).map Str.ofString by rw [List.map_map]; rfl, hz]
  rw [ezip]
  have hbot : ∀ {α : Type} {t : Sem α} {Q' : α → Shared → Prop} {E : Value → Shared → Prop} {s : Shared}, wpAny C.M A.in1 t Q' Bot s → wpAny C.M A.in1 t Q' E s := fun h => wpAny_mono h (fun _ _ x => x) fun _ _ e => e.elim
  refine wpAny_bind (hbot (layParams (G := ⟨C, env, κ', ns, cn, n⟩) (xs.zip pv) vals hA1 hS₁ (by rw [hz2]; exact hvals) (fun p hp => ?_) ?_ fun im' s' e' hS' => wpAny_pure ⟨?_, codeAny_func ?_⟩))
  · have : p.1 ∈ xs := by rw [← hz]; exact List.mem_map_of_mem hp
    obtain ⟨q, hq, e1, e2⟩ := hpar _ this
    obtain ⟨q1, q2⟩ := q
    cases e1
    rcases e2 with e2 | e2
    · cases e2; exact .inl hq
    · cases e2; exact .inr hq
  · rw [List.map_append, hz]; exact hnd
  · exact (hf.code _ fun b o e => hS'.l.hbs _ _ (hS'.l.cb _ _ e)).1
  · refine wpAny_mono (h env κ' (A.deeper env) bs' im' s' (hA.deeper env) hS') (fun fl s'' ⟨im'', r, ρ'', σ'', e'', hr, hS'', hq⟩ => ?_) fun _ _ e => e.elim
    have E := (e'.trans e'').under sub
    have L : StL C bs im'' s'' σ'' := ⟨hS''.l.os, hS''.l.gens, hS.cb, fun b o e => hS''.l.hbs _ _ (sub b o e), hS''.l.him, fun p hp => let ⟨x, y, z⟩ := hS''.l.led p hp; ⟨x, (by cases q : bs p.1 with | none => rfl | some o => (rw [sub _ _ q] at y; cases y)), z⟩, hS''.l.nd, hS''.l.gok⟩
    cases r with
    | next => cases hr; exact ⟨_, rfl, im'', .none, σ'', E, .none, L, hq⟩
    | ret p => obtain ⟨v, rfl, hv⟩ := hr; exact ⟨_, rfl, im'', p, σ'', E, hv, L, hq⟩
    | brk => exact hq.elim
    | cont => exact hq.elim
end Mine
end
section
open PySem PySem.W PyProof.Rows PySem.Calls
set_option Elab.async false
set_option maxRecDepth 100000
namespace Mine

/-! operations without a trace on the heap -/
noncomputable abbrev S (l : List Nat) : Str := ⟨l.toArray⟩
theorem S_len (l : List Nat) : (S l).length = l.length := by show l.toArray.size = _; simp
theorem S_app (l m : List Nat) : S l ++ S m = S (l ++ m) := by show (⟨l.toArray ++ m.toArray⟩ : Str) = ⟨(l ++ m).toArray⟩; simp

section
variable {G : Gx} {ρ : Rho} {σ : Led} {Q : PV → Rho → Led → Prop}

theorem Op2.lib {f : Value → Value → Sem Value} {a b r : PV} (h : Q r ρ σ)
    (hp : ∀ (A : Around) (im : PM) (s : Shared) (v w : Value) (Qv : Value → Shared → Prop), AOk G.n A → (∀ x o, im x = some o → s.heap.get? x = some o) → VR im a v → VR im b w → (∀ v' tk, VR im r v' → Qv v' { s with toks := tk }) → wpAny G.C.M A (f v w) Qv Bot s) : Op2 G f a b ρ σ Q :=
  fun A bs im s v w hA hS hv hw => hp A im s v w _ hA hS.l.him hv hw fun v' tk hr => .now (hS.toks tk) hr h

theorem op_int {op : Operator} {a b c : Int} (h : Q (.int c) ρ σ) (hp : ∀ (prog : Program) (w : World) (A : Around) (E : Value → Shared → Prop) (s : Shared) (t u : Tok) (Qv : Value → Shared → Prop), (∀ t' tk, Qv (.int c t') { s with toks := tk }) → wpAny (model prog w) A (binaryOp op (.int a t) (.int b u)) Qv E s) :
    Op2 G (binaryOp op) (.int a) (.int b) ρ σ Q := .lib h fun A im s v w Qv hA hI hv hw k => by
  obtain ⟨t, rfl⟩ := hv.int_i
  obtain ⟨u, rfl⟩ := hw.int_i
  exact hp _ _ _ _ _ _ _ _ fun t' tk => k _ _ .int
theorem Op2.add {a b : Int} (h : Q (.int (a + b)) ρ σ) : Op2 G (binaryOp .Add) (.int a) (.int b) ρ σ Q := op_int h fun _ _ _ _ _ _ _ _ k => add_int (k _ _)
theorem Op2.sub {a b : Int} (h : Q (.int (a - b)) ρ σ) : Op2 G (binaryOp .Sub) (.int a) (.int b) ρ σ Q := op_int h fun _ _ _ _ _ _ _ _ k => sub_int (k _ _)
theorem Op2.mul {a b : Int} (h : Q (.int (a * b)) ρ σ) (hm : IntMulOk a b := by mul_fits) : Op2 G (binaryOp .Mult) (.int a) (.int b) ρ σ Q := op_int h fun _ _ _ _ _ _ _ _ k => mul_int (k _ _) hm
theorem Op2.fdiv {a b : Int} (hb : 0 < b) (hb2 : b < 1073741824) (h : Q (.int (a / b)) ρ σ) : Op2 G (binaryOp .FloorDiv) (.int a) (.int b) ρ σ Q := op_int h fun _ _ _ _ _ _ _ _ k =>
  floordiv_int (by omega) (by rw [Int.fdiv_eq_ediv_of_nonneg _ (by omega)]; exact k _ _) (.inl (PyProof.noPylong_small (by omega)))
theorem Op2.fmod {a b : Int} (hb : 0 < b) (h : Q (.int (a % b)) ρ σ) : Op2 G (binaryOp .Mod) (.int a) (.int b) ρ σ Q := op_int h fun _ _ _ _ _ _ _ _ k =>
  mod_int (by omega) (by rw [Int.fmod_eq_emod_of_nonneg _ (by omega)]; exact k _ _)
theorem Op2.pow {a n : Int} (hn : 0 ≤ n) (hsz : (Builtin.Int.intBits a : Int) * n ≤ 2 ^ 27) (h : Q (.int (a ^ n.toNat)) ρ σ) : Op2 G (binaryOp .Pow) (.int a) (.int n) ρ σ Q := op_int h fun _ _ _ _ _ _ _ _ k => pow_int hn hsz (k _ _)
theorem Op2.shr {a n : Int} (hn : 0 ≤ n) (h : Q (.int (a / (2 ^ n.toNat))) ρ σ) : Op2 G (binaryOp .RShift) (.int a) (.int n) ρ σ Q := op_int h fun _ _ _ _ _ _ _ _ k =>
  rshift_int hn (by rw [Int.fdiv_eq_ediv_of_nonneg _ (Int.le_of_lt (Int.pow_pos (by omega)))]; exact k _ _)

theorem cmp_int {op : CmpOp} {a b : Int} {c : Bool} (h : Q (.bool c) ρ σ) (hp : ∀ (prog : Program) (w : World) (A : Around) (E : Value → Shared → Prop) (s : Shared) (t u : Tok) (Qv : Value → Shared → Prop), Qv (.bool c) s → wpAny (model prog w) A (compareOp op (.int a t) (.int b u)) Qv E s) :
    Op2 G (compareOp op) (.int a) (.int b) ρ σ Q := .lib h fun A im s v w Qv hA hI hv hw k => by
  obtain ⟨t, rfl⟩ := hv.int_i
  obtain ⟨u, rfl⟩ := hw.int_i
  exact hp _ _ _ _ _ _ _ _ (k _ s.toks .bool)
theorem Op2.lt {a b : Int} (h : Q (.bool (decide (a < b))) ρ σ) : Op2 G (compareOp .Lt) (.int a) (.int b) ρ σ Q := cmp_int h fun _ _ _ _ _ _ _ _ k => lt_int k
theorem Op2.le {a b : Int} (h : Q (.bool (decide (a ≤ b))) ρ σ) : Op2 G (compareOp .LtE) (.int a) (.int b) ρ σ Q := cmp_int h fun _ _ _ _ _ _ _ _ k => le_int k
theorem Op2.gt {a b : Int} (h : Q (.bool (decide (b < a))) ρ σ) : Op2 G (compareOp .Gt) (.int a) (.int b) ρ σ Q := cmp_int h fun _ _ _ _ _ _ _ _ k => gt_int k
theorem Op2.ge {a b : Int} (h : Q (.bool (decide (b ≤ a))) ρ σ) : Op2 G (compareOp .GtE) (.int a) (.int b) ρ σ Q := cmp_int h fun _ _ _ _ _ _ _ _ k => ge_int k
theorem Op2.eq {a b : Int} (h : Q (.bool (a == b)) ρ σ) : Op2 G (compareOp .Eq) (.int a) (.int b) ρ σ Q := cmp_int h fun _ _ _ _ _ _ _ _ k => eq_int k
theorem Op2.ne {a b : Int} (h : Q (.bool (a != b)) ρ σ) : Op2 G (compareOp .NotEq) (.int a) (.int b) ρ σ Q := cmp_int h fun _ _ _ _ _ _ _ _ k => ne_int k
theorem Op1.neg {a : Int} (h : Q (.int (-a)) ρ σ) : Op1 G (unaryOp .USub) (.int a) ρ σ Q := fun A bs im s v hA hS hv => by
  obtain ⟨t, rfl⟩ := hv.int_i
  exact neg_int (.now (hS.toks _) .int h)

/-! texts -/
theorem S_beq (l m : List Nat) : (S l == S m) = (l == m) := by
  rw [Bool.eq_iff_iff, beq_iff_eq, beq_iff_eq]
  exact ⟨fun e => by injection e with e; simpa using congrArg Array.toList e, fun e => by rw [e]⟩
theorem Op2.eqS {l m : List Nat} (h : Q (.bool (l == m)) ρ σ) : Op2 G (compareOp .Eq) (.str l) (.str m) ρ σ Q := .lib h fun A im s v w Qv hA hI hv hw k => by
  obtain ⟨t, rfl⟩ := hv.str_i
  obtain ⟨u, rfl⟩ := hw.str_i
  exact eq_str (by rw [S_beq]; exact k _ s.toks .bool)
theorem Op2.neS {l m : List Nat} (h : Q (.bool (l != m)) ρ σ) : Op2 G (compareOp .NotEq) (.str l) (.str m) ρ σ Q := .lib h fun A im s v w Qv hA hI hv hw k => by
  obtain ⟨t, rfl⟩ := hv.str_i
  obtain ⟨u, rfl⟩ := hw.str_i
  exact ne_str (by show Qv (.bool (!(S l == S m))) s; rw [S_beq]; exact k _ s.toks .bool)
theorem Op2.addS {l m : List Nat} (hz : l.length + m.length ≤ 16000000) (h : Q (.str (l ++ m)) ρ σ) : Op2 G (binaryOp .Add) (.str l) (.str m) ρ σ Q := .lib h fun A im s v w Qv hA hI hv hw k => by
  obtain ⟨t, rfl⟩ := hv.str_i
  obtain ⟨u, rfl⟩ := hw.str_i
  refine add_str (fun t' tk => ?_) (by rw [S_len, S_len, sizeLine_eq]; omega)
  rw [S_app]; exact k _ _ .str
theorem foldl_app (x : List Nat) : ∀ (n : Nat) (acc : Array Nat), (List.replicate n x.toArray).foldl (· ++ ·) acc = acc ++ (List.replicate n x).flatten.toArray
  | 0, acc => by simp
  | n + 1, acc => by rw [List.replicate_succ, List.foldl_cons, foldl_app x n, List.replicate_succ, List.flatten_cons]; simp
theorem txt_mul (l : List Nat) (n : Int) : Txt.mul (S l) n = S (List.replicate n.toNat l).flatten := by
  unfold Txt.mul
  split
  · rename_i h
    rw [show n.toNat = 0 by omega]; rfl
  · rename_i h
    split
    · rename_i h2
      simp only [Bool.or_eq_true, beq_iff_eq] at h2
      rcases h2 with e | e
      · subst e; show S l = S (List.replicate 1 l).flatten; simp
      · rw [S_len] at e
        have : l = [] := List.length_eq_zero_iff.mp e
        subst this
        show S [] = S (List.replicate n.toNat ([] : List Nat)).flatten
        have : ∀ k, (List.replicate k ([] : List Nat)).flatten = [] := fun k => by induction k with | zero => rfl | succ k ih => rw [List.replicate_succ, List.flatten_cons, ih]; rfl
        rw [this]
    · show (⟨(List.replicate n.toNat l.toArray).foldl (· ++ ·) #[]⟩ : Str) = _
      rw [foldl_app]; simp
theorem Op2.mulS {l : List Nat} {n : Int} (L N : Nat) (hl : l.length ≤ L) (hn : n ≤ (N : Int)) (hlo : -(2 ^ 63 : Int) ≤ n) (hN : N ≤ 16777216) (hLN : L * N ≤ 16777216) (h : Q (.str (List.replicate n.toNat l).flatten) ρ σ) : Op2 G (binaryOp .Mult) (.str l) (.int n) ρ σ Q := .lib h fun A im s v w Qv hA hI hv hw k => by
  obtain ⟨t, rfl⟩ := hv.str_i
  obtain ⟨u, rfl⟩ := hw.int_i
  refine SB.mul (mulOk_of L N (by rw [S_len]; exact hl) hn hlo hN hLN) fun t' tk => ?_
  rw [show Txt.mul ⟨l.toArray⟩ n = _ from txt_mul l n]; exact k _ _ .str
theorem Op2.inS {l m : List Nat} (h : Q (.bool (Txt.contains (S m) (S l))) ρ σ) : Op2 G (compareOp .In) (.str l) (.str m) ρ σ Q := .lib h fun A im s v w Qv hA hI hv hw k => by
  obtain ⟨t, rfl⟩ := hv.str_i
  obtain ⟨u, rfl⟩ := hw.str_i
  exact in_str (k _ s.toks .bool)

/-! identity -/
theorem Op2.isNone {a : PV} {c : Bool} (hc : ∀ im v, VR im a v → (v == .none) = c) (h : Q (.bool c) ρ σ) : Op2 G (compareOp .Is) a .none ρ σ Q := .lib h fun A im s v w Qv hA hI hv hw k => by
  rw [hw.none_i]
  exact is_none_gen (by rw [hc im v hv]; exact k _ s.toks .bool)
theorem Op2.isNotNone {a : PV} {c : Bool} (hc : ∀ im v, VR im a v → (v == .none) = c) (h : Q (.bool (!c)) ρ σ) : Op2 G (compareOp .IsNot) a .none ρ σ Q := .lib h fun A im s v w Qv hA hI hv hw k => by
  rw [hw.none_i]
  exact isnot_none_gen (by rw [hc im v hv]; exact k _ s.toks .bool)
theorem nn_str {l : List Nat} : ∀ im v, VR im (.str l) v → (v == .none) = false := fun im v h => by obtain ⟨t, rfl⟩ := h.str_i; rfl
theorem nn_int {i : Int} : ∀ im v, VR im (.int i) v → (v == .none) = false := fun im v h => by obtain ⟨t, rfl⟩ := h.int_i; rfl
theorem nn_none : ∀ im v, VR im .none v → (v == .none) = true := fun im v h => by rw [h.none_i]; rfl
theorem nn_ref {a : Addr} : ∀ im v, VR im (.ref a) v → (v == .none) = false := fun im v h => by rw [h.ref_i]; rfl
theorem nn_lst {l : List PV} : ∀ im v, VR im (.lst l) v → (v == .none) = false := fun im v h => by obtain ⟨a, _, _, rfl, _⟩ := h.lst_i; rfl
theorem nn_tup {l : List PV} : ∀ im v, VR im (.tup l) v → (v == .none) = false := fun im v h => by obtain ⟨a, _, _, rfl, _⟩ := h.tup_i; rfl

/-! truth -/
theorem TrueOf.lib {a : PV} {r : Bool} {Q : Bool → Rho → Led → Prop} (h : Q r ρ σ)
    (hp : ∀ (A : Around) (im : PM) (s : Shared) (v : Value) (Qv : Bool → Shared → Prop), AOk G.n A → (∀ x o, im x = some o → s.heap.get? x = some o) → VR im a v → (∀ tk, Qv r { s with toks := tk }) → wpAny G.C.M A (truthy v) Qv Bot s) : TrueOf G a ρ σ Q :=
  fun A bs im s v hA hS hv => hp A im s v _ hA hS.l.him hv fun tk => .now (hS.toks tk) rfl h
theorem TrueOf.int {i : Int} {Q : Bool → Rho → Led → Prop} (h : Q (i != 0) ρ σ) : TrueOf G (.int i) ρ σ Q := .lib h fun A im s v Qv hA hI hv k => by
  obtain ⟨t, rfl⟩ := hv.int_i
  exact truthy_int (k s.toks)
theorem TrueOf.str {l : List Nat} {Q : Bool → Rho → Led → Prop} (hz : l.length ≤ 16777216) (h : Q ((l.length : Int) != 0) ρ σ) : TrueOf G (.str l) ρ σ Q := .lib h fun A im s v Qv hA hI hv k => by
  obtain ⟨t, rfl⟩ := hv.str_i
  refine P.truthy_str (by rw [show (⟨l.toArray⟩ : Str).length = _ from S_len l]; omega) ?_
  rw [show (⟨l.toArray⟩ : Str).length = _ from S_len l]; exact k _

/-! calls of built-in functions -/
theorem CallP.lib {id : String} {ps : List PV} {r : PV} (h : Q r ρ σ)
    (hp : ∀ (A : Around) (bs im : PM) (s : Shared) (vs : List Value) (Qv : Value → Shared → Prop), AOk G.n A → St G bs im s ρ σ → VRs im ps vs → (∀ v' h' tk, (∀ b o, s.heap.get? b = some o → h'.get? b = some o) → VR im r v' → Qv v' { s with heap := h', toks := tk }) → wpAny G.C.M A (call (.builtin id) vs []) Qv Bot s) :
    CallP G (.con (.builtin id)) ps [] ρ σ Q := fun A bs im s fv vs kvs hA hS hf hv hk => by
  rw [hf.con_i]
  have : kvs = [] := by have := hk.1; simpa using this
  subst this
  exact ⟨keeps_builtin, hp A bs im s vs _ hA hS hv fun v' h' tk hkk hr => .now (hS.grow hkk tk) hr h⟩
theorem one_v {im : PM} {p : PV} {vs : List Value} (h : VRs im [p] vs) : ∃ v, vs = [v] ∧ VR im p v := by
  obtain ⟨v, vs', rfl, hv, h'⟩ := h.cons_inv
  rw [h'.nil_inv]; exact ⟨v, rfl, hv⟩
theorem two_v {im : PM} {p q : PV} {vs : List Value} (h : VRs im [p, q] vs) : ∃ v w, vs = [v, w] ∧ VR im p v ∧ VR im q w := by
  obtain ⟨v, vs', rfl, hv, h'⟩ := h.cons_inv
  obtain ⟨w, rfl, hw⟩ := one_v h'
  exact ⟨v, w, rfl, hv, hw⟩
theorem three_v {im : PM} {p q r : PV} {vs : List Value} (h : VRs im [p, q, r] vs) : ∃ v w x, vs = [v, w, x] ∧ VR im p v ∧ VR im q w ∧ VR im r x := by
  obtain ⟨v, vs', rfl, hv, h'⟩ := h.cons_inv
  obtain ⟨w, x, rfl, hw, hx⟩ := two_v h'
  exact ⟨v, w, x, rfl, hv, hw, hx⟩
theorem CallP.lenS {l : List Nat} (hz : l.length ≤ 16777216) (h : Q (.int l.length) ρ σ) : CallP G (.con (.builtin "len")) [.str l] [] ρ σ Q := .lib h fun A bs im s vs Qv hA hS hv k => by
  obtain ⟨v, rfl, hv1⟩ := one_v hv
  obtain ⟨t, rfl⟩ := hv1.str_i
  refine len_str (by rw [show (⟨l.toArray⟩ : Str).length = _ from S_len l]; omega) ?_
  rw [show (⟨l.toArray⟩ : Str).length = _ from S_len l]; exact k _ s.heap _ (fun _ _ e => e) .int
theorem St.atList (hS : St G bs im s ρ σ) {a : Addr} {l : List PV} (hm : (a, LO.list l) ∈ σ) : ∃ vs n, s.heap.get? a = some (lstO vs n) ∧ VRs im l vs := (hS.l.led _ hm).1
theorem isList_of {h : Heap} {a : Addr} {vs : List Value} {n : Nat} (e : h.get? a = some (lstO vs n)) : h.IsList a vs.toArray := ⟨_, e, rfl, n, rfl⟩
theorem CallP.lenM {a : Addr} {l : List PV} (hm : (a, LO.list l) ∈ σ) (hz : l.length ≤ 16777216) (h : Q (.int l.length) ρ σ) : CallP G (.con (.builtin "len")) [.ref a] [] ρ σ Q := .lib h fun A bs im s vs Qv hA hS hv k => by
  obtain ⟨v, rfl, hv1⟩ := one_v hv
  rw [hv1.ref_i]
  obtain ⟨vs, n, ho, hvs⟩ := hS.atList hm
  have e : vs.toArray.size = l.length := by rw [List.size_toArray, hvs.length]
  refine len_list (isList_of ho) (by rw [e]; omega) ?_
  rw [e]; exact k _ s.heap _ (fun _ _ e => e) .int
theorem CallP.lenL {l : List PV} (hz : l.length ≤ 16777216) (h : Q (.int l.length) ρ σ) : CallP G (.con (.builtin "len")) [.lst l] [] ρ σ Q := .lib h fun A bs im s vs Qv hA hS hv k => by
  obtain ⟨v, rfl, hv1⟩ := one_v hv
  obtain ⟨a, vs, n, rfl, ho, hvs⟩ := hv1.lst_i
  have e : vs.toArray.size = l.length := by rw [List.size_toArray, hvs.length]
  refine len_list (isList_of (hS.l.him _ _ ho)) (by rw [e]; omega) ?_
  rw [e]; exact k _ s.heap _ (fun _ _ e => e) .int
end
end Mine
end
section
open PySem PySem.W PyProof.Rows PySem.Calls
set_option Elab.async false
set_option maxRecDepth 100000
namespace Mine

/-! subscripts, slices -/
noncomputable def clampI (n d : Nat) : Option Int → Nat
  | none => d
  | some i => if i < 0 then (i + n).toNat else min i.toNat n
noncomputable def pySl {α : Type} (l : List α) (lo hi : Option Int) : List α := (l.drop (clampI l.length 0 lo)).take (clampI l.length l.length hi - clampI l.length 0 lo)

theorem clamp_le (n d : Nat) (hd : d ≤ n) (x : Option Int) : clampI n d x ≤ n := by
  unfold clampI
  cases x with
  | none => exact hd
  | some i => dsimp only; split <;> omega
theorem clamp_eq (n d : Nat) (hd : d ≤ n) (x : Option Int) : ((match x with | none => (d : Int) | some i => let i := if i < 0 then i + n else i; max 0 (min i n)) : Int) = (clampI n d x : Nat) := by
  unfold clampI
  cases x with
  | none => rfl
  | some i => dsimp only; split <;> omega
theorem range_pick0 {α : Type} (l : List α) (a : Nat) : ∀ n, a + n ≤ l.length → ((List.range n).map (a + ·)).filterMap (l[·]?) = (l.drop a).take n
  | 0, _ => by simp
  | n + 1, h => by
    rw [List.range_succ, List.map_append, List.filterMap_append, range_pick0 l a n (by omega), List.take_add_one, List.getElem?_drop]
    rw [show ([n].map (a + ·)).filterMap (l[·]?) = l[a + n]?.toList from ?_]
    show [a + n].filterMap (l[·]?) = _
    rw [List.getElem?_eq_getElem (show a + n < l.length by omega)]
    simp only [List.filterMap_cons, List.filterMap_nil, List.getElem?_eq_getElem (show a + n < l.length by omega)]
    rfl
theorem range_pick {α : Type} (l : List α) (a b : Nat) (hb : b ≤ l.length) : ((List.range (b - a)).map (a + ·)).filterMap (l[·]?) = (l.drop a).take (b - a) := by
  by_cases h : a ≤ b
  · exact range_pick0 l a _ (by omega)
  · rw [show b - a = 0 by omega]; simp
theorem sliceRange_nat (a b : Nat) : sliceRange (a : Int) (b : Int) 1 = (List.range (b - a)).map (a + ·) := by
  unfold sliceRange
  rw [if_pos (by decide)]
  have e : ((if (a : Int) < b then ((b : Int) - a + 1 - 1) / 1 else 0) : Int).toNat = b - a := by
    split
    · rw [Int.ediv_one]; omega
    · omega
  show (List.range ((if (a : Int) < b then ((b : Int) - a + 1 - 1) / 1 else 0) : Int).toNat).map _ = _
  rw [e]
  refine List.map_congr_left fun k _ => ?_
  omega
theorem slicePick_eq (vs : List Value) (lo hi : Option Int) : slicePick vs.toArray lo hi none = (pySl vs lo hi).toArray := by
  unfold slicePick pySl
  have e1 : (sliceBounds lo hi none vs.toArray.size).1 = (clampI vs.length 0 lo : Nat) := by
    unfold sliceBounds
    simp only [Option.getD_none, List.size_toArray, show (1 : Int) > 0 by decide, if_true]
    have := clamp_eq vs.length 0 (Nat.zero_le _) lo
    cases lo <;> exact this
  have e2 : (sliceBounds lo hi none vs.toArray.size).2.1 = (clampI vs.length vs.length hi : Nat) := by
    unfold sliceBounds
    simp only [Option.getD_none, List.size_toArray, show (1 : Int) > 0 by decide, if_true]
    have := clamp_eq vs.length vs.length (Nat.le_refl _) hi
    cases hi <;> exact this
  have e3 : (sliceBounds lo hi none vs.toArray.size).2.2 = 1 := rfl
  rw [e1, e2, e3, sliceRange_nat]
  have := range_pick vs (clampI vs.length 0 lo) (clampI vs.length vs.length hi) (clamp_le _ _ (Nat.le_refl _) _)
  rw [← this]
  simp
theorem sliceText_eq (l : List Nat) (lo hi : Option Int) : Txt.slice (S l) lo hi = S (pySl l lo hi) := by
  have e0 : (Builtin.Str.strSliceIndices lo hi 1 l.length) = (List.range (clampI l.length l.length hi - clampI l.length 0 lo)).map (clampI l.length 0 lo + ·) := by
    rw [← sliceRange_nat]
    unfold Builtin.Str.strSliceIndices
    simp only [show (1 : Int) > 0 by decide, if_true]
    have h1 := clamp_eq l.length 0 (Nat.zero_le _) lo
    have h2 := clamp_eq l.length l.length (Nat.le_refl _) hi
    rw [← h1, ← h2]
    cases lo <;> cases hi <;> rfl
  have hp := range_pick l (clampI l.length 0 lo) (clampI l.length l.length hi) (clamp_le _ _ (Nat.le_refl _) _)
  unfold Txt.slice
  rw [S_len, e0]
  split
  · rename_i h
    simp only [beq_self_eq_true, Bool.true_and, beq_iff_eq, List.length_map, List.length_range] at h
    have := clamp_le l.length l.length (Nat.le_refl _) hi
    have h0 : clampI l.length 0 lo = 0 ∨ l.length = 0 := by omega
    unfold pySl
    rcases h0 with h0 | h0
    · rw [h, h0]; simp
    · have : l = [] := List.length_eq_zero_iff.mp h0
      subst this; simp
  · unfold pySl
    rw [← hp]
    show (⟨(((List.range _).map _).filterMap fun x => l.toArray[x]?).toArray⟩ : Str) = _
    simp

section
variable {G : Gx} {ρ : Rho} {σ : Led} {Q : PV → Rho → Led → Prop}

theorem tail_own {prog : Program} {w : World} {A : Around} {E : Value → Shared → Prop} {s : Shared} {value slice : Expr} {o i : Value} {T id : String} {ops : List Value} {Q : Value → Shared → Prop} (hT : s.TypeIs o T)
    (hl : typeLookup (.type T) "__getitem__" = pure (some (.builtin id))) (h : wpAny (model prog w) A (getItem o i) Q E s)
    (hs : subscripted slice false o i = operate ops (getItem o i)) : wpAny (model prog w) A (subscriptTail value slice o i) Q E s := by
  unfold subscriptTail
  refine wpAny_bind ?_
  rw [getitemInPython_of_ne hT.not_modules]
  refine wpAny_bind (wpAny_specialOf hT hl ?_)
  have fin : wpAny (model prog w) A (subscripted slice false o i) (fun r s₃ => wpAny (model prog w) A (letTemporaryGo value o r >>= fun _ => pure r) Q E s₃) E s := by
    rw [hs]
    exact wpAny_operating (wpAny_mono h (fun r s₃ h₃ => wpAny_bind (wpAny_letTemporaryGo (wpAny_pure h₃))) fun _ _ x => x)
  first
    | exact wpAny_pure (wpAny_bind fin)
    | exact wpAny_bind (wpAny_pure (wpAny_bind fin))
    | exact wpAny_bind fin

theorem Ev.sub {value slice : Expr} {pos : Pos} (h : Ev G value ρ σ (fun a ρ₁ σ₁ => Ev G slice ρ₁ σ₁ (fun b ρ₂ σ₂ => Op2 G (subscriptTail value slice) a b ρ₂ σ₂ Q))) : Ev G (.Subscript value slice pos) ρ σ Q :=
  fun _ _ _ _ hA hS => Subscript_ (Ev.then2 h hA hS)
noncomputable abbrev SubOk (slice : Expr) : Prop := ∀ o i, subscripted slice false o i = operate [o, i] (getItem o i)
/-- the place that an index means -/
noncomputable def pyIx (i : Int) (n : Nat) : Nat := if i < 0 then (i + n).toNat else i.toNat
theorem pyIx_lt {i : Int} {n : Nat} (h1 : -(n : Int) ≤ i) (h2 : i < n) : pyIx i n < n := by unfold pyIx; split <;> omega
theorem seqIx {i : Int} {n : Nat} (h1 : -(n : Int) ≤ i) (h2 : i < n) : seqIndex? i n = some (pyIx i n) := by
  unfold seqIndex? pyIx
  split
  · rw [if_pos (by simp only [Bool.and_eq_true, decide_eq_true_eq]; omega)]
  · rw [if_pos (by simp only [Bool.and_eq_true, decide_eq_true_eq]; omega)]
theorem Op2.itemS {value slice : Expr} {l : List Nat} {i : Int} {c : Nat} (h1 : -(l.length : Int) ≤ i) (h2 : i < l.length) (hz : l.length ≤ 16777216) (hc : l[pyIx i l.length]? = some c) (h : Q (.str [c]) ρ σ)
    (hs : SubOk slice := by intro _ _; rfl) : Op2 G (subscriptTail value slice) (.str l) (.int i) ρ σ Q := .lib h fun A im s v w Qv hA hI hv hw k => by
  obtain ⟨t, rfl⟩ := hv.str_i
  obtain ⟨u, rfl⟩ := hw.int_i
  refine tail_own (typeIs_str _ _ _) F.slot_str_getitem.lookup (getItem_str (c := c) ?_ ?_ (k _ _ .str)) (hs _ _)
  · simp only [Bool.or_eq_false_iff, decide_eq_false_iff_not]; omega
  · rw [show (⟨l.toArray⟩ : Str).length = _ from S_len l, seqIx h1 h2]
    show l.toArray[pyIx i l.length]? = _
    simpa using hc
theorem getItem_own {prog : Program} {w : World} {A : Around} {E : Value → Shared → Prop} {s : Shared} {a : Addr} {vs : List Value} {n : Nat} {i : Int} {t : Tok} {x : Value} {Q : Value → Shared → Prop} (ho : s.heap.get? a = some (lstO vs n))
    (h1 : -(vs.length : Int) ≤ i) (h2 : i < vs.length) (hz : vs.length ≤ 16777216) (hx : vs[pyIx i vs.length]? = some x) (h : Q x s) : wpAny (model prog w) A (getItem (.ref a) (.int i t)) Q E s := by
  unfold pyIx at hx
  split at hx
  · exact wpAny_getItem_list_neg (isList_of ho) (by omega) (by simpa using h1) (by omega) (by simpa using hx) h
  · exact wpAny_getItem_list (isList_of ho) (by omega) (by omega) (by simpa using hx) h
theorem item_run {value slice : Expr} {A : Around} {bs im : PM} {s : Shared} {a : Addr} {vs : List Value} {n : Nat} {l : List PV} {i : Int} {u : Tok} {p : PV} (hS : St G bs im s ρ σ) (ho : s.heap.get? a = some (lstO vs n)) (hvs : VRs im l vs) (h1 : -(l.length : Int) ≤ i) (h2 : i < l.length) (hz : l.length ≤ 16777216)
    (hp : l[pyIx i l.length]? = some p) (h : Q p ρ σ) (hs : SubOk slice) : wpAny G.C.M A (subscriptTail value slice (.ref a) (.int i u)) (Post G VR bs im Q) Bot s := by
  obtain ⟨x, hx, hr⟩ := hvs.get hp
  have e := hvs.length
  exact tail_own (isList_of ho).typeIs list_getitem_lookup (getItem_own ho (by rw [e]; exact h1) (by rw [e]; exact h2) (by rw [e]; exact hz) (by rw [e]; exact hx) (.now hS hr h)) (hs _ _)
theorem Op2.itemM {value slice : Expr} {a : Addr} {l : List PV} {i : Int} {p : PV} (hm : (a, LO.list l) ∈ σ) (h1 : -(l.length : Int) ≤ i) (h2 : i < l.length) (hz : l.length ≤ 16777216) (hp : l[pyIx i l.length]? = some p) (h : Q p ρ σ)
    (hs : SubOk slice := by intro _ _; rfl) : Op2 G (subscriptTail value slice) (.ref a) (.int i) ρ σ Q := fun A bs im s v w hA hS hv hw => by
  rw [hv.ref_i]
  obtain ⟨u, rfl⟩ := hw.int_i
  obtain ⟨vs, n, ho, hvs⟩ := hS.atList hm
  exact item_run hS ho hvs h1 h2 hz hp h hs
theorem Op2.itemL {value slice : Expr} {l : List PV} {i : Int} {p : PV} (h1 : -(l.length : Int) ≤ i) (h2 : i < l.length) (hz : l.length ≤ 16777216) (hp : l[pyIx i l.length]? = some p) (h : Q p ρ σ)
    (hs : SubOk slice := by intro _ _; rfl) : Op2 G (subscriptTail value slice) (.lst l) (.int i) ρ σ Q := fun A bs im s v w hA hS hv hw => by
  obtain ⟨a, vs, n, rfl, ho, hvs⟩ := hv.lst_i
  obtain ⟨u, rfl⟩ := hw.int_i
  exact item_run hS (hS.l.him _ _ ho) hvs h1 h2 hz hp h hs
theorem Op2.itemT {value slice : Expr} {l : List PV} {i : Int} {p : PV} (h1 : -(l.length : Int) ≤ i) (h2 : i < l.length) (hz : l.length ≤ 16777216) (hp : l[pyIx i l.length]? = some p) (h : Q p ρ σ)
    (hs : SubOk slice := by intro _ _; rfl) : Op2 G (subscriptTail value slice) (.tup l) (.int i) ρ σ Q := fun A bs im s v w hA hS hv hw => by
  obtain ⟨a, vs, n, rfl, ho, hvs⟩ := hv.tup_i
  obtain ⟨u, rfl⟩ := hw.int_i
  obtain ⟨x, hx, hr⟩ := hvs.get hp
  have e := hvs.length
  have ht : IsTup s.heap a vs.toArray := ⟨_, hS.l.him _ _ ho, rfl, n, rfl⟩
  exact tail_own ht.typeIs slot_tuple_getitem.lookup (getItem_tuple ht (by omega) (by omega) (by rw [List.size_toArray, e]; exact seqIx h1 h2) (by simpa using hx) (.now hS hr h)) (hs _ _)

theorem typeIs_push {s : Shared} {v : Value} {T : String} {o : Obj} (h : s.TypeIs v T) : Shared.TypeIs { s with heap := s.heap.push o } v T := by
  cases v with
  | ref a => obtain ⟨p, h1, h2⟩ := h; exact ⟨p, Heap.get?_push_of_some _ h1, h2⟩
  | _ => exact h
/-- an optional part of a slice -/
noncomputable def OptEv (G : Gx) : Option Expr → Rho → Led → (Option Int → Rho → Led → Prop) → Prop
  | none, ρ, σ, Q => Q none ρ σ
  | some e, ρ, σ, Q => Ev G e ρ σ fun p ρ₁ σ₁ => ∃ i, p = .int i ∧ Q (some i) ρ₁ σ₁
noncomputable def relPart (_ : PM) (x : Option Int) (v : Value) : Prop := IsPart v x
theorem optEv_run {G : Gx} {e : Option Expr} {ρ : Rho} {σ : Led} {Q : Option Int → Rho → Led → Prop} (h : OptEv G e ρ σ Q) : Tr G relPart (valueOrNone (evalOpt e G.env)) ρ σ Q := fun A bs im s hA hS => by
  cases e with
  | none => exact wpAny_pure (.now hS IsPart.none h)
  | some e =>
    show wpAny _ _ (eval e G.env) _ _ _
    refine wpAny_mono (h A bs im s hA hS) (fun v s₁ ⟨im₁, p, ρ₁, σ₁, e₁, hr, hS₁, i, hi, hq⟩ => ?_) fun _ _ x => x
    subst hi
    obtain ⟨t, rfl⟩ := hr.int_i
    exact ⟨im₁, some i, ρ₁, σ₁, e₁, .int i t, hS₁, hq⟩
noncomputable abbrev sliO (vl vu : Value) : Obj := { cls := .type "slice", data := .fields #[vl, vu, .none] }
noncomputable def SliceP (G : Gx) (a : PV) (x y : Option Int) (ρ : Rho) (σ : Led) (Q : PV → Rho → Led → Prop) : Prop :=
  ∀ A bs im s v vl vu, AOk G.n A → St G bs im s ρ σ → VR im a v → IsPart vl x → IsPart vu y → ∃ T id, s.TypeIs v T ∧ (typeLookup (.type T) "__getitem__" = pure (some (.builtin id))) ∧
    wpAny G.C.M A (getItem v (.ref s.heap.objs.size)) (Post G VR bs im Q) Bot { s with heap := s.heap.push (sliO vl vu) }
theorem Ev.slice {value : Expr} {lo hi : Option Expr} {p0 pos : Pos} (h : Ev G value ρ σ (fun a ρ₁ σ₁ => OptEv G lo ρ₁ σ₁ (fun x ρ₂ σ₂ => OptEv G hi ρ₂ σ₂ (fun y ρ₃ σ₃ => SliceP G a x y ρ₃ σ₃ Q)))) :
    Ev G (.Subscript value (.Slice lo hi Option.none p0) pos) ρ σ Q := fun A bs im s hA hS => by
  refine Subscript_ (wpAny_mono (h A bs im s hA hS) (fun v s₁ ⟨im₁, a, ρ₁, σ₁, e₁, hr, hS₁, h1⟩ => ?_) fun _ _ x => x)
  show wpAny _ _ (do
    let l ← valueOrNone (evalOpt lo G.env)
    let u ← holding [l] (valueOrNone (evalOpt hi G.env))
    let s ← holding [l, u] (valueOrNone (evalOpt Option.none G.env))
    newFields "slice" [l, u, s]) _ _ _
  refine wpAny_bind (wpAny_mono (optEv_run h1 A bs im₁ s₁ hA hS₁) (fun vl s₂ ⟨im₂, x, ρ₂, σ₂, e₂, hx, hS₂, h2⟩ => ?_) fun _ _ x => x)
  refine wpAny_bind (wpAny_holding (wpAny_mono (optEv_run h2 A bs im₂ s₂ hA hS₂) (fun vu s₃ ⟨im₃, y, ρ₃, σ₃, e₃, hy, hS₃, h3⟩ => ?_) fun _ _ x => x))
  refine wpAny_bind (wpAny_holding (wpAny_pure ?_))
  show wpAny _ _ (newObj (.type "slice") (.fields #[vl, vu, .none])) _ _ _
  refine wpAny_newObj_type ?_
  obtain ⟨T, id, hT, hl, hg⟩ := h3 A bs im₃ s₃ v vl vu hA hS₃ ((hr.mono e₂.1).mono e₃.1) hx hy
  refine tail_own (T := T) (id := id) ?_ hl (wpAny_mono hg (fun _ _ q => q.ext (e₁.trans (e₂.trans e₃))) fun _ _ x => x) rfl
  exact typeIs_push hT
theorem part_tok {v : Value} {x : Option Int} (h : IsPart v x) : ∃ y : Option (Int × Tok), y.map (·.1) = x ∧ v = match y with | none => .none | some (i, t) => .int i t := by
  cases h with
  | none => exact ⟨none, rfl, rfl⟩
  | int i t => exact ⟨some (i, t), rfl, rfl⟩
theorem SliceP.str {l : List Nat} {x y : Option Int} (hz : l.length ≤ 16777216) (h : Q (.str (pySl l x y)) ρ σ) : SliceP G (.str l) x y ρ σ Q := fun A bs im s v vl vu hA hS hv hx hy => by
  obtain ⟨t, rfl⟩ := hv.str_i
  refine ⟨"str", _, typeIs_str _ _ _, F.slot_str_getitem.lookup, ?_⟩
  have hk : KeptH fun h' => ∀ b o, s.heap.get? b = some o → h'.get? b = some o := fun h' ob k b o e => Heap.get?_push_of_some _ (k b o e)
  have fin : ∀ h' t' k, (∀ b o, s.heap.get? b = some o → h'.get? b = some o) → Post G VR bs im Q (.str (Txt.slice (S l) x y) t') { s with heap := h', toks := k } := fun h' t' k kk => by
    rw [sliceText_eq]; exact .now (hS.grow kk k) .str h
  have hz' : (S l).length ≤ sizeLine := by rw [S_len, sizeLine_eq]; exact hz
  cases hx with
  | none => cases hy with
    | none => obtain ⟨_, _, _, _, hg⟩ := SBH.sliceItem_nn (prog := G.C.prog) (w := G.C.w) (A := A) (E := Bot) (s := s) (t := t) hk (fun _ _ e => e) fin hz'; exact hg
    | int j u => obtain ⟨_, _, _, _, hg⟩ := SBH.sliceItem_ns (prog := G.C.prog) (w := G.C.w) (A := A) (E := Bot) (s := s) (t := t) (uj := u) hk (fun _ _ e => e) fin hz'; exact hg
  | int i u => cases hy with
    | none => obtain ⟨_, _, _, _, hg⟩ := SBH.sliceItem_sn (prog := G.C.prog) (w := G.C.w) (A := A) (E := Bot) (s := s) (t := t) (ui := u) hk (fun _ _ e => e) fin hz'; exact hg
    | int j u' => obtain ⟨_, _, _, _, hg⟩ := SBH.sliceItem_ss (prog := G.C.prog) (w := G.C.w) (A := A) (E := Bot) (s := s) (t := t) (ui := u) (uj := u') hk (fun _ _ e => e) fin hz'; exact hg
theorem VRs.pySl {im : PM} {ps : List PV} {vs : List Value} (h : VRs im ps vs) (x y : Option Int) : VRs im (pySl ps x y) (pySl vs x y) := by
  unfold Mine.pySl
  rw [h.length]
  exact (h.drop _).take _
theorem pySl_le {α : Type} (l : List α) (x y : Option Int) : (pySl l x y).length ≤ l.length := by unfold pySl; rw [List.length_take, List.length_drop]; omega
theorem slice_run {A : Around} {bs im : PM} {s : Shared} {a : Addr} {vs : List Value} {n : Nat} {l : List PV} {x y : Option Int} {vl vu : Value} (hS : St G bs im s ρ σ) (ho : s.heap.get? a = some (lstO vs n)) (hvs : VRs im l vs) (hz : l.length ≤ 16000000) (hx : IsPart vl x) (hy : IsPart vu y)
    (h : Q (.lst (pySl l x y)) ρ σ) : wpAny G.C.M A (getItem (.ref a) (.ref s.heap.objs.size)) (Post G VR bs im Q) Bot { s with heap := s.heap.push (sliO vl vu) } := by
  refine wpAny_getItem_list_slice (isList_of (Heap.get?_push_of_some _ ho)) (Heap.IsSliceOf.new ..) hx hy .none (by simp) ?_ (by rw [List.size_toArray, hvs.length, sizeLine_eq]; omega)
  have hS₁ : St G bs im { s with heap := s.heap.push (sliO vl vu) } ρ σ := hS.grow (fun b o e => Heap.get?_push_of_some _ e) s.toks
  obtain ⟨e, hS₂⟩ := hS₁.pushIm (lstO (pySl vs x y) 0) rfl s.toks
  rw [slicePick_eq]
  exact ⟨_, _, ρ, σ, e, .lst (PM.put_self ..) ((hvs.pySl x y).mono e.1), hS₂, h⟩
theorem SliceP.lst {l : List PV} {x y : Option Int} (hz : l.length ≤ 16000000) (h : Q (.lst (pySl l x y)) ρ σ) : SliceP G (.lst l) x y ρ σ Q := fun A bs im s v vl vu hA hS hv hx hy => by
  obtain ⟨a, vs, n, rfl, ho, hvs⟩ := hv.lst_i
  exact ⟨"list", _, (isList_of (hS.l.him _ _ ho)).typeIs, list_getitem_lookup, slice_run hS (hS.l.him _ _ ho) hvs hz hx hy h⟩
theorem SliceP.led {a : Addr} {l : List PV} {x y : Option Int} (hm : (a, LO.list l) ∈ σ) (hz : l.length ≤ 16000000) (h : Q (.lst (Mine.pySl l x y)) ρ σ) : SliceP G (.ref a) x y ρ σ Q := fun A bs im s v vl vu hA hS hv hx hy => by
  rw [hv.ref_i]
  obtain ⟨vs, n, ho, hvs⟩ := hS.atList hm
  exact ⟨"list", _, (isList_of ho).typeIs, list_getitem_lookup, slice_run hS ho hvs hz hx hy h⟩
end
end Mine
end
section
open PySem PySem.W PyProof.Rows PySem.Calls
set_option Elab.async false
set_option maxRecDepth 100000
namespace Mine

section
variable {G : Gx} {ρ : Rho} {σ : Led} {Q : PV → Rho → Led → Prop}

/-! lists that turn -/
theorem Upd.ofMem {a : Addr} {o o' : LO} : ∀ {σ : Led}, (a, o) ∈ σ → ∃ σ', Upd a o o' σ σ'
  | (b, p) :: r, h => by
    by_cases e : (b, p) = (a, o)
    · cases e; exact ⟨_, .head⟩
    · rcases List.mem_cons.mp h with h | h
      · exact absurd h.symm e
      · obtain ⟨σ', u⟩ := Upd.ofMem h; exact ⟨_, .tail u⟩
theorem upd_list {A : Around} {bs im : PM} {s : Shared} {σ' : Led} {a : Addr} {vs : List Value} {n : Nat} {l : List PV} {f : Array Value → Array Value} {vs' : List Value} {l' : List PV} (hS : St G bs im s ρ σ) (u : Upd a (.list l) (.list l') σ σ') (ho : s.heap.get? a = some (lstO vs n))
    (hf : f vs.toArray = vs'.toArray) (hr : VRs im l' vs') (t : Nat) : St G bs im { s with heap := s.heap.update a (Obj.mapSeq f), toks := t } ρ σ' := by
  refine hS.upd u t (Heap.SameBut.update ..) ?_
  have := IsL.update (items := vs.toArray) (n := n) ho f
  rw [hf] at this
  exact ⟨vs', _, this, hr⟩
/-- o[i] = v -/
noncomputable def SetP (G : Gx) (a b p : PV) (ρ : Rho) (σ : Led) (Q : Rho → Led → Prop) : Prop :=
  ∀ A bs im s v w x, AOk G.n A → St G bs im s ρ σ → VR im a v → VR im b w → VR im p x → wpAny G.C.M A (setItem v w x) (Post G relU bs im (fun _ ρ' σ' => Q ρ' σ')) Bot s
theorem Ex1.setItem {o i value : Expr} {p' pos : Pos} {Q : Fl → Rho → Led → Prop} (h : Ev G value ρ σ (fun p ρ₁ σ₁ => Ev G o ρ₁ σ₁ (fun a ρ₂ σ₂ => Ev G i ρ₂ σ₂ (fun b ρ₃ σ₃ => SetP G a b p ρ₃ σ₃ (fun ρ' σ' => Q .next ρ' σ')))))
    (hs : swapsWith value (some (.Subscript o i p')) pos.line G.env = pure false := by rfl) : Ex1 G (.Assign [.Subscript o i p'] value pos) ρ σ Q := fun A bs im s hA hS => by
  refine wpAny_Assign_Subscript (wpAny_mono (h A bs im s hA hS) (fun x s₁ ⟨im₁, p, ρ₁, σ₁, e₁, hr, hS₁, h1⟩ => ?_) fun _ _ x => x) hs
  refine wpAny_mono (h1 A bs im₁ s₁ hA hS₁) (fun v s₂ ⟨im₂, a, ρ₂, σ₂, e₂, ha, hS₂, h2⟩ => ?_) fun _ _ x => x
  refine wpAny_mono (h2 A bs im₂ s₂ hA hS₂) (fun w s₃ ⟨im₃, b, ρ₃, σ₃, e₃, hb, hS₃, h3⟩ => ?_) fun _ _ x => x
  refine wpAny_mono (h3 A bs im₃ s₃ v w x hA hS₃ (ha.mono e₃.1) hb ((hr.mono e₂.1).mono e₃.1)) (fun _ s₄ ⟨im₄, _, ρ₄, σ₄, e₄, _, hS₄, hq⟩ => ?_) fun _ _ x => x
  exact ⟨im₄, Fl.next, ρ₄, σ₄, e₁.trans (e₂.trans (e₃.trans e₄)), rfl, hS₄, hq⟩
theorem setItem_run {prog : Program} {w : World} {A : Around} {E : Value → Shared → Prop} {s : Shared} {l : Addr} {vs : List Value} {n : Nat} {k : Nat} {i : Int} {t : Tok} {v : Value} {Q : Unit → Shared → Prop} (ho : s.heap.get? l = some (lstO vs n))
    (hi : i = (k : Int)) (hk : k < vs.length) (hz : vs.length ≤ 16777216) (h : Q () { s with heap := s.heap.update l (Obj.mapSeq (·.setIfInBounds k v)) }) : wpAny (model prog w) A (setItem (.ref l) (.int i t) v) Q E s := by
  have hl := isList_of ho
  have hfit : Builtin.List.listFitsIndex i = true := fitsIndex_of (by omega) (by omega)
  clear hz
  unfold setItem
  try with_reducible refine wpAny_holding ?_
  first | refine wpAny_bind (wpAny_pure ?_) | skip
  refine wpAny_bind (wpAny_sequenceKey hl.typeIs (by decide) ?_)
  refine wpAny_bind (wpAny_callSpecial?_slot (name := Str.ofString "__setitem__") hl.typeIs slot_list_setitem
    (wpAny_call_entry slot_list_setitem hl.typeIs entry_list_setitem ?_ (args_list_setitem _ _ _)))
  show wpAny _ _ (Builtin.List.listSubscript? (.int i t) >>= _) _ _ s
  refine wpAny_bind (wpAny_listSubscript_int hfit ?_)
  clear hfit
  subst hi
  have hx' : vs.toArray[k]? = some vs[k] := by simp [hk]
  show wpAny _ _ ((seqItemAt l k >>= fun r => pure (r.map (k, ·))) >>= _) _ _ s
  refine wpAny_bind (wpAny_bind (wpAny_seqItemAt ho rfl (wpAny_pure ?_)))
  rw [hx']
  show wpAny _ _ (setSeqItemAt l k v >>= _) _ _ s
  refine wpAny_bind (wpAny_setSeqItemAt ho rfl ?_)
  first
    | exact wpAny_bind (wpAny_pure (wpAny_pure ⟨.none, rfl, wpAny_pure h⟩))
    | exact wpAny_pure ⟨.none, rfl, wpAny_pure h⟩
theorem SetP.led {a : Addr} {l : List PV} {k : Nat} {p : PV} {σ' : Led} {Q : Rho → Led → Prop} (u : Upd a (.list l) (.list (l.set k p)) σ σ') (hk : k < l.length) (hz : l.length ≤ 16777216) (h : Q ρ σ') : SetP G (.ref a) (.int k) p ρ σ Q := fun A bs im s v w x hA hS ha hb hp => by
  rw [ha.ref_i]
  obtain ⟨t, rfl⟩ := hb.int_i
  obtain ⟨vs, n, ho, hvs⟩ := hS.atList u.mem
  have e := hvs.length
  exact setItem_run ho rfl (by rw [e]; exact hk) (by rw [e]; exact hz) (.now (r := ()) (upd_list (A := A) hS u ho (by simp) (hvs.set hp) s.toks) trivial h)
theorem CallP.self {id : String} {ps : List PV} (hp : ∀ (A : Around) (bs im : PM) (s : Shared) (vs : List Value), AOk G.n A → St G bs im s ρ σ → VRs im ps vs → wpAny G.C.M A (call (.builtin id) vs []) (Post G VR bs im Q) Bot s) :
    CallP G (.con (.builtin id)) ps [] ρ σ Q := fun A bs im s fv vs kvs hA hS hf hv hk => by
  rw [hf.con_i]
  have : kvs = [] := by have := hk.1; simpa using this
  subst this
  exact ⟨keeps_builtin, hp A bs im s vs hA hS hv⟩
theorem append_run {A : Around} {bs im : PM} {s : Shared} {σ' : Led} {a : Addr} {l : List PV} {p : PV} {x : Value} (hS : St G bs im s ρ σ) (u : Upd a (.list l) (.list (l ++ [p])) σ σ') (hx : VR im p x) (hz : l.length ≤ 16000000) (h : Q .none ρ σ') :
    wpAny G.C.M A (call (.builtin "list.append") [.ref a, x] []) (Post G VR bs im Q) Bot s := by
  obtain ⟨vs, n, ho, hvs⟩ := hS.atList u.mem
  refine call_meets F.slot_list_append ⟨_, ho, rfl⟩ F.entry_list_append (F.args_list_append_2 _ _) (list_append a vs.toArray n x (by rw [List.size_toArray, hvs.length, sizeLine_eq]; omega)) ⟨ho, ?_⟩
  exact .now (upd_list (A := A) hS u ho (vs' := vs ++ [x]) (by simp) (hvs.append (.cons hx .nil)) s.toks) .none h
theorem CallP.append {a : Addr} {l : List PV} {p : PV} {σ' : Led} (u : Upd a (.list l) (.list (l ++ [p])) σ σ') (hz : l.length ≤ 16000000) (h : Q .none ρ σ') : CallP G (.con (.builtin "list.append")) [.ref a, p] [] ρ σ Q := .self fun A bs im s vs hA hS hv => by
  obtain ⟨v, x, rfl, ha, hx⟩ := two_v hv
  rw [ha.ref_i]
  exact append_run hS u hx hz h
/-- a method bound beforehand -/
theorem checkBound_append {M : Model} {A : Around} {E : Value → Shared → Prop} {s : Shared} {a : Addr} {vs : List Value} {n : Nat} {x : Value} {Q : Unit → Shared → Prop} (ho : s.heap.get? a = some (lstO vs n)) (h : Q () s) : wpAny M A (checkBoundCall "list.append" ⟨[.ref a, x], []⟩) Q E s := by
  have f1 : isSubtype (.type "list") (.type "module") = pure false := by rw [isSubtype_type]; kernel_rfl
  have hT : s.TypeIs (.ref a) "list" := ⟨_, ho, rfl⟩
  unfold checkBoundCall
  repeat (any_goals (first | assumption | with_reducible refine wpAny_loadPart' ho ?_ | wp_step))
theorem CallP.appendB {a : Addr} {l : List PV} {p : PV} {σ' : Led} (u : Upd a (.list l) (.list (l ++ [p])) σ σ') (hz : l.length ≤ 16000000) (h : Q .none ρ σ') : CallP G (.bm "list.append" a) [p] [] ρ σ Q := fun A bs im s fv vs kvs hA hS hf hv hk => by
  obtain ⟨b, rfl, hb⟩ := hf.bm_i
  have : kvs = [] := by have := hk.1; simpa using this
  subst this
  obtain ⟨x, rfl, hx⟩ := one_v hv
  have hb' := hS.l.him _ _ hb
  refine ⟨keeps_rec hb' rfl rfl, wpAny_call (codeAny_of_tree ?_)⟩
  obtain ⟨vs, n, ho, hvs⟩ := hS.atList u.mem
  show wpAny _ _ (callAny (.ref b) _) _ _ _
  unfold callAny
  refine wpAny_bind (wpAny_load hb' ?_)
  have fin : wpAny G.C.M (A.under (.call (.ref b) ⟨[x], []⟩)) (checkBoundCall "list.append" ⟨[.ref a, x], []⟩ >>= fun _ => again (.builtin "list.append" ⟨[.ref a, x], []⟩)) (fun fin s' => match fin with | .done f => (match (Except.ok f : Result) with | .ok (.ret v) => Post G VR bs im Q v s' | .ok _ => False | .error e => Bot e s') | .again c' => c'.quiet = true ∧ codeAny G.C.M A c' (fun r s' => match r with | .ok (.ret v) => Post G VR bs im Q v s' | .ok _ => False | .error e => Bot e s') s') (fun e s' => Bot e s') s := by
    refine wpAny_bind (checkBound_append ho (wpAny_pure ⟨plainId_quiet F.slot_list_append.plain _, ?_⟩))
    refine codeAny_builtin F.entry_list_append ?_
    rw [Around.under_plainId F.slot_list_append.plain _]
    exact list_append a vs.toArray n x (by rw [List.size_toArray, hvs.length, sizeLine_eq]; omega) G.C.prog G.C.w A (wants (Post G VR bs im Q) Bot) s ⟨ho, Post.now (rel := VR) (Q := Q) (upd_list (A := A) hS u ho (vs' := vs ++ [x]) (by simp) (hvs.append (.cons hx .nil)) s.toks) VR.none h⟩
  exact fin
theorem popLast {α : Type} (vs : List α) : vs.toArray.eraseIdxIfInBounds (vs.length - 1) = vs.dropLast.toArray := by
  unfold Array.eraseIdxIfInBounds
  split
  · rename_i h
    have h' : vs.length - 1 < vs.length := by simpa using h
    simp only [List.eraseIdx_toArray]
    rw [List.eraseIdx_length_sub_one]
  · rename_i h
    have : vs.length = 0 := by simp at h; omega
    have : vs = [] := List.length_eq_zero_iff.mp this
    subst this; rfl
theorem VRs.dropLast {im : PM} {ps : List PV} {vs : List Value} (h : VRs im ps vs) : VRs im ps.dropLast vs.dropLast := by
  rw [List.dropLast_eq_take, List.dropLast_eq_take, h.length]; exact h.take _
theorem CallP.pop {a : Addr} {l : List PV} {p : PV} {σ' : Led} (hp : l[l.length - 1]? = some p) (u : Upd a (.list l) (.list l.dropLast) σ σ') (hz : l.length ≤ 16000000) (h : Q p ρ σ') : CallP G (.con (.builtin "list.pop")) [.ref a] [] ρ σ Q := .self fun A bs im s vs hA hS hv => by
  obtain ⟨v, rfl, ha⟩ := one_v hv
  rw [ha.ref_i]
  obtain ⟨vs, n, ho, hvs⟩ := hS.atList u.mem
  obtain ⟨x, hx, hr⟩ := hvs.get hp
  refine call_meets F.slot_list_pop ⟨_, ho, rfl⟩ F.entry_list_pop (F.args_list_pop_1 _) (MeetsSeq.list_pop_last a vs.toArray n x (by rw [List.size_toArray, hvs.length]; simpa using hx) (by rw [List.size_toArray, hvs.length, sizeLine_eq]; omega)) ⟨ho, ?_⟩
  exact .now (upd_list (A := A) hS u ho (vs' := vs.dropLast) (by rw [List.size_toArray]; exact popLast vs) hvs.dropLast s.toks) hr h

/-! methods' look-up -/
theorem MethP.str {l : List Nat} {name : Str} {id : String} (slot : Slot "str" name id) (ty : typeOf (.builtin id) = pure (.type "method_descriptor")) : MethP G (.str l) name (.con (.builtin id)) [.str l] ρ σ := fun A bs im s v pl Qv hA hS hv k => by
  obtain ⟨t, rfl⟩ := hv.str_i
  exact GM.of _ (typeIs_str _ _ _) slot ty GM.noRef (k _ _ s.toks .con (.cons .str .nil))
theorem MethP.led {a : Addr} {l : List PV} {name : Str} {id : String} (hm : (a, LO.list l) ∈ σ) (slot : Slot "list" name id) (ty : typeOf (.builtin id) = pure (.type "method_descriptor")) : MethP G (.ref a) name (.con (.builtin id)) [.ref a] ρ σ := fun A bs im s v pl Qv hA hS hv k => by
  rw [hv.ref_i]
  obtain ⟨vs, n, ho, hvs⟩ := hS.atList hm
  exact getMethod_builtin (isList_of ho).typeIs F.plainAttrs_list slot ty (fun b e => by cases e; exact ⟨_, ho, rfl⟩) (k _ _ s.toks .con (.cons .ref .nil))

/-! range -/
theorem CallP.range1 {n : Int} (h : Q (.rng 0 n 1) ρ σ) : CallP G (.con (.type "range")) [.int n] [] ρ σ Q := fun A bs im s fv vs kvs hA hS hf hv hk => by
  rw [hf.con_i]
  have : kvs = [] := by have := hk.1; simpa using this
  subst this
  obtain ⟨v, rfl, hv1⟩ := one_v hv
  obtain ⟨t, rfl⟩ := hv1.int_i
  refine ⟨keeps_type, call_range_1 ?_⟩
  obtain ⟨e, hS'⟩ := hS.pushIm { cls := .type "range", data := .fields #[.int 0 s.toks, .int n t, .int 1 (s.toks + 1)] } rfl (s.toks + 1 + 1)
  exact ⟨_, _, ρ, σ, e, .rng (PM.put_self ..), hS', h⟩
theorem CallP.range2 {a n : Int} (h : Q (.rng a n 1) ρ σ) : CallP G (.con (.type "range")) [.int a, .int n] [] ρ σ Q := fun A bs im s fv vs kvs hA hS hf hv hk => by
  rw [hf.con_i]
  have : kvs = [] := by have := hk.1; simpa using this
  subst this
  obtain ⟨v, w, rfl, hv1, hw1⟩ := two_v hv
  obtain ⟨t, rfl⟩ := hv1.int_i
  obtain ⟨u, rfl⟩ := hw1.int_i
  refine ⟨keeps_type, call_range_2 ?_⟩
  obtain ⟨e, hS'⟩ := hS.pushIm { cls := .type "range", data := .fields #[.int a t, .int n u, .int 1 s.toks] } rfl (s.toks + 1)
  exact ⟨_, _, ρ, σ, e, .rng (PM.put_self ..), hS', h⟩
end
end Mine
end
section
open PySem PySem.W PyProof.Rows PySem.Calls
set_option Elab.async false
set_option maxRecDepth 100000
namespace Mine
theorem md_get : typeLookup (.type "method_descriptor") "__get__" = pure (some (.builtin "method_descriptor.__get__")) := by rw [typeLookup_type, builtinLookup_eq_fast]; kernel_rfl
theorem md_set : typeLookup (.type "method_descriptor") "__set__" = pure none := by rw [typeLookup_type, builtinLookup_eq_fast]; kernel_rfl
theorem md_del : typeLookup (.type "method_descriptor") "__delete__" = pure none := by rw [typeLookup_type, builtinLookup_eq_fast]; kernel_rfl
theorem slot_md_get : Slot "method_descriptor" "__get__" "method_descriptor.__get__" :=
  .of (owner := "method_descriptor") (n := "__get__") (by rw [typeLookup_type, builtinLookup_eq_fast]; kernel_rfl) (by decide +kernel) (by decide +kernel) (by decide +kernel)
    (by first | exact .inl (by decide +kernel) | exact .inr (by decide +kernel)) (by rw [isSubtype_type]; kernel_rfl)
theorem entry_md_get : entryFor table "method_descriptor.__get__" = some Builtin.«method_descriptor.__get__» := entryFor_of_tree (by kernel_rfl)
theorem args_md_get (a b c : Value) : argsOk "method_descriptor.__get__" ⟨[a, b, c], []⟩ := by unfold argsOk; kernel_rfl
set_option maxHeartbeats 2000000 in
theorem ga_append (a : Addr) (vs : List Value) (n : Nat) (u : Tok) :
    Meets (Builtin.«object.__getattribute__» ⟨[.ref a, .str (Str.ofString "append") u], []⟩) (fun A R s => s.heap.get? a = some (lstO vs n) ∧ ∀ tk, R (.ok (.ret (.ref s.heap.objs.size))) { s with heap := s.heap.push (bmO "list.append" a), toks := tk }) :=
  Meets.of_wp fun prog w A R s hs => by
    obtain ⟨hp, g, d, tk, os⟩ := s
    obtain ⟨hx, hs⟩ := hs
    have hT : (⟨hp, g, d, tk, os⟩ : Shared).TypeIs (.ref a) "list" := ⟨_, hx, rfl⟩
    have f1 := F.slot_list_append.lookup
    have f2 := F.type_list_append
    have f3 := md_get
    have f4 := md_set
    have f5 := md_del
    unfold Builtin.«object.__getattribute__»
    repeat (any_goals (first | assumption | with_reducible refine wpAny_loadPart' hx ?_ | wp_step))
    refine codeAny_call_builtin slot_md_get.plain entry_md_get (slot_md_get.check _ _ _ _ _ _ _ _ F.type_list_append (args_md_get _ _ _) ?_)
    have g0 : ".".intercalate ("list.append".cutAt '.').dropLast = "list" := by decide +kernel
    have g1 : isSubtype (Value.type "list") (Value.type (".".intercalate ("list.append".cutAt '.').dropLast)) = pure true := by rw [g0]; exact F.sub_list_list
    unfold Builtin.«method_descriptor.__get__»
    repeat (any_goals (first | assumption | with_reducible refine wpAny_loadPart' hx ?_ | wp_step))
    exact ⟨_, rfl, hs _⟩
theorem getattr_append {prog : Program} {w : World} {A : Around} {E : Value → Shared → Prop} {s : Shared} {a : Addr} {vs : List Value} {n : Nat} {ex : Bool} {Q : Value → Shared → Prop} (ho : s.heap.get? a = some (lstO vs n))
   (h : ∀ tk, Q (.ref s.heap.objs.size) { s with heap := s.heap.push (bmO "list.append" a), toks := tk }) : wpAny (model prog w) A (getAttr (.ref a) (Str.ofString "append") ex) Q E s := by
  obtain ⟨hp, g, d, tk, os⟩ := s
  have hT : ∀ tk', (⟨hp, g, d, tk', os⟩ : Shared).TypeIs (.ref a) "list" := fun _ => ⟨_, ho, rfl⟩
  have f3 := F.slot_list_getattribute.lookup
  have f4 := F.slot_list_getattribute.bind (.ref a)
  have f5 := am_list_getattr_none
  unfold getAttr getAttrBy
  repeat (any_goals (first | assumption | exact hT _ | with_reducible refine wpAny_loadPart' ho ?_ | ((with_reducible show wpAny _ _ (call (Value.builtin "list.__getattribute__") _ _) _ _ _); refine call_meets F.slot_list_getattribute (hT _) am_entry_list_getattribute (F.args_list_getattribute_2 _ _) (ga_append a vs n _) ⟨ho, fun tk => ?_⟩) | wp_step))
  have e0 : ¬ (ex && onTheHeap (Value.builtin "list.__getattribute__")) = true := by cases ex <;> decide
  rw [if_neg e0]
  unfold boundAndCalled
  repeat (any_goals (first | assumption | exact hT _ | with_reducible refine wpAny_loadPart' ho ?_ | ((with_reducible show wpAny _ _ (call (Value.builtin "list.__getattribute__") _ _) _ _ _); refine call_meets F.slot_list_getattribute (hT _) am_entry_list_getattribute (F.args_list_getattribute_2 _ _) (ga_append a vs n _) ⟨ho, fun tk => ?_⟩) | wp_step))
  show wpAny _ _ (handedOut (.ref _)) _ _ _
  exact handed_on rfl (h _)
end Mine
end
section
open PySem PySem.W PyProof.Rows PySem.Calls
set_option Elab.async false
set_option maxRecDepth 100000
namespace Mine

section
variable {G : Gx} {ρ : Rho} {σ : Led} {Q : PV → Rho → Led → Prop} {bs im : PM} {s : Shared}

/-- o.name -/
theorem Ev.attr {value : Expr} {name : Str} {pos : Pos} (h : Ev G value ρ σ (fun a ρ₁ σ₁ => Op1 G (fun v => getAttr v name true) a ρ₁ σ₁ Q))
    (he : eval (.Attribute value name pos) G.env = (do
      let o ← eval value G.env
      standAt pos.atName
      let r ← holding [o] (getAttr o name true)
      letTemporaryGo value o r
      pure r) := by rfl) : Ev G (.Attribute value name pos) ρ σ Q :=
  fun _ _ _ _ hA hS => Attribute_any_ (Tr.then h hA hS) he
theorem Op1.boundAppend {a : Addr} {l : List PV} (hm : (a, LO.list l) ∈ σ) (h : Q (.bm "list.append" a) ρ σ) : Op1 G (fun v => getAttr v (Str.ofString "append") true) (.ref a) ρ σ Q := fun A bs im s v hA hS hv => by
  rw [hv.ref_i]
  obtain ⟨vs, n, ho, hvs⟩ := hS.atList hm
  refine getattr_append ho fun tk => ?_
  obtain ⟨e, hS'⟩ := hS.pushIm (bmO "list.append" a) rfl tk
  exact ⟨_, _, ρ, σ, e, .bm (PM.put_self ..), hS', h⟩

/-! truth of lists, equality of lists -/
theorem TrueOf.led {a : Addr} {l : List PV} {Q : Bool → Rho → Led → Prop} (hm : (a, LO.list l) ∈ σ) (hz : l.length ≤ 16777216) (h : Q (!l.isEmpty) ρ σ) : TrueOf G (.ref a) ρ σ Q := fun A bs im s v hA hS hv => by
  rw [hv.ref_i]
  obtain ⟨vs, n, ho, hvs⟩ := hS.atList hm
  have e := hvs.length
  refine wpAny_truthy_list (isList_of ho) (by rw [List.size_toArray, e]; omega) ?_
  refine .now (r := !l.isEmpty) (hS.toks _) ?_ h
  show _ = _
  cases l with
  | nil => rw [hvs.nil_inv]; rfl
  | cons p l => obtain ⟨v, vs', rfl, _⟩ := hvs.cons_inv; rfl
theorem ne_empty_run {A : Around} {bs im : PM} {s : Shared} {a b : Addr} {vs : List Value} {n m : Nat} {l : List PV} (hA : AOk G.n A) (hS : St G bs im s ρ σ) (ho : s.heap.get? a = some (lstO vs n)) (hb : s.heap.get? b = some (lstO [] m)) (hvs : VRs im l vs) (h : Q (.bool (!l.isEmpty)) ρ σ) :
    wpAny G.C.M A (compareOp .NotEq (.ref a) (.ref b)) (Post G VR bs im Q) Bot s := by
  have hu : A.units < cLine := by have := hA.2.2; show A.units < 9900; omega
  cases l with
  | nil =>
    have e := hvs.nil_inv
    subst e
    exact SeqAt.RcNeAt.lists (e := fun _ => true) (isList_of ho) (isList_of hb) rfl hu (fun j h1 h2 => absurd h1 (by simp)) G.C.prog G.C.w _ _ (.now hS .bool h)
  | cons p l =>
    obtain ⟨v, vs', e, _⟩ := hvs.cons_inv
    subst e
    exact SeqAt.RcNeAt.lists_lengths (isList_of ho) (isList_of hb) (by simp) hu G.C.prog G.C.w _ _ (.now hS .bool h)
theorem Op2.neEmpty {a : Addr} {l : List PV} (hm : (a, LO.list l) ∈ σ) (h : Q (.bool (!l.isEmpty)) ρ σ) : Op2 G (compareOp .NotEq) (.ref a) (.lst []) ρ σ Q := fun A bs im s v w hA hS hv hw => by
  rw [hv.ref_i]
  obtain ⟨b, ws, m, rfl, hb, hws⟩ := hw.lst_i
  have e := hws.nil_inv
  subst e
  obtain ⟨vs, n, ho, hvs⟩ := hS.atList hm
  exact ne_empty_run hA hS ho (hS.l.him _ _ hb) hvs h
theorem Op2.isNotSame {a : Addr} (h : Q (.bool false) ρ σ) : Op2 G (compareOp .IsNot) (.ref a) (.ref a) ρ σ Q := fun A bs im s v w hA hS hv hw => by
  rw [hv.ref_i, hw.ref_i]
  exact isnot_ref_same (.now hS .bool h)
theorem isSame_refs {M : Model} {A : Around} {E : Value → Shared → Prop} {s : Shared} {a : Addr} {Q : Bool → Shared → Prop} (h : Q true s) : wpAny M A (isSame (.ref a) (.ref a)) Q E s := by
  unfold isSame
  simp only [beq_self_eq_true, if_true]
  exact wpAny_pure h
theorem Op2.isSameR {a : Addr} (h : Q (.bool true) ρ σ) : Op2 G (compareOp .Is) (.ref a) (.ref a) ρ σ Q := fun A bs im s v w hA hS hv hw => by
  rw [hv.ref_i, hw.ref_i]
  show wpAny _ _ (isSame (.ref a) (.ref a) >>= fun b => pure (Value.bool b)) _ _ _
  exact wpAny_bind (isSame_refs (wpAny_pure (.now hS .bool h)))
theorem Op2.isNotStrRef {l : List Nat} {a : Addr} (h : Q (.bool true) ρ σ) : Op2 G (compareOp .IsNot) (.str l) (.ref a) ρ σ Q := fun A bs im s v w hA hS hv hw => by
  obtain ⟨t, rfl⟩ := hv.str_i
  rw [hw.ref_i]
  show wpAny _ _ (isSame (.str ⟨l.toArray⟩ t) (.ref a) >>= fun b => pure (Value.bool (!b))) _ _ _
  exact wpAny_bind (wpAny_pure (wpAny_pure (.now hS .bool h)))
theorem Op2.isStrRef {l : List Nat} {a : Addr} (h : Q (.bool false) ρ σ) : Op2 G (compareOp .Is) (.str l) (.ref a) ρ σ Q := fun A bs im s v w hA hS hv hw => by
  obtain ⟨t, rfl⟩ := hv.str_i
  rw [hw.ref_i]
  show wpAny _ _ (isSame (.str ⟨l.toArray⟩ t) (.ref a) >>= fun b => pure (Value.bool b)) _ _ _
  exact wpAny_bind (wpAny_pure (wpAny_pure (.now hS .bool h)))
theorem Op2.isType {x y : String} (h : Q (.bool (Value.type x == Value.type y)) ρ σ) : Op2 G (compareOp .Is) (.con (.type x)) (.con (.type y)) ρ σ Q := fun A bs im s v w hA hS hv hw => by
  rw [hv.con_i, hw.con_i]
  show wpAny _ _ (isSame (.type x) (.type y) >>= fun b => pure (Value.bool b)) _ _ _
  exact wpAny_bind (wpAny_pure (wpAny_pure (.now hS .bool h)))
theorem Op2.isNotType {x y : String} (h : Q (.bool (!(Value.type x == Value.type y))) ρ σ) : Op2 G (compareOp .IsNot) (.con (.type x)) (.con (.type y)) ρ σ Q := fun A bs im s v w hA hS hv hw => by
  rw [hv.con_i, hw.con_i]
  exact isnot_type (.now hS .bool h)

/-! type, isinstance, object -/
theorem typeIs_led (hS : St G bs im s ρ σ) {a : Addr} {l : List PV} (hm : (a, LO.list l) ∈ σ) : s.TypeIs (.ref a) "list" := by
  obtain ⟨vs, n, ho, _⟩ := hS.atList hm
  exact ⟨_, ho, rfl⟩
theorem CallP.typeOf {p : PV} {T : String} (hT : ∀ bs im s v, St G bs im s ρ σ → VR im p v → s.TypeIs v T) (hn : (Value.type T == Value.type "builtin_function_or_method") = false) (h : Q (.con (.type T)) ρ σ) : CallP G (.con (.type "type")) [p] [] ρ σ Q := fun A bs im s fv vs kvs hA hS hf hv hk => by
  rw [hf.con_i]
  have : kvs = [] := by have := hk.1; simpa using this
  subst this
  obtain ⟨v, rfl, hv1⟩ := one_v hv
  exact ⟨keeps_type, call_type_of (hT _ _ _ _ hS hv1) hn (.now hS .con h)⟩
theorem CallP.typeStr {l : List Nat} (h : Q (.con (.type "str")) ρ σ) : CallP G (.con (.type "type")) [.str l] [] ρ σ Q :=
  .typeOf (fun _ _ _ _ _ hv => by obtain ⟨t, rfl⟩ := hv.str_i; exact typeIs_str _ _ _) (by decide) h
theorem CallP.typeLed {a : Addr} {l : List PV} (hm : (a, LO.list l) ∈ σ) (h : Q (.con (.type "list")) ρ σ) : CallP G (.con (.type "type")) [.ref a] [] ρ σ Q :=
  .typeOf (fun _ _ _ _ hS hv => by rw [hv.ref_i]; exact typeIs_led hS hm) (by decide) h
theorem CallP.isStr {l : List Nat} (h : Q (.bool true) ρ σ) : CallP G (.con (.builtin "isinstance")) [.str l, .con (.type "str")] [] ρ σ Q := .self fun A bs im s vs hA hS hv => by
  obtain ⟨v, w, rfl, hv1, hw1⟩ := two_v hv
  obtain ⟨t, rfl⟩ := hv1.str_i
  rw [hw1.con_i]
  exact call_isinstance_yes (typeIs_str _ _ _) rfl isSubtype_str_str (.now hS .bool h)
end
end Mine
end
section
open PySem PySem.W PyProof.Rows PySem.Calls
set_option Elab.async false
set_option maxRecDepth 100000
namespace Mine

/-! methods of texts -/
section
variable {G : Gx} {ρ : Rho} {σ : Led} {Q : PV → Rho → Led → Prop}

theorem CallP.upper {l m : List Nat} (e : Txt.upper (S l) = S m) (hz : l.length ≤ 5000000) (h : Q (.str m) ρ σ) : CallP G (.con (.builtin "str.upper")) [.str l] [] ρ σ Q := .self fun A bs im s vs hA hS hv => by
  obtain ⟨v, rfl, hv1⟩ := one_v hv
  obtain ⟨t, rfl⟩ := hv1.str_i
  exact KXw.upper e (fit_upper (by rw [S_len]; omega)) fun t' k => .now (hS.toks k) .str h
theorem CallP.lower {l m : List Nat} (e : Txt.lower (S l) = S m) (hz : l.length ≤ 5000000) (h : Q (.str m) ρ σ) : CallP G (.con (.builtin "str.lower")) [.str l] [] ρ σ Q := .self fun A bs im s vs hA hS hv => by
  obtain ⟨v, rfl, hv1⟩ := one_v hv
  obtain ⟨t, rfl⟩ := hv1.str_i
  exact KXw.lower e (fit_lower (by rw [S_len]; omega)) fun t' k => .now (hS.toks k) .str h
theorem CallP.stripC {l c m : List Nat} (e : Txt.stripChars (S l) (S c) = S m) (hz : l.length ≤ 16777216) (h : Q (.str m) ρ σ) : CallP G (.con (.builtin "str.strip")) [.str l, .str c] [] ρ σ Q := .self fun A bs im s vs hA hS hv => by
  obtain ⟨v, w, rfl, hv1, hw1⟩ := two_v hv
  obtain ⟨t, rfl⟩ := hv1.str_i
  obtain ⟨u, rfl⟩ := hw1.str_i
  exact KXw.stripChars e (by rw [S_len, sizeLine_eq]; exact hz) fun t' k => .now (hS.toks k) .str h
theorem CallP.count {l c : List Nat} {i : Int} (e : Txt.count (S l) (S c) = i) (h : Q (.int i) ρ σ) : CallP G (.con (.builtin "str.count")) [.str l, .str c] [] ρ σ Q := .self fun A bs im s vs hA hS hv => by
  obtain ⟨v, w, rfl, hv1, hw1⟩ := two_v hv
  obtain ⟨t, rfl⟩ := hv1.str_i
  obtain ⟨u, rfl⟩ := hw1.str_i
  exact KXw.count e fun t' k => .now (hS.toks k) .int h
theorem VRs.strs {im : PM} : ∀ (l : List (Str × Tok)) (ls : List (List Nat)), l.map (·.1) = ls.map S → VRs im (ls.map PV.str) (strValues l)
  | [], [], _ => .nil
  | [], _ :: _, h => by simp at h
  | _ :: _, [], h => by simp at h
  | (x, t) :: r, m :: ms, h => by
    rw [List.map_cons, List.map_cons, List.cons.injEq] at h
    obtain ⟨h1, h2⟩ := h
    have h1' : x = S m := h1
    subst h1'
    exact .cons .str (VRs.strs r ms h2)
theorem split_run {prog : Program} {w : World} {A : Around} {E : Value → Shared → Prop} {s : Shared} {x y : Str} {t u : Tok} {Q : Value → Shared → Prop} (hy : (y.length == 0) = false) (hz : x.length + 2 ≤ sizeLine)
    (h : ∀ l k, l.map (·.1) = Txt.split x y → Q (.ref s.heap.objs.size) { s with heap := s.heap.push (lstO (strValues l) 0), toks := k }) :
    wpAny (model prog w) A (call (.builtin "str.split") [.str x t, .str y u]) Q E s := by
  have hn : (Builtin.Str.partsBetween x (Builtin.Str.occurrences x y 0 x.length (x.length + 1)) y.length).length ≤ sizeLine := by
    have e1 := StrLaws.occ_length_le x y 0 x.length (x.length + 1)
    rw [length_partsBetween]; omega
  cases h1 : (decide (x.length < y.length) || decide (Builtin.Str.strKind x < Builtin.Str.strKind y))
  · cases hf : (Builtin.Str.occurrences x y 0 x.length (x.length + 1)).isEmpty
    · refine call_meets F.slot_str_split (typeIs_str _ _ _) F.entry_str_split (F.args_str_split_2 _ _) (meets_str_split_sep x y t u h1 hy hf (by omega) hn) ?_
      show wants Q E _ { s with toks := _, heap := s.heap.push { cls := .type "list", data := .seq (strsFrom s.toks (Builtin.Str.partsBetween x (Builtin.Str.occurrences x y 0 x.length (x.length + 1)) y.length)).toArray } }
      rw [strsFrom_eq]
      exact h (numbered s.toks _) _ ((numbered_texts _ _).trans ((if_neg (ne_true_of_eq_false h1)).trans (if_neg (ne_true_of_eq_false hf))).symm)
    · exact call_meets F.slot_str_split (typeIs_str _ _ _) F.entry_str_split (F.args_str_split_2 _ _) (meets_str_split_not_found x y t u h1 hy hf)
        (h [(x, t)] s.toks ((if_neg (ne_true_of_eq_false h1)).trans (if_pos hf)).symm)
  · exact call_meets F.slot_str_split (typeIs_str _ _ _) F.entry_str_split (F.args_str_split_2 _ _) (meets_str_split_cannot_occur x y t u h1)
      (h [(x, t)] s.toks (if_pos h1).symm)
theorem CallP.split {l c : List Nat} {ls : List (List Nat)} (e : Txt.split (S l) (S c) = ls.map S) (hc : c ≠ []) (hz : l.length ≤ 16000000) (h : Q (.lst (ls.map .str)) ρ σ) : CallP G (.con (.builtin "str.split")) [.str l, .str c] [] ρ σ Q := .self fun A bs im s vs hA hS hv => by
  obtain ⟨v, w, rfl, hv1, hw1⟩ := two_v hv
  obtain ⟨t, rfl⟩ := hv1.str_i
  obtain ⟨u, rfl⟩ := hw1.str_i
  refine split_run (by rw [show (⟨c.toArray⟩ : Str).length = _ from S_len c]; cases c with | nil => exact absurd rfl hc | cons a r => rfl) (by rw [show (⟨l.toArray⟩ : Str).length = _ from S_len l, sizeLine_eq]; omega) fun q k hq => ?_
  obtain ⟨ee, hS'⟩ := hS.pushIm (lstO (strValues q) 0) rfl k
  exact ⟨_, _, ρ, σ, ee, .lst (PM.put_self ..) ((VRs.strs q ls (hq.trans e)).mono ee.1), hS', h⟩

/-- what join gives -/
noncomputable def pyJoin (sep : List Nat) : List (List Nat) → List Nat
  | [] => []
  | x :: r => r.foldl (fun acc p => acc ++ sep ++ p) x
theorem glue_eq (sep : List Nat) : ∀ (r : List (List Nat)) (x : List Nat), (r.map S).foldl (fun (acc : Array Nat) (p : Str) => acc ++ (S sep).cps ++ p.cps) x.toArray = (r.foldl (fun acc p => acc ++ sep ++ p) x).toArray
  | [], x => rfl
  | p :: r, x => by
    rw [List.map_cons, List.foldl_cons, List.foldl_cons, ← glue_eq sep r]
    congr 1
    show x.toArray ++ sep.toArray ++ p.toArray = _
    simp
theorem txt_join (sep : List Nat) (ls : List (List Nat)) : Txt.join (S sep) (ls.map S) = S (pyJoin sep ls) := by
  unfold Txt.join Builtin.Str.glued
  cases ls with
  | nil => rfl
  | cons x r =>
    show (⟨((x :: r).map S |>.drop 1).foldl _ _⟩ : Str) = _
    rw [List.map_cons]
    show (⟨(r.map S).foldl _ x.toArray⟩ : Str) = _
    rw [glue_eq]; rfl
theorem strsAre_of {im : PM} : ∀ (ls : List (List Nat)) (vs : List Value), VRs im (ls.map PV.str) vs → StrsAre vs (ls.map S)
  | [], vs, h => by rw [h.nil_inv]; exact .nil
  | m :: ms, vs, h => by
    obtain ⟨v, vs', rfl, h1, h2⟩ := VRs.cons_inv h
    obtain ⟨t, rfl⟩ := h1.str_i
    exact .cons _ _ (strsAre_of ms vs' h2)
theorem join_ok {sep : List Nat} {ls : List (List Nat)} (hz : (ls.map List.length).sum + ls.length * sep.length ≤ 16777216) : ((ls.map S).map (·.length)).sum + (ls.map S).length * (S sep).length ≤ 16777216 := by
  rw [List.map_map, List.length_map, S_len]
  have : (ls.map ((fun x : Str => x.length) ∘ S)) = ls.map List.length := List.map_congr_left fun x _ => S_len x
  rw [this]; exact hz
theorem CallP.joinL {sep : List Nat} {ls : List (List Nat)} {ps : List PV} (hp : ps = ls.map .str) (hz : (ls.map List.length).sum + ls.length * sep.length ≤ 16777216) (h : Q (.str (pyJoin sep ls)) ρ σ) : CallP G (.con (.builtin "str.join")) [.str sep, .lst ps] [] ρ σ Q := .self fun A bs im s vs hA hS hv => by
  subst hp
  obtain ⟨v, w, rfl, hv1, hw1⟩ := two_v hv
  obtain ⟨t, rfl⟩ := hv1.str_i
  obtain ⟨a, ws, n, rfl, ho, hws⟩ := hw1.lst_i
  refine join_list (isList_of (hS.l.him _ _ ho)) (strsAre_of ls _ hws) (join_ok hz) fun t' k => ?_
  rw [show (⟨sep.toArray⟩ : Str) = S sep from rfl, txt_join]
  exact .now (hS.toks k) .str h
theorem CallP.joinM {sep : List Nat} {ls : List (List Nat)} {ps : List PV} {a : Addr} (hm : (a, LO.list ps) ∈ σ) (hp : ps = ls.map .str) (hz : (ls.map List.length).sum + ls.length * sep.length ≤ 16777216) (h : Q (.str (pyJoin sep ls)) ρ σ) : CallP G (.con (.builtin "str.join")) [.str sep, .ref a] [] ρ σ Q := .self fun A bs im s vs hA hS hv => by
  subst hp
  obtain ⟨v, w, rfl, hv1, hw1⟩ := two_v hv
  obtain ⟨t, rfl⟩ := hv1.str_i
  rw [hw1.ref_i]
  obtain ⟨ws, n, ho, hws⟩ := hS.atList hm
  refine join_list (isList_of ho) (strsAre_of ls _ hws) (join_ok hz) fun t' k => ?_
  rw [show (⟨sep.toArray⟩ : Str) = S sep from rfl, txt_join]
  exact .now (hS.toks k) .str h
theorem CallP.addL {a b : List PV} (hz : a.length + b.length ≤ 16000000) (h : Q (.lst (a ++ b)) ρ σ) : Op2 G (binaryOp .Add) (.lst a) (.lst b) ρ σ Q := fun A bs im s v w hA hS hv hw => by
  obtain ⟨x, vs, n, rfl, ho, hvs⟩ := hv.lst_i
  obtain ⟨y, ws, m, rfl, hb, hws⟩ := hw.lst_i
  refine P.add_list (hS.l.him _ _ ho) (hS.l.him _ _ hb) ?_ (by rw [List.size_toArray, List.size_toArray, hvs.length, hws.length, sizeLine_eq]; omega)
  obtain ⟨e, hS'⟩ := hS.pushIm (lstO (vs ++ ws) 0) rfl s.toks
  rw [show vs.toArray ++ ws.toArray = (vs ++ ws).toArray by simp]
  exact ⟨_, _, ρ, σ, e, .lst (PM.put_self ..) ((hvs.append hws).mono e.1), hS', h⟩

/-! f-strings -/
noncomputable def JP (G : Gx) (out : List Nat) (es : List Expr) (ρ : Rho) (σ : Led) (Q : List Nat → Rho → Led → Prop) : Prop :=
  Tr G (fun _ (l : List Nat) (v : Value) => ∃ t, v = .str ⟨l.toArray⟩ t) (joinParts (S out) (evalEach es G.env)) ρ σ Q
theorem JP.nil {out : List Nat} {Q : List Nat → Rho → Led → Prop} (hz : out.length ≤ 16777216) (h : Q out ρ σ) : JP G out [] ρ σ Q := fun A bs im s hA hS =>
  joinParts_nil (.now (r := out) (hS.toks _) ⟨_, rfl⟩ h) (by rw [S_len, sizeLine_eq]; exact hz)
theorem JP.cons {out : List Nat} {e : Expr} {es : List Expr} {Q : List Nat → Rho → Led → Prop} (h : Ev G e ρ σ (fun p ρ₁ σ₁ => ∃ l, p = .str l ∧ out.length + l.length ≤ 16777216 ∧ JP G (out ++ l) es ρ₁ σ₁ Q)) : JP G out (e :: es) ρ σ Q := fun A bs im s hA hS => by
  refine joinParts_cons (wpAny_mono (h A bs im s hA hS) (fun v s₁ ⟨im₁, p, ρ₁, σ₁, e₁, hr, hS₁, l, hp, hz, hJ⟩ => ?_) fun _ _ x => x)
  subst hp
  obtain ⟨t, rfl⟩ := hr.str_i
  dsimp only
  rw [show (S out ++ (⟨l.toArray⟩ : Str)) = S (out ++ l) from S_app out l]
  exact ⟨by rw [S_len, List.length_append, sizeLine_eq]; exact hz, wpAny_mono (hJ A bs im₁ s₁ hA hS₁) (fun _ _ q => q.ext e₁) fun _ _ x => x⟩
theorem Ev.fstr {v₁ v₂ : Expr} {rest : List Expr} {pos : Pos} (h : JP G [] (v₁ :: v₂ :: rest) ρ σ (fun l ρ₁ σ₁ => Q (.str l) ρ₁ σ₁)) : Ev G (.JoinedStr (v₁ :: v₂ :: rest) pos) ρ σ Q := fun A bs im s hA hS => by
  refine JoinedStr_many (wpAny_mono (h A bs im s hA hS) (fun v s₁ ⟨im₁, l, ρ₁, σ₁, e₁, ⟨t, ht⟩, hS₁, hq⟩ => ?_) fun _ _ x => x)
  subst ht
  exact ⟨im₁, _, ρ₁, σ₁, e₁, .str, hS₁, hq⟩
theorem Ev.fval {value : Expr} {pos : Pos} (h : Ev G value ρ σ (fun p ρ₁ σ₁ => ∃ l, p = .str l ∧ l.length ≤ 16777216 ∧ Q (.str l) ρ₁ σ₁)) : Ev G (.FormattedValue value (-1) Option.none pos) ρ σ Q := fun A bs im s hA hS => by
  refine FormattedValue_plain (wpAny_mono (h A bs im s hA hS) (fun v s₁ ⟨im₁, p, ρ₁, σ₁, e₁, hr, hS₁, l, hp, hz, hq⟩ => ?_) fun _ _ x => x)
  subst hp
  obtain ⟨t, rfl⟩ := hr.str_i
  exact formatField_str (fun t' tk => ⟨im₁, _, ρ₁, σ₁, e₁, .str, hS₁.toks tk, hq⟩) (by rw [show (⟨l.toArray⟩ : Str).length = _ from S_len l, sizeLine_eq]; exact hz)
end
end Mine
end
section
open PySem PySem.W PyProof.Rows PySem.Calls
set_option Elab.async false
set_option maxRecDepth 100000
namespace Mine

/-! several targets -/
noncomputable def isStarE : Expr → Bool
  | .Starred .. => true
  | _ => false
noncomputable def swapOk2 (x y : Str) (px py : Pos) (vs : List Expr) : Bool :=
  py.line == px.line && [x, y].eraseDups.length == 2 && vs.length == 2 && !(vs.any isStarE) && !(vs.all (foldedForSure 8)) && !(vs.all (constantsAlone 8))
theorem swapped2 {env : Env} {x y : Str} {px py tpos p' : Pos} {k k' : Nat} {vs : List Expr} (hk : env.scope.kind = .function) (kx : env.kindOf x = some .local) (ky : env.kindOf y = some .local) (ok : swapOk2 x y px py vs = true) :
    swappedStores [.Tuple [.Name x px, .Name y py] k tpos] (.Tuple vs k' p') env = pure (some [x, y]) := by
  unfold swapOk2 at ok
  simp only [Bool.and_eq_true, beq_iff_eq, Bool.not_eq_true'] at ok
  obtain ⟨⟨⟨⟨⟨h1, h2⟩, h3⟩, h4⟩, h5⟩, h6⟩ := ok
  have hb : env.blockKind = .function := by unfold Env.blockKind; rw [hk]; rfl
  have hst : ∀ f : Expr → Bool, (∀ e, f e = isStarE e) → vs.any f = false := fun f hf => by rw [show f = isStarE from funext hf]; exact h4
  have hn : ∀ f : Expr → Option Str, f (.Name x px) = some x → f (.Name y py) = some y → [Expr.Name x px, Expr.Name y py].filterMap f = [x, y] := fun f h1 h2 => by
    rw [List.filterMap_cons, h1]; dsimp only; rw [List.filterMap_cons, h2]; rfl
  unfold swappedStores
  dsimp only
  rw [h3, hb]
  simp only [List.length_cons, List.length_nil]
  rw [if_neg (by decide)]
  rw [hst _ (fun e => by cases e <;> rfl), if_neg (by decide)]
  have e0 : ([Expr.Name x px, Expr.Name y py].head?.map (·.pos.line)).getD 0 = px.line := rfl
  rw [hn _ (by dsimp only; rw [e0, kx]; simp) (by dsimp only; rw [e0, ky, h1]; simp), h2, h5, h6]
  rfl
theorem swappedNone {env : Env} {x y : Str} {px py tpos p' : Pos} {k k' : Nat} {vs : List Expr} (hk : env.scope.kind = .function) (kx : env.kindOf x = some .cell) (hv : vs.length = 2) (hs : (vs.any isStarE) = false) :
    swappedStores [.Tuple [.Name x px, .Name y py] k tpos] (.Tuple vs k' p') env = pure none := by
  have hb : env.blockKind = .function := by unfold Env.blockKind; rw [hk]; rfl
  have hst : ∀ f : Expr → Bool, (∀ e, f e = isStarE e) → vs.any f = false := fun f hf => by rw [show f = isStarE from funext hf]; exact hs
  have hc : (some NameKind.cell == some NameKind.local) = false := rfl
  have hn : ∀ f : Expr → Option Str, f (.Name x px) = none → (([Expr.Name x px, Expr.Name y py].filterMap f).length != 2) = true := fun f h1 => by
    rw [List.filterMap_cons, h1]; dsimp only; rw [List.filterMap_cons]; split <;> rfl
  unfold swappedStores
  dsimp only
  rw [hv, hb]
  simp only [List.length_cons, List.length_nil]
  rw [if_neg (by decide)]
  rw [hst _ (fun e => by cases e <;> rfl), if_neg (by decide)]
  rw [if_pos]
  rw [Bool.or_eq_true]
  exact .inl (hn _ (by dsimp only; rw [kx, hc]; simp))

section
variable {G : Gx} {ρ : Rho} {σ : Led}
/-- targets, one by one -/
noncomputable def AsL (G : Gx) : List Expr → List PV → Rho → Led → (Rho → Led → Prop) → Prop
  | [], [], ρ, σ, Q => Q ρ σ
  | t :: ts, p :: ps, ρ, σ, Q => As G t p ρ σ fun ρ' σ' => AsL G ts ps ρ' σ' Q
  | _, _, _, _, _ => False
theorem asL_run {G : Gx} : ∀ (ts : List Expr) (ps : List PV) {ρ : Rho} {σ : Led} {Q : Rho → Led → Prop} {A : Around} {bs im : PM} {s : Shared} {vs : List Value}, AsL G ts ps ρ σ Q → AOk G.n A → St G bs im s ρ σ → VRs im ps vs → ts.all (fun t => !isStarE t) = true →
    wpAny G.C.M A (assignInOrder ((assignEach ts G.env).map (·.2)) vs) (Post G relU bs im (fun _ ρ' σ' => Q ρ' σ')) Bot s
  | [], [], ρ, σ, Q, A, bs, im, s, vs, h, hA, hS, hv, _ => by rw [hv.nil_inv]; exact assignInOrder_nil (.now (r := ()) hS trivial h)
  | [], _ :: _, _, _, _, _, _, _, _, _, h, _, _, _, _ => h.elim
  | _ :: _, [], _, _, _, _, _, _, _, _, h, _, _, _, _ => h.elim
  | t :: ts, p :: ps, ρ, σ, Q, A, bs, im, s, vs, h, hA, hS, hv, hst => by
    obtain ⟨v, vs', rfl, h1, h2⟩ := hv.cons_inv
    rw [List.all_cons, Bool.and_eq_true] at hst
    have e : (assignEach (t :: ts) G.env).map (·.2) = (fun v => assign t G.env v) :: (assignEach ts G.env).map (·.2) := by
      cases t <;> first | rfl | exact absurd hst.1 (by simp [isStarE])
    rw [e]
    refine assignInOrder_cons (wpAny_mono (h A bs im s v hA hS h1) (fun _ s₁ ⟨im₁, _, ρ₁, σ₁, e₁, _, hS₁, hq⟩ => ?_) fun _ _ x => x)
    exact wpAny_mono (asL_run ts ps hq hA hS₁ (h2.mono e₁.1) hst.2) (fun _ _ q => q.ext e₁) fun _ _ x => x
theorem assignEach_len : ∀ (ts : List Expr) (env : Env), (assignEach ts env).length = ts.length
  | [], _ => rfl
  | t :: ts, env => by
    have : (assignEach (t :: ts) env).length = (assignEach ts env).length + 1 := by cases t <;> rfl
    rw [this, assignEach_len ts env]; rfl
theorem assignEach_star : ∀ (ts : List Expr) (env : Env), ts.all (fun t => !isStarE t) = true → (assignEach ts env).findIdx? (·.1) = none
  | [], _, _ => rfl
  | t :: ts, env, h => by
    rw [List.all_cons, Bool.and_eq_true] at h
    have e : ∃ f, assignEach (t :: ts) env = (false, f) :: assignEach ts env := by
      cases t <;> first | exact ⟨_, rfl⟩ | exact absurd h.1 (by simp [isStarE])
    obtain ⟨f, e⟩ := e
    rw [e, List.findIdx?_cons]
    simp [assignEach_star ts env h.2]
theorem unpack_any {prog : Program} {w : World} {A : Around} {E : Value → Shared → Prop} {s : Shared} {a : Addr} {vs : List Value} {n : Nat} {ts : List Expr} {env : Env} {k : Nat} {pos : Pos} {Q : Unit → Shared → Prop} (hh : A.handled = none) (ho : s.heap.get? a = some (lstO vs n) ∨ s.heap.get? a = some (tupO vs n))
    (hl : ts.length = vs.length) (hst : ts.all (fun t => !isStarE t) = true)
    (h : ∀ h', (∀ b o, s.heap.get? b = some o → h'.get? b = some o) → wpAny (model prog w) A (assignInOrder ((assignEach ts env).map (·.2)) vs) Q E { s with heap := h' }) : wpAny (model prog w) A (assign (.Tuple ts k pos) env (.ref a)) Q E s := by
  have hlen : (assignEach ts env).length = vs.toArray.size := by rw [assignEach_len, hl]; simp
  have kk : ∀ h', Heap.ExtBut s.heap.objs.size s.heap h' → ∀ b o, s.heap.get? b = some o → h'.get? b = some o := fun h' he b o e => he b o (Nat.ne_of_lt (Heap.lt_size e)) e
  show wpAny _ _ (do standAt pos; unpack (.ref a) (assignEach ts env)) _ _ _
  refine wpAny_bind (wpAny_standAt ?_)
  unfold unpack
  rw [hlen, assignEach_star ts env hst]
  rcases ho with ho | ho
  · refine wpAny_bind (wpAny_holding (kun_itemsOf hh (isList_of ho) fun h' he => ?_))
    have := h h' (kk h' he); simpa using this
  · refine wpAny_bind (wpAny_holding (unpackItems_tuple hh ⟨_, ho, rfl, n, rfl⟩ fun h' he => ?_))
    have := h h' (kk h' he); simpa using this
theorem As.tup {ts : List Expr} {ps : List PV} {k : Nat} {pos : Pos} {Q : Rho → Led → Prop} (h : AsL G ts ps ρ σ Q) (hl : ts.length = ps.length) (hst : ts.all (fun t => !isStarE t) = true) : As G (.Tuple ts k pos) (.tup ps) ρ σ Q := fun A bs im s v hA hS hv => by
  obtain ⟨a, vs, n, rfl, ho, hvs⟩ := hv.tup_i
  refine unpack_any hA.1 (.inr (hS.l.him _ _ ho)) (by rw [hl, hvs.length]) hst fun h' hk => ?_
  exact asL_run ts ps h hA (hS.grow hk s.toks) hvs hst
theorem As.lst {ts : List Expr} {ps : List PV} {k : Nat} {pos : Pos} {Q : Rho → Led → Prop} (h : AsL G ts ps ρ σ Q) (hl : ts.length = ps.length) (hst : ts.all (fun t => !isStarE t) = true) : As G (.Tuple ts k pos) (.lst ps) ρ σ Q := fun A bs im s v hA hS hv => by
  obtain ⟨a, vs, n, rfl, ho, hvs⟩ := hv.lst_i
  refine unpack_any hA.1 (.inl (hS.l.him _ _ ho)) (by rw [hl, hvs.length]) hst fun h' hk => ?_
  exact asL_run ts ps h hA (hS.grow hk s.toks) hvs hst
/-- a, b = v -/
theorem Ex1.asgTup {ts : List Expr} {k : Nat} {tpos pos : Pos} {value : Expr} {Q : Fl → Rho → Led → Prop} (h : Ev G value ρ σ (fun p ρ₁ σ₁ => As G (.Tuple ts k tpos) p ρ₁ σ₁ (fun ρ' σ' => Q .next ρ' σ')))
    (hw : ∀ bs im s, St G bs im s ρ σ → swappedStores [.Tuple ts k tpos] value G.env = pure none) (hs : swapsWithSole [.Tuple ts k tpos] value pos.line G.env = pure false := by rfl) : Ex1 G (.Assign [.Tuple ts k tpos] value pos) ρ σ Q := fun A bs im s hA hS => by
  refine Assign_Tuple (wpAny_mono (Tr.then (f := fun v => assign (.Tuple ts k tpos) G.env v) (rel' := relU) (Q := fun _ ρ' σ' => Q .next ρ' σ') h hA hS) (fun v s₁ h₁ => wpAny_mono h₁ (fun _ s₂ ⟨im₂, _, ρ₂, σ₂, e₂, _, hS₂, hq⟩ => ⟨im₂, Fl.next, ρ₂, σ₂, e₂, rfl, hS₂, hq⟩) fun _ _ x => x) fun _ _ x => x) hs (hw _ _ _ hS)
/-- x, y = (p, q), told by two locals -/
theorem Ex1.asgSwap {x y : String} {px py tpos pos p' : Pos} {k k' : Nat} {vs : List Expr} {Q : Fl → Rho → Led → Prop} (hx : (x, NameKind.local) ∈ G.ns) (hy : (y, NameKind.local) ∈ G.ns)
    (h : Ev G (.Tuple vs k' p') ρ σ (fun r ρ₁ σ₁ => ∃ p q ρ₂ ρ₃, r = .tup [p, q] ∧ SetR y q ρ₁ ρ₂ ∧ SetR x p ρ₂ ρ₃ ∧ Q .next ρ₃ σ₁)) (ok : swapOk2 (Str.ofString x) (Str.ofString y) px py vs = true)
    (hs : swapsWithSole [.Tuple [.Name (Str.ofString x) px, .Name (Str.ofString y) py] k tpos] (.Tuple vs k' p') pos.line G.env = pure false := by rfl) :
    Ex1 G (.Assign [.Tuple [.Name (Str.ofString x) px, .Name (Str.ofString y) py] k tpos] (.Tuple vs k' p') pos) ρ σ Q := fun A bs im s hA hS => by
  refine Assign_Tuple_swapped (names := [Str.ofString x, Str.ofString y]) ?_ hs (swapped2 hS.f.kind (hS.f.kn _ hx).1 (hS.f.kn _ hy).1 ok)
  refine wpAny_mono (h A bs im s hA hS) (fun v s₁ ⟨im₁, r, ρ₁, σ₁, e₁, hr, hS₁, p, q, ρ₂, ρ₃, hpq, u2, u3, hQ⟩ => ?_) fun _ _ x => x
  subst hpq
  obtain ⟨a, ws, n, rfl, ho, hws⟩ := hr.tup_i
  obtain ⟨vp, vq, rfl, hp, hq⟩ := two_v hws
  have hlen : [Str.ofString x, Str.ofString y].length = ([vp, vq] : List Value).toArray.size := rfl
  rw [hlen]
  refine unpackItems_tuple hA.1 ⟨_, hS₁.l.him _ _ ho, rfl, n, rfl⟩ fun h' he => ?_
  have hS₂ : St G bs im₁ { s₁ with heap := h' } ρ₁ σ₁ := hS₁.grow (fun b o e => he b o (Nat.ne_of_lt (Heap.lt_size e)) e) s₁.toks
  show wpAny _ _ (assignInOrder [fun v => bindName G.env (Str.ofString y) v, fun v => bindName G.env (Str.ofString x) v] [vq, vp]) _ _ _
  refine assignInOrder_cons (wpAny_bindName (wpAny_mono (store_con (Q := fun ρ' σ' => ρ' = ρ₂ ∧ σ' = σ₁) hy u2 ⟨rfl, rfl⟩ A bs im₁ _ vq hA hS₂ hq) (fun _ s₃ ⟨im₃, _, ρ', σ', e₃, _, hS₃, hρ, hσ⟩ => ?_) fun _ _ x => x))
  subst hρ; subst hσ
  refine assignInOrder_cons (wpAny_bindName (wpAny_mono (store_con (Q := fun ρ' σ'' => ρ' = ρ₃ ∧ σ'' = σ') hx u3 ⟨rfl, rfl⟩ A bs im₃ _ vp hA hS₃ (hp.mono e₃.1)) (fun _ s₄ ⟨im₄, _, ρ'', σ'', e₄, _, hS₄, hρ, hσ⟩ => ?_) fun _ _ x => x))
  subst hρ; subst hσ
  exact assignInOrder_nil ⟨im₄, Fl.next, _, _, e₁.trans (e₃.trans e₄), rfl, hS₄, hQ⟩
end
end Mine
end
section
open PySem PySem.W PyProof.Rows PySem.Calls
set_option Elab.async false
set_option maxRecDepth 100000
namespace Mine

/-! objects of the program's classes -/
noncomputable def clsOkB (K : Frag) (C : Addr) : Bool :=
  makesIn K C && (findIn K (.ref C) "__getattribute__" == some (some (.builtin "object.__getattribute__"))) && (findIn K (.ref C) "__getattr__" == some none) && (findIn K (.ref C) "__setattr__" == some (some (.builtin "object.__setattr__"))) && plainOver K C && hasDictIn K C
structure ClsOk (K : Frag) (C : Addr) : Prop where
  makes : makesIn K C = true
  ga : findIn K (.ref C) "__getattribute__" = some (some (.builtin "object.__getattribute__"))
  gt : findIn K (.ref C) "__getattr__" = some none
  sa : findIn K (.ref C) "__setattr__" = some (some (.builtin "object.__setattr__"))
  over : plainOver K C = true
  hd : hasDictIn K C = true
theorem clsOk_iff {K : Frag} {C : Addr} (h : clsOkB K C = true) : ClsOk K C := by
  unfold clsOkB at h
  simp only [Bool.and_eq_true, beq_iff_eq] at h
  obtain ⟨⟨⟨⟨⟨a, b⟩, c⟩, d⟩, e⟩, f⟩ := h
  exact ⟨a, b, c, d, e, f⟩
theorem StL.K {C : Cx} {bs im : PM} {s : Shared} {σ : Led} (x : StL C bs im s σ) : C.K.In s.heap := fun a o e => x.hbs a o (x.cb a o e)
theorem ins_at {h : Heap} {x d C : Addr} {es : List DictEntry} {n : Nat} (h1 : h.get? x = some (insO C d)) (h2 : h.get? d = some (dicO es n)) : InstAt h x (insO C d) C (some (dicO es n)) := ⟨h1, rfl, rfl, h2⟩
theorem lookIn_head (x : String) (hh : Int) (t : Tok) (v : Value) (es : List DictEntry) (n : Nat) : lookIn (Str.ofString x) (dicO (⟨hh, .str (Str.ofString x) t, v⟩ :: es) n) = some (some v) := by
  have : (Value.str (Str.ofString x) t).isStr (Str.ofString x) = true := by show (Str.ofString x == Str.ofString x) = true; simp
  unfold lookIn
  simp only [dicO, List.find?_cons, this]
noncomputable def handsOk : PV → Bool
  | .ref _ | .none | .bool _ | .int _ | .str _ | .tup _ | .lst _ => true
  | _ => false
theorem hands_ok {im : PM} {p : PV} {v : Value} (h : handsOk p = true) (hv : VR im p v) : handedIn v = true := by
  cases p with
  | ref a => rw [hv.ref_i]; rfl
  | none => rw [hv.none_i]; rfl
  | bool b => rw [hv.bool_i]; rfl
  | int i => obtain ⟨t, rfl⟩ := hv.int_i; rfl
  | str l => obtain ⟨t, rfl⟩ := hv.str_i; rfl
  | tup l => obtain ⟨_, _, _, rfl, _⟩ := hv.tup_i; rfl
  | lst l => obtain ⟨_, _, _, rfl, _⟩ := hv.lst_i; rfl
  | _ => cases h

section
variable {G : Gx} {ρ : Rho} {σ : Led} {Q : PV → Rho → Led → Prop}
/-- x.name, the object's first field -/
theorem Op1.field {C : Addr} {x : String} {p : PV} {l : List (String × PV)} (hc : ClsOk G.C.K C) (hn : findIn G.C.K (.ref C) (Str.ofString x) = some none) (hp : handsOk p = true) (h : Q p ρ σ) : Op1 G (fun v => getAttr v (Str.ofString x) true) (.obj C ((x, p) :: l)) ρ σ Q := fun A bs im s v hA hS hv => by
  obtain ⟨a, d, es, n, rfl, h1, h2, h3⟩ := hv.obj_i
  obtain ⟨hh, t, w, es', rfl, hw, _⟩ := h3.cons_inv
  have I := ins_at (hS.l.him _ _ h1) (hS.l.him _ _ h2)
  exact get_value hS.l.K I hc.ga (findObj_own hc.hd hn rfl (lookIn_head ..)) (hands_ok hp hw) (.now (hS.toks _) hw h)
/-- x.name(..), a method -/
theorem MethP.obj {C f : Addr} {x : String} {p : PV} {name : Str} (hc : ClsOk G.C.K C) (hf : findIn G.C.K (.ref C) name = some (some (.ref f))) (ht : typeIn G.C.K (.ref f) = some (.type "function")) (hx : (Str.ofString x == name) = false) : MethP G (.obj C [(x, p)]) name (.ref f) [.obj C [(x, p)]] ρ σ := fun A bs im s v pl Qv hA hS hv k => by
  obtain ⟨a, d, es, n, rfl, h1, h2, h3⟩ := id hv.obj_i
  obtain ⟨hh, t, w, es', rfl, hw, h4⟩ := h3.cons_inv
  have e := h4.nil_inv
  subst e
  have I := ins_at (hS.l.him _ _ h1) (hS.l.him _ _ h2)
  refine method_fn hS.l.K I hc.ga hc.gt hf ht ?_ (k _ _ s.toks .ref (.cons hv .nil))
  have e : (Value.str (Str.ofString x) t).isStr name = false := hx
  unfold shadowIn lookIn
  simp only [dicO, List.find?_cons, e, List.find?_nil]
  rfl
end

/-- a field is stored in a new object -/
theorem setattr_new {prog : Program} {w : World} {A : Around} {E : Value → Shared → Prop} {s : Shared} {K : Frag} {C x d : Addr} {n : Nat} {name : Str} {v : Value} {Q : Unit → Shared → Prop} (X : K.In s.heap) (hc : ClsOk K C) (ht : takerIn K C name = some none)
    (hx : s.heap.get? x = some (insO C d)) (hd : s.heap.get? d = some (dicO [] n))
    (h : ∀ h' tk hh t m, Heap.SameBut d s.heap h' → h'.get? d = some (dicO [⟨hh, .str name t, v⟩] m) → Q () { s with heap := h', toks := tk }) : wpAny (model prog w) A (setAttr (.ref x) name v) Q E s := by
  have I := ins_at hx hd
  refine set_plain X I hc.sa (osa_open (s := { s with toks := s.toks + 1 }) X I hc.over ht fun b => ?_)
  obtain ⟨cd, hc1, hd'⟩ := any_some hc.hd
  refine wpAny_bind (wpAny_pure (wpAny_bind (wpAny_bind (wpAny_loadPart hx (wpAny_bind (looks_clsIn X hc1 _ _ _ _ (fun _ _ e => e) ?_))))))
  rw [hd']
  refine wpAny_pure (a := some d) (wpAny_bind (wpAny_pure (wpAny_bind ?_)))
  unfold nsSet
  refine wpAny_bind (wpAny_bind (wpAny_askSetting (wpAny_pure (wpAny_bind (wpAny_mkText (wpAny_bind (wpAny_loadPart hd ?_)))))))
  have hput : ∀ k key, Obj.putName name k key v (dicO [] n) = dicO [⟨k, key, v⟩] (n + 1) := fun k key => by simp [Obj.putName_eq, Obj.putNameByArray]
  dsimp only
  rw [show aRefKeyMayBeTheName name [].toArray = false by rw [aRefKeyMayBeTheName_at]; simp]
  rw [if_neg (by decide)]
  refine wpAny_updatePart hd ?_
  have D' := Heap.get?_update_self (Obj.putName name (PyData.keyHash w.params name) (.str name (s.toks + 1)) v) hd (by rw [hput]; rfl)
  rw [hput] at D'
  refine wpAny_bind (wpAny_lookBehind D' (pastItsLine_dict (by rw [List.size_toArray, sizeLine_eq]; simp)) ?_)
  exact wpAny_pure (h _ _ _ _ _ (Heap.SameBut.update ..) D')

section
variable {G : Gx} {ρ : Rho} {σ : Led}
/-- o.name = v, o a new object -/
theorem Ex1.setField {o value : Expr} {y : String} {p' pos : Pos} {Q : Fl → Rho → Led → Prop} (h : Ev G value ρ σ (fun p ρ₁ σ₁ => Ev G o ρ₁ σ₁ (fun a ρ₂ σ₂ => ∃ C x d σ₃, a = .ref x ∧ ClsOk G.C.K C ∧ takerIn G.C.K C (Str.ofString y) = some none ∧ (x, LO.ins C d) ∈ σ₂ ∧ Upd d (.att []) (.att [(y, p)]) σ₂ σ₃ ∧ Q .next ρ₂ σ₃)))
    (hs : swapsWith value (some (.Attribute o (Str.ofString y) p')) pos.line G.env = pure false := by rfl) : Ex1 G (.Assign [.Attribute o (Str.ofString y) p'] value pos) ρ σ Q := fun A bs im s hA hS => by
  refine plainObj_wpAny_Assign_Attribute (wpAny_mono (h A bs im s hA hS) (fun v s₁ ⟨im₁, p, ρ₁, σ₁, e₁, hr, hS₁, h1⟩ => ?_) fun _ _ x => x) hs
  refine wpAny_mono (h1 A bs im₁ s₁ hA hS₁) (fun w s₂ ⟨im₂, a, ρ₂, σ₂, e₂, ha, hS₂, C, x, d, σ₃, hax, hc, ht, hx, u, hq⟩ => ?_) fun _ _ x => x
  subst hax
  rw [ha.ref_i]
  obtain ⟨hx', _⟩ := hS₂.l.led _ hx
  obtain ⟨⟨es, n, hd, hes⟩, _⟩ := hS₂.l.led _ u.mem
  have e := hes.nil_inv
  subst e
  refine setattr_new hS₂.l.K hc ht hx' hd fun h' tk hh t m hsb hd' => ?_
  have hS₃ := hS₂.upd u tk hsb ⟨_, _, hd', .cons (hr.mono e₂.1) .nil⟩
  exact ⟨im₂, Fl.next, ρ₂, σ₃, e₁.trans e₂, rfl, hS₃, hq⟩

theorem units_make (C : Addr) (vals : List Value) (kw : List (Str × Value)) : (Code.builtin "type.__call__" ⟨.ref C :: vals, kw⟩).cUnits = 1 := rfl
theorem AOk.make {n : Nat} {A : Around} (h : AOk (n + 1) A) (C : Addr) (vals : List Value) : AOk n (A.under (.builtin "type.__call__" ⟨.ref C :: vals, []⟩)) := ⟨h.1, by have := h.2.1; rw [depth_under_make]; omega, by
  have := h.2.2
  have e : (A.under (.builtin "type.__call__" ⟨.ref C :: vals, []⟩)).units ≤ A.units + 8 := by
    show A.units + (Code.builtin "type.__call__" ⟨.ref C :: vals, []⟩).cUnits ≤ _
    have := units_make C vals []
    omega
  omega⟩
theorem StL.pushLed {C : Cx} {bs im : PM} {s : Shared} {σ : Led} (x : StL C bs im s σ) (o : Obj) (lo : LO) (t : Nat) (hr : LR im (s.heap.push o) s.heap.objs.size lo) :
    StL C bs im { s with heap := s.heap.push o, toks := t } ((s.heap.objs.size, lo) :: σ) := by
  have hn := get?_size_none s.heap
  have y := x.grow (fun b p e => Heap.get?_push_of_some o e) t
  refine ⟨y.os, y.gens, y.cb, y.hbs, y.him, fun p hp => ?_, ?_, y.gok⟩
  · rcases List.mem_cons.mp hp with rfl | hp
    · exact ⟨hr, x.bs_none hn, x.im_none hn⟩
    · exact y.led p hp
  · rw [List.map_cons]; exact List.nodup_cons.mpr ⟨x.led_some hn, x.nd⟩
theorem StL.freezeObj {C : Cx} {bs im : PM} {s : Shared} {σ : Led} {D : Addr} {lo : LO} {o : Obj} (hS : StL C bs im s ((D, lo) :: σ)) (ho : s.heap.get? D = some o) : Ext bs im (im.put D o) ∧ StL C bs (im.put D o) s σ := by
  obtain ⟨_, hb, hi⟩ := hS.led (D, lo) (.head _)
  have hput := PM.put_keep hi o
  have hnd := hS.nd
  rw [List.map_cons, List.nodup_cons] at hnd
  refine ⟨⟨hput, fun a e => ?_⟩, ⟨hS.os, hS.gens, hS.cb, hS.hbs, fun a p e => ?_, fun p hp => ?_, hnd.2, hS.gok⟩⟩
  · by_cases q : a = D
    · subst q; exact .inr hb
    · rw [PM.put_ne q] at e; exact .inl e
  · unfold PM.put at e; split at e
    · rename_i q; cases e; rw [q]; exact ho
    · exact hS.him a p e
  · obtain ⟨a, b, c⟩ := hS.led p (.tail _ hp)
    exact ⟨a.mono hput, b, by rw [PM.put_ne (fun q => hnd.1 (List.mem_map.mpr ⟨p, hp, q⟩))]; exact c⟩
/-- C(): a new object; what __init__ makes of it is kept for good -/
theorem FnSpec.make {C : Cx} {n : Nat} {cl fI : Addr} {ps : List PV} {σ : Led} {Q : PV → Led → Prop} (hc : ClsOk C.K cl) (hi : findIn C.K (.ref cl) "__init__" = some (some (.ref fI))) (hf : typeIn C.K (.ref fI) = some (.type "function")) (hkeep : keepIn C.K (.ref cl) = true)
    (h : ∀ x d, FnSpec C n (.ref fI) (.ref x :: ps) [] ((x, .ins cl d) :: (d, .att []) :: σ) (fun r σ' => r = .none ∧ ∃ l σ'', σ' = (x, .ins cl d) :: (d, .att l) :: σ'' ∧ Q (.obj cl l) σ'')) :
    FnSpec C (n + 1) (.ref cl) ps [] σ Q := fun A bs im s fv vs kvs hA hS hfv hv hk => by
  rw [hfv.ref_i]
  have : kvs = [] := by have := hk.1; simpa using this
  subst this
  have hM := makes_of (M := C.M) hS.K hc.makes
  refine ⟨keeps_K hkeep _ hS.K, ?_⟩
  have S1 := hS.pushLed emptyDict (.att []) s.toks ⟨[], 0, Heap.get?_push_size _ rfl, .nil⟩
  have S2 := S1.pushLed (instObj cl s.heap.objs.size) (.ins cl s.heap.objs.size) s.toks (Heap.get?_push_size _ rfl)
  dsimp only at S2
  rw [Heap.size_push] at S2
  obtain ⟨hh, g, dr, t, os⟩ := s
  refine make_core hM (looks_findIn hS.K hi) (fun self => bind_fn hS.K self hf) (.inl rfl) ?_
  obtain ⟨_, H⟩ := h (hh.objs.size + 1) hh.objs.size _ bs im _ (.ref fI) (.ref (hh.objs.size + 1) :: vs) [] (hA.make cl vs) S2 .ref (.cons .ref hv) .nil
  refine codeAny_mono H fun r s' ⟨v, hr, im', p, σ', e, hp, hL, hpn, l, σ'', hσ, hq⟩ => ?_
  subst hr; subst hσ; subst hpn
  have hx := (hL.led _ (.head _)).1
  obtain ⟨es, m, hd, hes⟩ := (hL.led _ (.tail _ (.head _))).1
  obtain ⟨e1, L1⟩ := hL.freezeObj (o := insO cl hh.objs.size) hx
  obtain ⟨e2, L2⟩ := L1.freezeObj hd
  refine ⟨hp.none_i, _, rfl, _, _, _, e.trans (e1.trans e2), .obj (e2.1 _ _ (PM.put_self ..)) (PM.put_self ..) ((hes.mono e1.1).mono e2.1), L2, hq⟩
end
end Mine
end
section
open PySem PySem.W PyProof.Rows PySem.Calls
set_option Elab.async false
set_option maxRecDepth 100000
namespace Mine
theorem mro_object : mroOf (.type "object") = pure [.type "object"] := by kernel_rfl
theorem lookup_object_new : typeLookup (.type "object") "__new__" = pure (some (.builtin "object.__new__")) := by rw [typeLookup_type, builtinLookup_eq_fast]; kernel_rfl
theorem lookup_object_init : typeLookup (.type "object") "__init__" = pure (some (.builtin "object.__init__")) := by rw [typeLookup_type, builtinLookup_eq_fast]; kernel_rfl
theorem made_object : Bind.madeBy (.type "object") = pure (some "object.__new__") := madeBy_type mro_object lookup_object_new (by decide +kernel)
theorem typeCall_object : checkTypeCall "object" ⟨[], []⟩ = pure () := by kernel_rfl
theorem newCall_object : checkBuiltinCall "object.__new__" ⟨[.type "object"], []⟩ = pure () := by kernel_rfl
theorem create_object : ((Manifest.find? "object").bind (·.mro.findSome? fun t => (Manifest.find? t).bind fun b => if b.noNew then some true else if b.attrs.any (·.1 == "__new__") then some false else none)).getD false = false := by decide +kernel
theorem sub_object : isSubtype (.type "object") (.type "object") = pure true := by rw [isSubtype_type]; kernel_rfl
theorem on_eq : Builtin.«object.__new__» ⟨[.type "object"], []⟩ = (newObj (.type "object") .plain none >>= ret) := by kernel_rfl
set_option maxHeartbeats 1000000 in
theorem call_object {prog : Program} {w : World} {A : Around} {E : Value → Shared → Prop} {s : Shared} {Q : Value → Shared → Prop}
   (h : ∀ tk, Q (.ref s.heap.objs.size) { s with heap := s.heap.push { cls := .type "object", data := .plain }, toks := tk }) : wpAny (model prog w) A (call (.type "object") []) Q E s := by
  obtain ⟨hp, g, d, tk, os⟩ := s
  have f1 := mro_object
  have f2 := lookup_object_new
  have f3 := lookup_object_init
  have f4 := made_object
  have f5 := typeCall_object
  have f6 := newCall_object
  have f7 := create_object
  have f8 := sub_object
  refine wpAny_call (codeAny_of_tree ?_)
  show wpAny _ _ (callAny (.type "object") _) _ _ _
  refine wpAny_pure ⟨Code.quiet_builtin _ (by decide +kernel), codeAny_builtin F.entry_type_call ?_⟩
  rw [Around.under_plain (weight_type_call_type "object" [] []) rfl]
  repeat (any_goals (first | assumption | wp_step))
  refine codeAny_of_tree ?_
  show wpAny _ A.in1.in1 (do checkBuiltinCall "object.__new__" ⟨[.type "object"], []⟩; again (.builtin "object.__new__" ⟨[.type "object"], []⟩)) _ _ _
  refine wpAny_bind (wpAny_of_eq newCall_object (wpAny_pure ⟨Code.quiet_builtin _ F.objNew.quiet, codeAny_builtin F.objNew.entry ?_⟩))
  rw [on_eq]
  refine wpAny_bind (wpAny_newObj_type ?_)
  refine wpAny_pure ?_
  have hT : ∀ tk', (⟨hp.push { cls := .type "object", data := .plain }, g, d, tk', os⟩ : Shared).TypeIs (.ref hp.objs.size) "object" := fun _ => ⟨_, Heap.get?_push_size _ rfl, rfl⟩
  have hx : (hp.push { cls := .type "object", data := .plain }).get? hp.objs.size = some { cls := .type "object", data := .plain } := Heap.get?_push_size _ rfl
  have f9 : bindSpecial (.builtin "object.__init__") (.ref hp.objs.size) = pure (.builtin "object.__init__", [.ref hp.objs.size]) := oi_bind _
  dsimp only
  clear f4 f5 f6 f7
  repeat (any_goals (first | assumption | exact hT _ | with_reducible refine wpAny_loadPart' hx ?_ | wp_step))
  refine codeAny_call_builtin oi_plain entry_oi (F.slot_object_init.check _ _ _ _ _ _ _ _ (hT _) (oi_args _) ?_)
  show wpAny _ _ (Builtin.«object.__init__» ⟨[.ref hp.objs.size], []⟩) _ _ _
  rw [oi_run]
  refine wpAny_pure ?_
  refine wpAny_pure ?_
  exact wpAny_pure (h _)
open Builtin.Re
theorem slot_search : Slot "re.Pattern" "search" "re.Pattern.search" :=
  .of (owner := "re.Pattern") (n := "search") (by rw [typeLookup_type, builtinLookup_eq_fast]; kernel_rfl) (by decide +kernel) (by decide +kernel) (by decide +kernel)
    (by first | exact .inl (by decide +kernel) | exact .inr (by decide +kernel)) (by rw [isSubtype_type]; kernel_rfl)
theorem entry_search : entryFor table "re.Pattern.search" = some Builtin.«re.Pattern.search» := entryFor_of_tree (by kernel_rfl)
theorem args_search (a b : Value) : argsOk "re.Pattern.search" ⟨[a, b], []⟩ := by unfold argsOk; kernel_rfl
theorem type_search : typeOf (.builtin "re.Pattern.search") = pure (.type "method_descriptor") := by show builtinType _ = _; rw [builtinType_eq_fast]; kernel_rfl
noncomputable def reFin : Nat → Sre.M → Option Sre.M
  | 0, _ => none
  | k + 1, m => if (m.runFor reTurnSteps).outcome.isSome then some (m.runFor reTurnSteps) else reFin k (m.runFor reTurnSteps)
section
variable {M : Model} {A : Around} {E : Value → Shared → Prop} {s : Shared}
theorem drive_run {Q : Sre.M → Shared → Prop} {m' : Sre.M} (h : Q m' s) : ∀ (k turns : Nat) (m : Sre.M), reFin k m = some m' → k ≤ turns → wpAny M A (reDrive turns m) Q E s
  | 0, _, _, e, _ => by cases e
  | k + 1, 0, _, _, hk => absurd hk (by omega)
  | k + 1, turns + 1, m, e, hk => by
    unfold reFin at e
    unfold reDrive
    dsimp only
    split at e
    · rename_i hs
      cases e
      rw [if_pos hs]; exact wpAny_pure h
    · rename_i hs
      rw [if_neg hs]
      exact wpAny_bind (wpAny_rule (drive_run h k turns _ e (by omega)))
theorem rules_run {m : Sre.M} {Q : PUnit → Shared → Prop} (h : Q PUnit.unit s) : ∀ (l : List Nat), wpAny M A (forIn l PUnit.unit fun i _ => if m.seen.has i = true then (rule (Sre.names.getD i "") >>= fun _ => pure (ForInStep.yield PUnit.unit)) else pure (ForInStep.yield PUnit.unit)) Q E s
  | [] => wpAny_pure h
  | i :: r => by
    rw [List.forIn_cons]
    refine wpAny_bind ?_
    have k := rules_run (m := m) h r
    split
    · exact wpAny_bind (wpAny_rule (wpAny_pure k))
    · exact wpAny_pure k
theorem toEnd_failed {m m' : Sre.M} {Q : Option Sre.M → Shared → Prop} (k : Nat) (hk : k ≤ 2 ^ 64) (e : reFin k m = some m') (ho : m'.outcome = some .failed) (h : Q none s) : wpAny M A (reRunToEnd m) Q E s := by
  unfold reRunToEnd
  refine wpAny_bind (drive_run ?_ k _ m e hk)
  refine wpAny_bind ?_
  refine wpAny_mono (rules_run (m := m') (Q := fun _ s' => s' = s) rfl (List.range Sre.names.size)) (fun _ s' e => ?_) fun _ _ x => x
  subst e
  rw [ho]
  exact wpAny_pure h
end
set_option maxHeartbeats 1000000 in
theorem search_run {prog : Program} {w : World} {A : Around} {E : Value → Shared → Prop} {s : Shared} {a ca : Addr} {o oc : Obj} {fs items : Array Value} {n : Nat} {x : Str} {t : Tok} {Q : Value → Shared → Prop} {m' : Sre.M} (k : Nat) (ho : s.heap.get? a = some o) (hcl : o.cls = .type "re.Pattern") (hd : o.data = .fields fs)
    (h6 : reRawNat (fs.getD 6 .none) = 0) (h5 : fs.getD 5 .none = .ref ca) (hca : s.heap.get? ca = some oc) (hcd : oc.data = .seq items n) (hx : x.cps.size < 2 ^ 60) (hk : k ≤ 2 ^ 64)
    (e : reFin k (Sre.forSearch ((items.map reRawOf).map (·.toNat)) x.cps (reRawNat (fs.getD 2 .none)) 0 x.cps.size false) = some m') (hf : m'.outcome = some .failed) (h : Q .none s) :
    wpAny (model prog w) A (call (.builtin "re.Pattern.search") [.ref a, .str x t]) Q E s := by
  refine wpAny_call_entry slot_search ⟨_, ho, hcl⟩ entry_search ?_ (args_search _ _)
  obtain ⟨hp, g, d, tk, os⟩ := s
  unfold Builtin.«re.Pattern.search» reTarget
  have hcl' : ∀ i : Nat, min (2 ^ 63 - 1 : Int).toNat i = min 9223372036854775807 i := fun i => rfl
  refine wpAny_bind ?_
  have named : reNamed "re.Pattern.search" "search" ["string", "pos", "endpos"] 1 [.str x t] [] = pure [some (.str x t), none, none] := by kernel_rfl
  dsimp only
  rw [named]
  refine wpAny_bind (wpAny_pure ?_)
  dsimp only
  refine wpAny_bind (wpAny_pure ?_)
  refine wpAny_bind (wpAny_pure ?_)
  have text : reTextOf (.str x t) = pure (x.cps, 0) := by unfold reTextOf; rfl
  refine wpAny_bind ?_
  unfold fieldsOf
  refine wpAny_bind (wpAny_loadPart ho ?_)
  rw [hd]
  refine wpAny_pure ?_
  rw [text]
  refine wpAny_bind (wpAny_pure ?_)
  dsimp only
  rw [h6, if_neg (by decide), if_neg (by decide)]
  have hno : reNoCollectionInside (.str x t) 0 = pure () := rfl
  rw [hno]
  refine wpAny_bind (wpAny_pure (wpAny_bind ?_))
  unfold reRawItems
  rw [h5]
  refine wpAny_bind (wpAny_seqItems hca hcd (wpAny_pure ?_))
  refine wpAny_pure ?_
  unfold reAnswer
  dsimp only
  have e1 : min (Int.toNat 0) x.cps.size = 0 := by simp
  have e2 : min (2 ^ 63 - 1 : Int).toNat x.cps.size = x.cps.size := by
    rw [show (2 ^ 63 - 1 : Int).toNat = 9223372036854775807 from rfl]; omega
  rw [e1, e2]
  refine wpAny_bind (toEnd_failed k hk ?_ hf ?_)
  · exact e
  · exact wpAny_pure ⟨_, rfl, h⟩

theorem plainAttrs_re : PlainAttrs "re.Pattern" :=
  ⟨⟨"object.__getattribute__", by rw [typeLookup_type, builtinLookup_eq_fast]; kernel_rfl, by decide +kernel⟩, by rw [typeLookup_type, builtinLookup_eq_fast]; kernel_rfl⟩

section
variable {G : Gx} {ρ : Rho} {σ : Led} {Q : PV → Rho → Led → Prop}
theorem CallP.object (h : ∀ a, Q (.ref a) ρ σ) : CallP G (.con (.type "object")) [] [] ρ σ Q := fun A bs im s fv vs kvs hA hS hf hv hk => by
  rw [hf.con_i, hv.nil_inv]
  have : kvs = [] := by have := hk.1; simpa using this
  subst this
  exact ⟨keeps_type, call_object fun tk => .now (hS.grow (fun b o e => Heap.get?_push_of_some _ e) tk) .ref (h _)⟩
/-- a pattern of the program's: its code -/
structure ReAt (K : Frag) (a : Addr) (code : Array Nat) : Prop where
  it : ∃ o fs ca oc items n, K.lookup a = some o ∧ o.cls = .type "re.Pattern" ∧ o.dict = none ∧ o.data = .fields fs ∧ reRawNat (fs.getD 6 .none) = 0 ∧ fs.getD 5 .none = .ref ca ∧ reRawNat (fs.getD 2 .none) = 0 ∧ K.lookup ca = some oc ∧ oc.data = .seq items n ∧ (items.map reRawOf).map (·.toNat) = code
noncomputable def missB (code : Array Nat) (l : List Nat) : Bool := match reFin 100 (Sre.forSearch code l.toArray 0 0 l.toArray.size false) with
  | some m => (match m.outcome with | some .failed => true | _ => false)
  | none => false
theorem MethP.search {a : Addr} {code : Array Nat} (hr : ReAt G.C.K a code) : MethP G (.con (.ref a)) (Str.ofString "search") (.con (.builtin "re.Pattern.search")) [.con (.ref a)] ρ σ := fun A bs im s v pl Qv hA hS hv k => by
  rw [hv.con_i]
  obtain ⟨o, fs, ca, oc, items, n, h1, h2, h3, _⟩ := hr.it
  have ho := hS.l.K _ _ h1
  exact getMethod_builtin ⟨_, ho, h2⟩ plainAttrs_re slot_search type_search (fun b e => by cases e; exact ⟨_, ho, h3⟩) (k _ _ s.toks .con (.cons .con .nil))
theorem CallP.search {a : Addr} {code : Array Nat} {l : List Nat} (hr : ReAt G.C.K a code) (hm : missB code l = true) (hz : l.length ≤ 16777216) (h : Q .none ρ σ) : CallP G (.con (.builtin "re.Pattern.search")) [.con (.ref a), .str l] [] ρ σ Q := .self fun A bs im s vs hA hS hv => by
  obtain ⟨v, w, rfl, hv1, hw1⟩ := two_v hv
  rw [hv1.con_i]
  obtain ⟨t, rfl⟩ := hw1.str_i
  obtain ⟨o, fs, ca, oc, items, n, h1, h2, h3, h4, h5, h6, h7, h8, h9, h10⟩ := hr.it
  unfold missB at hm
  cases e : reFin 100 (Sre.forSearch code l.toArray 0 0 l.toArray.size false) with
  | none => rw [e] at hm; cases hm
  | some m =>
    rw [e] at hm
    have ho : m.outcome = some .failed := by
      dsimp only at hm
      revert hm
      generalize m.outcome = z
      intro q
      rcases z with _ | (_ | _ | _) <;> first | rfl | cases q
    refine search_run 100 (hS.l.K _ _ h1) h2 h4 h5 h6 (hS.l.K _ _ h8) h9 (by show l.toArray.size < _; rw [List.size_toArray]; omega) (by omega) ?_ ho (.now hS .none h)
    rw [h10, h7]; exact e
end
end Mine
end
section
open PySem PySem.W PyProof.Rows PySem.Calls
set_option Elab.async false
set_option maxRecDepth 100000
namespace Mine
open Builtin Builtin.Str
/-- a table of the program's, by numbers -/
structure TabK (K : Frag) (d : Addr) (es : List DictEntry) (n : Nat) : Prop where
  it : K.lookup d = some (dicO es n)
  ne : (d == sysModules) = false
noncomputable def intEntry (e : DictEntry) : Bool := match e.key with | .int i _ => e.hash == hashInt i | _ => false
noncomputable def tabFind (es : List DictEntry) (c : Int) : Option Value := (es.find? fun e => e.key.isInt c).map (·.val)
theorem mapOf_tab {prog : Program} {w : World} {h : Heap} {d : Addr} {es : List DictEntry} {n : Nat} (ho : h.get? d = some (dicO es n)) (he : es.all intEntry = true) : h.MapOf (intKind prog w) d (tabFind es) := by
  refine ⟨_, _, _, ho, ⟨rfl, rfl, rfl⟩, rfl, fun e hm => ?_, fun k => ?_⟩
  · have := List.all_eq_true.mp he e (by simpa using hm)
    unfold intEntry at this
    split at this
    · rename_i i t hk
      refine ⟨i, by simp [intKind, Value.isInt, hk], ?_⟩
      have e1 : (intKind prog w).hash = hashInt := rfl
      rw [e1]; exact beq_iff_eq.mp this
    · cases this
  · have e1 : (intKind prog w).is = Value.isInt := rfl
    unfold findBy tabFind
    rw [e1]
    simp
section
variable {prog : Program} {w : World} {A : Around} {E : Value → Shared → Prop} {s : Shared} {d : Addr} {es : List DictEntry} {n : Nat}
theorem sub_KeyError : isSubtype (.type "KeyError") (.type "LookupError") = pure true := by rw [isSubtype_type]; kernel_rfl
theorem tab_miss {c : Nat} {Q : Mapped → Shared → Prop} (hh : A.handled = none) (ho : s.heap.get? d = some (dicO es n)) (he : es.all intEntry = true) (hd : (d == sysModules) = false) (hf : tabFind es (c : Int) = none)
    (h : ∀ h' tk, (∀ b o, s.heap.get? b = some o → h'.get? b = some o) → Q .keep { s with heap := h', toks := tk }) : wpAny (model prog w) A (tableLookup (.ref d) c) Q E s := by
  unfold tableLookup
  refine wpAny_bind (wpAny_attempt (wpAny_bind (wpAny_mkInt ?_)))
  refine wpAny_getItem_missing_of (knd := intKind prog w) (k := (c : Int)) (f := tabFind es) (by simp [intKind, Value.isInt]) hd hh (mapOf_tab (h := s.heap) ho he) hf fun h' e hx => ?_
  obtain ⟨ob, t, h1, h2, h3⟩ := hx.there
  refine wpAny_bind (wpAny_isInstance (T := "KeyError") (b := true) ⟨_, h1, h2⟩ sub_KeyError ?_)
  exact wpAny_bind (wpAny_rule (wpAny_pure (h _ _ hx.keeps)))
theorem tab_hit {c : Nat} {x : Str} {t : Tok} {Q : Mapped → Shared → Prop} (ho : s.heap.get? d = some (dicO es n)) (he : es.all intEntry = true) (hf : tabFind es (c : Int) = some (.str x t))
    (h : ∀ tk, Q (.text x) { s with toks := tk }) : wpAny (model prog w) A (tableLookup (.ref d) c) Q E s := by
  unfold tableLookup
  refine wpAny_bind (wpAny_attempt (wpAny_bind (wpAny_mkInt ?_)))
  refine wpAny_getItem_of (knd := intKind prog w) (k := (c : Int)) (f := tabFind es) (by simp [intKind, Value.isInt]) (mapOf_tab (h := s.heap) ho he) hf ?_
  exact wpAny_bind (wpAny_pure (wpAny_bind (wpAny_pure (wpAny_pure (h _)))))
theorem trans_run {c : Nat} {r : List Nat} {t : Tok} {Q : Value → Shared → Prop} (hc : c < 128) (hh : A.handled = none) (ho : s.heap.get? d = some (dicO es n)) (he : es.all intEntry = true) (hd : (d == sysModules) = false)
    (hf : (tabFind es (c : Int) = none ∧ r = [c]) ∨ ∃ x t, tabFind es (c : Int) = some (.str x t) ∧ x = S r ∧ r.length = 2)
    (h : ∀ h' tk t', (∀ b o, s.heap.get? b = some o → h'.get? b = some o) → Q (.str (S r) t') { s with heap := h', toks := tk }) :
    wpAny (model prog w) A (call (.builtin "str.translate") [.str (S [c]) t, .ref d]) Q E s := by
  refine wpAny_call_entry F.slot_str_translate (typeIs_str _ _ _) F.entry_str_translate ?_ (F.args_str_translate_2 _ _)
  unfold Builtin.«str.translate»
  have one : strOneArg "translate" ⟨[.str (S [c]) t, .ref d], []⟩ = pure (.str (S [c]) t, S [c], .ref d) := by rfl
  rw [one]
  refine wpAny_bind (wpAny_pure ?_)
  dsimp only
  rw [if_neg (by simp [S_len])]
  have key : ∀ {β : Type} (b : β) (f : Nat → β → Sem (ForInStep β)), forIn #[c] b f = (f c b >>= fun r => match r with | .done b => pure b | .yield b => pure b) := fun b f => by
    rw [show (#[c] : Array Nat) = [c].toArray from rfl, List.forIn_toArray, List.forIn_cons]
    rfl
  have hall : (#[c].all fun x => decide (x < 128)) = true := by simp [hc]
  refine wpAny_bind ?_
  rw [hall, key]
  refine wpAny_bind ?_
  dsimp only
  have t0 : tooLong 0 = false := by decide
  rw [t0, if_neg (by decide)]
  rw [if_pos rfl]
  have l0 : List.lookup c ([] : List (Nat × Option Nat)) = none := rfl
  rw [l0]
  dsimp only
  rcases hf with ⟨hf, hr⟩ | ⟨x, t, hf, hx, hr⟩
  · refine wpAny_bind (m := tableLookup (.ref d) c) (tab_miss (A := A.in1) hh ho he hd hf fun h' tk hk => ?_)
    dsimp only
    refine wpAny_bind (wpAny_pure (wpAny_pure (wpAny_pure ?_)))
    dsimp only
    rw [show tooLong (0 + 1) = false by decide, if_neg (by decide)]
    subst hr
    refine wpAny_bind (wpAny_mkStr (wpAny_pure ⟨_, rfl, ?_⟩) (by show ([] ++ [c]).toArray.size ≤ _; rw [sizeLine_eq]; simp))
    exact h _ _ _ hk
  · refine wpAny_bind (m := tableLookup (.ref d) c) (tab_hit (A := A.in1) ho he hf fun tk => ?_)
    subst hx
    have hl : ((S r).length == 1 && (S r).cps.all fun x => decide (x < 128)) = false := by rw [S_len, hr]; rfl
    dsimp only
    rw [hl]
    refine wpAny_bind (wpAny_pure ?_)
    refine wpAny_bind (wpAny_rule ?_)
    rw [if_neg (by decide)]
    refine wpAny_bind (m := tableLookup (.ref d) c) (tab_hit (A := A.in1) ho he hf fun tk' => ?_)
    refine wpAny_pure (wpAny_pure ?_)
    show wpAny _ _ (if tooLong (0 + (S r).length) = true then _ else _) _ _ _
    rw [show tooLong (0 + (S r).length) = false by rw [S_len, hr]; decide, if_neg (by decide)]
    refine wpAny_bind (wpAny_mkStr (wpAny_pure ⟨_, rfl, ?_⟩) (by show (#[] ++ r.toArray).size ≤ _; rw [sizeLine_eq]; simp [hr]))
    have e : (⟨List.foldl (fun acc p => acc ++ p.cps) #[] [S r].reverse⟩ : Str) = S r := by show (⟨#[] ++ r.toArray⟩ : Str) = _; simp
    rw [e]
    exact h _ _ _ (fun _ _ e => e)
end
section
variable {G : Gx} {ρ : Rho} {σ : Led} {Q : PV → Rho → Led → Prop}
theorem CallP.transl {c : Nat} {r : List Nat} {d : Addr} {es : List DictEntry} {n : Nat} (T : TabK G.C.K d es n) (he : es.all intEntry = true) (hc : c < 128)
    (hf : (tabFind es (c : Int) = none ∧ r = [c]) ∨ ∃ x t, tabFind es (c : Int) = some (.str x t) ∧ x = S r ∧ r.length = 2) (h : Q (.str r) ρ σ) : CallP G (.con (.builtin "str.translate")) [.str [c], .con (.ref d)] [] ρ σ Q := .self fun A bs im s vs hA hS hv => by
  obtain ⟨v, w, rfl, hv1, hw1⟩ := two_v hv
  obtain ⟨t, rfl⟩ := hv1.str_i
  rw [hw1.con_i]
  exact trans_run hc hA.1 (hS.l.K _ _ T.it) he T.ne hf fun h' tk t' hk => .now (hS.grow hk tk) .str h
end
end Mine
end
section
open PySem PySem.W PyProof.Rows PySem.Calls
set_option Elab.async false
set_option maxRecDepth 100000
namespace Mine
open Builtin.Range (rangeSize rangeFitsLong rangeFields)
noncomputable abbrev rngO (a b c : Int) (t u v : Tok) : Obj := { cls := .type "range", dict := none, data := .fields #[.int a t, .int b u, .int c v], slots := #[] }
noncomputable abbrev ritO (a n c : Int) : Obj := { cls := .type "range_iterator", dict := none, data := .fields #[rawInt a, rawInt n, rawInt c], slots := #[] }
theorem sub_ri_reversed : isSubtype (.type "range_iterator") (.type "reversed") = pure false := by rw [isSubtype_type]; kernel_rfl
noncomputable def revSmall (a b c : Int) : Bool := rangeFitsLong a && rangeFitsLong b && rangeFitsLong c && rangeFitsLong (-c) && rangeFitsLong (a - c) && rangeFitsLong (rangeSize a b c)
section
variable {prog : Program} {w : World} {A : Around} {E : Value → Shared → Prop} {s : Shared}
theorem rev_range {r : Addr} {a b c : Int} {t u v : Tok} {Q : Value → Shared → Prop} (ho : s.heap.get? r = some (rngO a b c t u v)) (hs : revSmall a b c = true)
    (h : Q (.ref s.heap.objs.size) { s with heap := s.heap.push (ritO (a + (rangeSize a b c - 1) * c) (rangeSize a b c) (-c)) }) : wpAny (model prog w) A (call (.builtin "range.__reversed__") [.ref r]) Q E s := by
  refine wpAny_call_entry F.slot_range_reversed ⟨_, ho, rfl⟩ F.entry_range_reversed ?_ (F.args_range_reversed_1 _)
  unfold Builtin.«range.__reversed__»
  refine wpAny_bind (wpAny_of_eq (a := Value.ref r) rfl ?_)
  refine wpAny_bind ?_
  unfold rangeFields
  refine wpAny_bind (wpAny_field ho rfl (x := .int a t) rfl (wpAny_bind (wpAny_pure ?_)))
  refine wpAny_bind (wpAny_field ho rfl (x := .int b u) rfl (wpAny_bind (wpAny_pure ?_)))
  refine wpAny_bind (wpAny_field ho rfl (x := .int c v) rfl (wpAny_bind (wpAny_pure (wpAny_pure ?_))))
  dsimp only
  have hs' := hs
  unfold revSmall at hs'
  rw [hs']
  rw [if_neg (by decide)]
  exact wpAny_bind (wpAny_newObj_type (wpAny_pure ⟨_, rfl, h⟩))
theorem code_rev {r : Addr} {a b c : Int} {t u v : Tok} {Q₁ : Value → Shared → Prop} (ho : s.heap.get? r = some (rngO a b c t u v)) (hs : revSmall a b c = true)
    (h : Q₁ (.ref s.heap.objs.size) { s with heap := s.heap.push (ritO (a + (rangeSize a b c - 1) * c) (rangeSize a b c) (-c)) }) :
    codeAny (model prog w) A (.call (.builtin "reversed.__new__") ⟨[.type "reversed", .ref r], []⟩) (wants Q₁ E) s := by
  have hT : s.TypeIs (.ref r) "range" := ⟨_, ho, rfl⟩
  refine codeAny_of_tree ?_
  show wpAny _ A.in1 (do checkBuiltinCall "reversed.__new__" ⟨[.type "reversed", .ref r], []⟩; again (.builtin "reversed.__new__" ⟨[.type "reversed", .ref r], []⟩)) _ _ s
  refine wpAny_bind (wpAny_of_eq (F.newCall_reversed_1 _) (wpAny_pure ⟨plainId_quiet F.plain_reversed_new _, codeAny_builtin F.entry_reversed_new ?_⟩))
  rw [Around.under_plainId F.plain_reversed_new _]
  unfold Builtin.«reversed.__new__»
  refine wpAny_bind (wpAny_of_eq (newClass_reversed _) ?_)
  try dsimp only
  refine wpAny_bind (wpAny_of_eq (a := ()) (by first | rfl | kernel_rfl) ?_)
  refine wpAny_bind (wpAny_of_eq (a := ()) (by first | rfl | kernel_rfl) ?_)
  try dsimp only
  refine wpAny_bind (wpAny_specialOf hT F.slot_range_reversed.lookup ?_)
  try dsimp only
  refine wpAny_bind (wpAny_of_eq (F.slot_range_reversed.bind _) ?_)
  try dsimp only
  first
  | rw [if_neg (show ¬ ((Value.builtin "range.__reversed__" == Value.none) = true) from Bool.false_ne_true)]
  | (show wpAny _ _ (if (Value.builtin "range.__reversed__" == Value.none) = true then _ else _) _ _ _; rw [if_neg (show ¬ ((Value.builtin "range.__reversed__" == Value.none) = true) from Bool.false_ne_true)])
  refine wpAny_bind (wpAny_rule ?_)
  refine wpAny_bind (m := runValue (.call (.builtin "range.__reversed__") ⟨[.ref r], []⟩)) (show wpAny _ _ (call (.builtin "range.__reversed__") [.ref r]) _ _ _ from rev_range ho hs ?_)
  first
  | exact wpAny_pure h
  | exact wpAny_bind (wpAny_pure (wpAny_pure h))
theorem call_rev {r : Addr} {a b c : Int} {t u v : Tok} {Q : Value → Shared → Prop} (ho : s.heap.get? r = some (rngO a b c t u v)) (hs : revSmall a b c = true)
    (h : Q (.ref s.heap.objs.size) { s with heap := s.heap.push (ritO (a + (rangeSize a b c - 1) * c) (rangeSize a b c) (-c)) }) : wpAny (model prog w) A (call (.type "reversed") [.ref r]) Q E s := by
  refine callType_other (U := "range_iterator") (Q₁ := fun obj s₁ => obj = .ref s.heap.objs.size ∧ s₁ = { s with heap := s.heap.push (ritO (a + (rangeSize a b c - 1) * c) (rangeSize a b c) (-c)) }) (by decide +kernel) F.create_reversed ⟨_, _, F.mro_reversed⟩ F.made_reversed sub_ri_reversed (F.typeCall_reversed_1 _) (code_rev ho hs ⟨rfl, rfl⟩) ?_
  rintro obj s₁ ⟨rfl, rfl⟩
  exact ⟨⟨_, Heap.get?_push_size _ rfl, rfl⟩, h⟩
end
section
variable {G : Gx} {ρ : Rho} {σ : Led} {Q : PV → Rho → Led → Prop}
theorem CallP.reversed {a b c : Int} {n : Nat} (hs : revSmall a b c = true) (hn : rangeSize a b c = (n : Int)) (h : ∀ D, Q (.ref D) ρ ((D, .rit (a + ((n : Int) - 1) * c) n (-c)) :: σ)) : CallP G (.con (.type "reversed")) [.rng a b c] [] ρ σ Q := fun A bs im s fv vs kvs hA hS hf hv hk => by
  rw [hf.con_i]
  have : kvs = [] := by have := hk.1; simpa using this
  subst this
  obtain ⟨v, rfl, hv1⟩ := one_v hv
  obtain ⟨r, t, u, w, rfl, ho⟩ := hv1.rng_i
  refine ⟨keeps_type, call_rev (hS.l.him _ _ ho) hs ?_⟩
  rw [hn]
  have hS' := hS.pushLed (ritO (a + ((n : Int) - 1) * c) n (-c)) (.rit (a + ((n : Int) - 1) * c) n (-c)) s.toks (Heap.get?_push_size _ rfl)
  exact ⟨im, _, ρ, _, .refl, .ref, hS', h _⟩
end
end Mine
end
section
open PySem PySem.W PyProof.Rows PySem.Calls
set_option Elab.async false
set_option maxRecDepth 100000
namespace Mine

/-! to write walks with -/
theorem Tr.rho {G : Gx} {α R : Type} {rel : PM → R → α → Prop} {t : Sem α} {ρ ρ' : Rho} {σ : Led} {Q : R → Rho → Led → Prop} (hs : ∀ p ∈ ρ', p ∈ ρ) (hn : (ρ'.map (·.1)).Nodup) (h : Tr G rel t ρ' σ Q) : Tr G rel t ρ σ Q :=
  fun A bs im s hA hS => h A bs im s hA (hS.rho hs hn)
theorem Tr.led {G : Gx} {α R : Type} {rel : PM → R → α → Prop} {t : Sem α} {ρ : Rho} {σ σ' : Led} {Q : R → Rho → Led → Prop} (hs : ∀ p ∈ σ', p ∈ σ) (hn : (σ.map (·.1)).Nodup → (σ'.map (·.1)).Nodup) (h : Tr G rel t ρ σ' Q) : Tr G rel t ρ σ Q :=
  fun A bs im s hA hS => h A bs im s hA (hS.sub hs (hn hS.l.nd))
/-- a ledger's keys are apart: said where it is wanted -/
theorem Tr.nd {G : Gx} {α R : Type} {rel : PM → R → α → Prop} {t : Sem α} {ρ : Rho} {σ : Led} {Q : R → Rho → Led → Prop} (h : (σ.map (·.1)).Nodup → Tr G rel t ρ σ Q) : Tr G rel t ρ σ Q :=
  fun A bs im s hA hS => h hS.l.nd A bs im s hA hS
theorem Tr.rho2 {G : Gx} {α R : Type} {rel : PM → R → α → Prop} {t : Sem α} {ρ ρ' : Rho} {σ : Led} {Q : R → Rho → Led → Prop} (ks : List String) (hs : ∀ p ∈ ρ', p ∈ ρ) (h : Tr G rel t ρ' σ Q) (he : ρ'.map (·.1) = ks := by rfl) (hn : ks.Nodup := by decide) : Tr G rel t ρ σ Q :=
  .rho hs (he ▸ hn) h
noncomputable def Sub (ρ' ρ : Rho) : Prop := ∀ p ∈ ρ', p ∈ ρ
theorem Sub.nil {ρ : Rho} : Sub [] ρ := fun _ h => nomatch h
theorem Sub.cons {q : String × PV} {r ρ : Rho} (h : q ∈ ρ) (k : Sub r ρ) : Sub (q :: r) ρ := fun p hp => by
  rcases List.mem_cons.mp hp with rfl | hp
  · exact h
  · exact k p hp
theorem ite_dec {P : Prop} [Decidable P] {X Y : Prop} (h1 : P → X) (h2 : ¬ P → Y) : if decide P = true then X else Y := by
  by_cases h : P
  · rw [if_pos (decide_eq_true h)]; exact h1 h
  · rw [if_neg (by simpa using h)]; exact h2 h
theorem ite_not {b : Bool} {X Y : Prop} (h : if b = true then Y else X) : if (!b) = true then X else Y := by cases b <;> exact h
theorem ite_b {b : Bool} {X Y : Prop} (h1 : b = true → X) (h2 : b = false → Y) : if b = true then X else Y := by cases b with | true => exact h1 rfl | false => exact h2 rfl

theorem SetR.tl {x y : String} {p q : PV} {ρ ρ' : Rho} (h : y ≠ x) (u : SetR x p ρ ρ') : SetR x p ((y, q) :: ρ) ((y, q) :: ρ') := .tail h u
section
variable {G : Gx} {ρ ρ' : Rho} {σ : Led} {Q : PV → Rho → Led → Prop}
theorem Op2.itemMn {value slice : Expr} {a : Addr} {l : List PV} {k : Nat} (hm : (a, LO.list l) ∈ σ) (hk : k < l.length) (hz : l.length ≤ 16777216) (h : Q (l.getD k .none) ρ σ) (hs : SubOk slice := by intro _ _; rfl) : Op2 G (subscriptTail value slice) (.ref a) (.int (k : Int)) ρ σ Q := by
  have e : pyIx (k : Int) l.length = k := by unfold pyIx; rw [if_neg (by omega)]; rfl
  refine Op2.itemM hm (by omega) (by omega) hz ?_ h hs
  rw [e, List.getElem?_eq_getElem hk, List.getD_eq_getElem?_getD, List.getElem?_eq_getElem hk]; rfl
theorem As.nameN {y : String} {pos : Pos} {i j : Int} {Q : Rho → Led → Prop} (he : i = j) (hy : (y, NameKind.local) ∈ G.ns) (u : SetR y (.int j) ρ ρ') (h : Q ρ' σ) : As G (.Name (Str.ofString y) pos) (.int i) ρ σ Q := by
  subst he; exact As.name hy u h
end
theorem ForT.inv {G : Gx} {target : Expr} {body : List Stmt} {Q : Fl → Rho → Led → Prop} (I : Nat → Rho → Led → Prop) : ∀ (items : List PV) (k : Nat) {ρ : Rho} {σ : Led},
    (∀ i p ρ σ, items[i]? = some p → I (k + i) ρ σ → As G target p ρ σ (fun ρ₁ σ₁ => Ex G body ρ₁ σ₁ (fun fl ρ₂ σ₂ => match fl with | .next | .cont => I (k + i + 1) ρ₂ σ₂ | .brk => Q .next ρ₂ σ₂ | .ret v => Q (.ret v) ρ₂ σ₂))) →
    I k ρ σ → (∀ ρ σ, I (k + items.length) ρ σ → Q .next ρ σ) → ForT G target body items ρ σ Q
  | [], k, ρ, σ, _, h, fin => fin _ _ h
  | p :: items, k, ρ, σ, turn, h, fin => by
    unfold ForT
    refine Con.mono (turn 0 p ρ σ rfl h) fun _ ρ₁ σ₁ h₁ => Tr.mono h₁ fun fl ρ₂ σ₂ h₂ => ?_
    have next : I (k + 1) ρ₂ σ₂ → ForT G target body items ρ₂ σ₂ Q := fun hI => ForT.inv I items (k + 1) (fun i q ρ σ hi hI => by
      have := turn (i + 1) q ρ σ hi (by rw [show k + (i + 1) = k + 1 + i by omega]; exact hI)
      rw [show k + (i + 1) = k + 1 + i by omega] at this; exact this) hI (fun ρ σ hI => fin ρ σ (by rw [List.length_cons, show k + (items.length + 1) = k + 1 + items.length by omega]; exact hI))
    cases fl with
    | next => exact next h₂
    | cont => exact next h₂
    | brk => exact h₂
    | ret v => exact h₂
noncomputable def fdAt (K : Frag) (a : Addr) : Option FuncData := match K.lookup a with
  | some ⟨_, _, .func fd, _⟩ => some fd
  | _ => none
theorem fnAt_of {C : Cx} {a : Addr} {fd : FuncData} (h : fdAt C.K a = some fd) (hc : ∀ h : Heap, (∀ b o, C.base b = some o → h.get? b = some o) → h.NoLimit ∧ h.CodeRec fd.code fd.qualname) : FnAt C a fd := by
  refine ⟨?_, hc⟩
  unfold fdAt at h
  split at h
  · rename_i c d f sl e
    cases h
    exact ⟨_, e, rfl⟩
  · cases h
end Mine
end
section
open PySem PySem.W PyProof.Rows PySem.Calls
set_option Elab.async false
set_option maxRecDepth 100000
namespace Mine
/-! the join with the head: what the top left, the law called as any function -/
theorem ns_move {g h : Heap} {a : Addr} {m : Str → Option Value} (x : g.Ns a m) (e : ∀ o, g.get? a = some o → h.get? a = some o) : h.Ns a m := let ⟨o, es, ep, h1, h2, h3, h4⟩ := x; ⟨o, es, ep, e _ h1, h2, h3, h4⟩
structure TopC (K : Frag) (mg mb : Str → Option Value) : Prop where
  at' : ∀ h : Heap, K.In h → h.Ns mainGlobals mg ∧ h.Ns builtinsNs mb ∧ h.NoLimit
  bt : ∀ x : Str, x ≠ "__name__" → mb x = bootBuiltins x
theorem in_get {K : Frag} {g h : Heap} {a : Addr} (X : K.In g) (Y : K.In h) (e : (K.lookup a).isSome = true) : ∀ o, g.get? a = some o → h.get? a = some o := fun o q => by
  cases k : K.lookup a with
  | none => rw [k] at e; cases e
  | some o' => rw [X _ _ k] at q; cases q; exact Y _ _ k
theorem lookup_ne {K : Frag} {a b : Addr} {o : Obj} (h : a ≠ b) : List.lookup a ((b, o) :: K) = K.lookup a := by
  show (match a == b with | true => some o | false => K.lookup a) = _
  rw [beq_eq_false_iff_ne.mpr h]
theorem topC_of {K : Frag} {g : Heap} {p : Program} {loose : List Str} {mean : ExcName → Option Value} {mg mb : Str → Option Value} (X : K.In g) (T : Top p loose mean mg mb g) (h3 : (K.lookup 3).isSome = true) :
    ∃ oB oS : Obj, TopC ((0, oB) :: (2, oS) :: K) mg mb ∧ Frag.In ((0, oB) :: (2, oS) :: K) g := by
  obtain ⟨o, es, ep, b1, b2, b3, b4⟩ := T.b
  obtain ⟨_, ⟨oS, _, _, c1, _⟩, _⟩ := T.nolimit
  have XI : Frag.In ((0, o) :: (2, oS) :: K) g := fun a o' e => by
    by_cases q : a = 0
    · subst q; cases e; exact b1
    · rw [lookup_ne q] at e
      by_cases q2 : a = 2
      · subst q2; cases e; exact c1
      · rw [lookup_ne q2] at e; exact X _ _ e
  have l3 : (List.lookup 3 ((0, o) :: (2, oS) :: K)).isSome = true := h3
  exact ⟨o, oS, ⟨fun h Y => ⟨ns_move T.g (in_get XI Y l3), ns_move T.b (in_get XI Y rfl), T.nolimit.at (in_get XI Y rfl)⟩, T.builtins⟩, XI⟩
section
variable {C : Cx} {mg mb : Str → Option Value}
theorem GlobP.K {x : String} {p : PV} {v : Value} (T : TopC C.K mg mb) (e : nsIn C.K mainGlobals (Str.ofString x) = some (some v)) (hv : ∀ im, VR im p v) (hn : plainB (Str.ofString x) = true) : GlobP C x p :=
  ⟨plainB_iff hn, v, hv, fun env A E Q s hk hg hb hx hin hq => by
    have X : C.K.In s.heap := fun a o q => hin a o q
    rw [loadName_read hk hx]
    exact loadGlobal_global (env := env) (by rw [hg]; exact (T.at' _ X).1) (mg_of X (T.at' _ X).1 e) hq⟩
theorem GlobP.B {x : String} {p : PV} {v : Value} (T : TopC C.K mg mb) (e : nsIn C.K mainGlobals (Str.ofString x) = some none) (hb : bootBuiltins (Str.ofString x) = some v) (hv : ∀ im, VR im p v) (hn : (plainB (Str.ofString x) && Str.ofString x != Str.ofString "__name__") = true) : GlobP C x p := by
  rw [Bool.and_eq_true, bne_iff_ne] at hn
  exact ⟨plainB_iff hn.1, v, hv, fun env A E Q s hk hg hbi hx hin hq => by
    have X : C.K.In s.heap := fun a o q => hin a o q
    rw [loadName_read hk hx]
    exact loadGlobal_builtin (env := env) (by rw [hg]; exact (T.at' _ X).1) (mg_none_of X (T.at' _ X).1 e) (by rw [hbi]; exact (T.at' _ X).2.1) ((T.bt _ hn.2).trans hb) hq⟩
theorem FnAt.K {a : Addr} {fd : FuncData} (T : TopC C.K mg mb) (h : fdAt C.K a = some fd) (hc : codeIn C.K fd.code fd.qualname = true) : FnAt C a fd := fnAt_of h fun g hin => by
  have X : C.K.In g := fun a o q => hin a o q
  exact ⟨(T.at' _ X).2.2, codeRec_of X hc⟩
end
theorem wellAll_ints {P : Params} {h : Heap} {im : PM} : ∀ (l : List Int) (vs : List Value), WellAll P h vs (ofPys (l.map .int)) → VRs im (l.map .int) vs
  | [], vs, w => by
    cases w; exact .nil
  | i :: l, vs, w => by
    cases w with
    | cons w1 w2 => cases w1; exact .cons .int (wellAll_ints l _ w2)
theorem well_list {P : Params} {h : Heap} {a : Addr} {l : List Int} {im : PM} (w : Well P h (.ref a) (ofPy (.list (l.map .int)))) : ∃ vs n, h.get? a = some (lstO vs n) ∧ VRs im (l.map .int) vs := by
  generalize hd : ofPy (.list (l.map .int)) = d at w
  cases w with
  | list ho hw =>
    have : WData.list (ofPys (l.map .int)) = WData.list _ := hd
    cases this
    exact ⟨_, _, ho, wellAll_ints l _ hw⟩
  | bytearray _ => cases hd
  | tuple _ _ => cases hd
  | dict _ _ => cases hd
  | set _ _ _ _ => cases hd
  | frozenset _ _ _ _ => cases hd
  | obj _ _ _ _ => cases hd
/-- the law as a function, called behind the head -/
theorem join_law {prog : Program} {w : World} {K : Frag} {gl : List (String × PV)} {s₁ : Shared} {n : Nat} {fa a : Addr} {l : List Int} {R : Result → Shared → Prop} (X : K.In s₁.heap)
    (spec : FnSpec ⟨prog, w, K, s₁.os, s₁.gens, gl⟩ n (.ref fa) [.lst (l.map .int)] [] [] (fun r _ => r = .bool true)) (gok : ∀ p ∈ gl, GlobP ⟨prog, w, K, s₁.os, s₁.gens, gl⟩ p.1 p.2)
    (w1 : Well w.params s₁.heap (.ref a) (ofPy (.list (l.map .int)))) (hn : n ≤ 500)
    (good : ∀ s' : Shared, (∀ b o, s₁.heap.get? b = some o → s'.heap.get? b = some o) → s'.os = s₁.os → s'.gens = s₁.gens → R (.ok (.ret (.bool true))) s') :
    codeAny (model prog w) callerA (.call (.ref fa) ⟨[.ref a], []⟩) R s₁ := by
  obtain ⟨vs, k, ho, hvs⟩ := well_list (im := fun b => if b = a then s₁.heap.get? a else none) w1
  have cm : claimMargin = 300 := by decide +kernel
  have hA1 : callerA.depth + n ≤ 900 := by
    show 1 + claimMargin + n ≤ 900
    omega
  have hA2 : callerA.units + 8 * n ≤ 9000 := by
    show 4 + 8 * n ≤ 9000
    omega
  have hA : AOk n callerA := ⟨rfl, hA1, hA2⟩
  have hi : ∀ b o, (fun b => if b = a then s₁.heap.get? a else none) b = some o → s₁.heap.get? b = some o := fun b o e => by
    by_cases q : b = a
    · subst q; have e' : (if b = b then s₁.heap.get? b else none) = some o := e; rw [if_pos rfl] at e'; exact e'
    · have e' : (if b = a then s₁.heap.get? a else none) = some o := e; rw [if_neg q] at e'; cases e'
  have hS : StL ⟨prog, w, K, s₁.os, s₁.gens, gl⟩ s₁.heap.get? (fun b => if b = a then s₁.heap.get? a else none) s₁ [] :=
    ⟨rfl, rfl, fun a o e => X a o e, fun _ _ e => e, hi, (fun p hp => nomatch hp), List.nodup_nil, gok⟩
  have hv : VRs (fun b => if b = a then s₁.heap.get? a else none) [PV.lst (l.map .int)] [.ref a] := .cons (.lst (by show (if a = a then s₁.heap.get? a else none) = _; rw [if_pos rfl]; exact ho) hvs) .nil
  refine codeAny_mono (spec callerA s₁.heap.get? _ s₁ (.ref fa) [.ref a] [] hA hS .ref hv .nil).2 ?_
  rintro r s' ⟨v, rfl, im', p, σ', _, hp, hS', rfl⟩
  rw [hp.bool_i]
  exact good s' hS'.hbs hS'.os hS'.gens
end Mine
end
section
open PySem PySem.W PyProof.Rows PySem.Calls
set_option Elab.async false
set_option maxRecDepth 100000
namespace Mine
local macro_rules | `(tactic| walk_at "zm") => `(tactic| repeat (first | exact List.Mem.head _ | apply List.Mem.tail))
local macro_rules | `(tactic| walk_at "zs") => `(tactic| repeat (first | exact SetR.head | exact SetR.nil | (apply SetR.tl; decide)))
noncomputable def fdOf (p : Params) (a : Addr) : FuncData := (fdAt (Kp p) a).getD default

/-- what the order on a heap's items is asked -/
noncomputable def LtOk (C : Cx) (n : Nat) (D : PV → Prop) (lt : PV → PV → Bool) : Prop :=
  ∀ env κ ns cn ρ σ p q (Q : PV → Rho → Led → Prop), D p → D q → Q (.bool (lt p q)) ρ σ → Op2 ⟨C, env, κ, ns, cn, n⟩ (compareOp .Lt) p q ρ σ Q
noncomputable def siftD (lt : PV → PV → Bool) (start : Nat) (x : PV) : Nat → Nat → List PV → List PV
  | 0, pos, l => l.set pos x
  | f + 1, pos, l => if start < pos then
      if lt x (l.getD ((pos - 1) / 2) .none) then siftD lt start x f ((pos - 1) / 2) (l.set pos (l.getD ((pos - 1) / 2) .none)) else l.set pos x
    else l.set pos x
theorem siftD_done {lt : PV → PV → Bool} {start : Nat} {x : PV} {f pos : Nat} {l : List PV} (h : ¬ start < pos) : siftD lt start x f pos l = l.set pos x := by
  cases f with
  | zero => rfl
  | succ f => unfold siftD; rw [if_neg h]
theorem siftD_step {lt : PV → PV → Bool} {start : Nat} {x : PV} {f pos : Nat} {l : List PV} : siftD lt start x (f + 1) pos l = if start < pos then
      if lt x (l.getD ((pos - 1) / 2) .none) then siftD lt start x f ((pos - 1) / 2) (l.set pos (l.getD ((pos - 1) / 2) .none)) else l.set pos x
    else l.set pos x := rfl
theorem getD_mem {l : List PV} {k : Nat} (h : k < l.length) : l.getD k .none ∈ l := by
  rw [List.getD_eq_getElem?_getD, List.getElem?_eq_getElem h]; exact List.getElem_mem h
theorem set_all {D : PV → Prop} {l : List PV} {k : Nat} {x : PV} (h : ∀ y ∈ l, D y) (hx : D x) : ∀ y ∈ l.set k x, D y := fun y hy => by
  rcases List.mem_or_eq_of_mem_set hy with h' | rfl
  · exact h _ h'
  · exact hx
noncomputable abbrev nsSD : Names := [("heap", .local), ("startpos", .local), ("pos", .local), ("newitem", .local), ("parentpos", .local), ("parent", .local)]
set_option maxHeartbeats 4000000 in
theorem siftdown_spec {C : Cx} {p : Params} {n : Nat} {D : PV → Prop} {lt : PV → PV → Bool} (hf : FnAt C 234 (fdOf p 234)) (hlt : LtOk C n D lt) {H : Addr} {l : List PV} {a b : Nat} (hb : b < l.length) (hz : l.length ≤ 1000) (hD : ∀ x ∈ l, D x) :
    FnSpec C (n + 1) (.ref 234) [.ref H, .int a, .int b] [] [(H, .list l)] (fun r σ' => r = .none ∧ σ' = [(H, .list (siftD lt a (l.getD b .none) b b l))]) := by
  refine FnSpec.of (body := ?bd) ["heap", "startpos", "pos"] [.ref H, .int a, .int b] nsSD [] [] (sc := ?sc) hf ?hb ?hsc ?hgl ?hbi ?hcl ?hok (fun p hp => nomatch hp) rfl ?_ ?_
  case hb => with_unfolding_all rfl
  case hsc => with_unfolding_all rfl
  case hgl => with_unfolding_all rfl
  case hbi => with_unfolding_all rfl
  case hcl => with_unfolding_all rfl
  case hok => kernel_rfl
  · intro im s vs kvs hk hv hkw
    obtain ⟨v, w, x, rfl, h1, h2, h3⟩ := three_v hv
    have : kvs = [] := by have := hkw.1; simpa using this
    subst this
    have e : bindArgs (fdOf p 234) ⟨[v, w, x], []⟩ = pure ((["heap", "startpos", "pos"].map Str.ofString).zip [v, w, x]) := by kernel_rfl
    refine ⟨[v, w, x], hv, ?_⟩
    intro M A E Q h
    rw [e]
    exact wpAny_pure h
  · intro env κ
    show Ex _ _ [("heap", .ref H), ("startpos", .int a), ("pos", .int b)] _ _
    refine Ex.cons (Ex1.asg (Ev.sub (Ev.name (by walk_at "zm") (Ev.name (by walk_at "zm") (Op2.itemMn (by walk_at "zm") hb (by omega) (As.name (by walk_at "zm") (by walk_at "zs") ?_))))))
    refine Ex.cons (Ex1.while (fun k ρ σ => ∃ l' f, σ = [(H, LO.list l')] ∧ Sub [("heap", .ref H), ("startpos", .int a), ("pos", .int (k : Int)), ("newitem", l.getD b .none)] ρ ∧ k < l'.length ∧ l'.length = l.length ∧ (∀ x ∈ l', D x) ∧ k ≤ f ∧ siftD lt a (l.getD b .none) f k l' = siftD lt a (l.getD b .none) b b l) ?_ b ?_)
    · rintro k ρ σ ⟨l', f, rfl, hs, h1, h2, h3, hkf, h4⟩
      refine Tr.rho2 ["heap", "startpos", "pos", "newitem"] hs ?_
      refine Ts.compare (Ev.name (by walk_at "zm") (Ev.name (by walk_at "zm") (Op2.gt (TrueOf.bool ?_))))
      refine ite_dec (fun hak => ?_) (fun hak => ?_)
      · obtain ⟨f, rfl⟩ : ∃ f', f = f' + 1 := ⟨f - 1, by omega⟩
        rw [siftD_step, if_pos (by omega)] at h4
        refine Ex.cons (Ex1.asg (Ev.binop (Ev.binop (Ev.name (by walk_at "zm") (Ev.int (Op2.sub (Ev.int (Op2.shr (by omega) (As.nameN (j := ((k - 1) / 2 : Nat)) ?_ (by walk_at "zm") (by walk_at "zs") ?_)))))))))
        · show ((k : Int) - 1) / 2 ^ (1 : Nat) = _
          omega
        have hpar : (k - 1) / 2 < l'.length := by omega
        refine Ex.cons (Ex1.asg (Ev.sub (Ev.name (by walk_at "zm") (Ev.name (by walk_at "zm") (Op2.itemMn (by walk_at "zm") hpar (by omega) (As.name (by walk_at "zm") (by walk_at "zs") ?_))))))
        refine Ex.cons (Ex1.if (Ts.compare (Ev.name (by walk_at "zm") (Ev.name (by walk_at "zm") (hlt _ _ _ _ _ _ _ _ _ (hD _ (getD_mem hb)) (h3 _ (getD_mem hpar)) (TrueOf.bool ?_))))))
        refine ite_b (fun hl => ?_) (fun hl => ?_)
        · rw [if_pos hl] at h4
          refine Ex.cons (Ex1.setItem (Ev.name (by walk_at "zm") (Ev.name (by walk_at "zm") (Ev.name (by walk_at "zm") (SetP.led .head h1 (by omega) ?_)))))
          refine Ex.cons (Ex1.asg (Ev.name (by walk_at "zm") (As.name (by walk_at "zm") (by walk_at "zs") ?_)))
          refine Ex.cons (Ex1.cont ?_)
          exact ⟨(k - 1) / 2, by omega, _, f, rfl, .cons (by walk_at "zm") (.cons (by walk_at "zm") (.cons (by walk_at "zm") (.cons (by walk_at "zm") .nil))), by rw [List.length_set]; omega, by rw [List.length_set]; exact h2, set_all h3 (h3 _ (getD_mem hpar)), by omega, h4⟩
        · rw [if_neg (by rw [hl]; decide)] at h4
          refine Ex.nil ?_
          refine Ex.cons (Ex1.brk ?_)
          refine Ex.cons (Ex1.setItem (Ev.name (by walk_at "zm") (Ev.name (by walk_at "zm") (Ev.name (by walk_at "zm") (SetP.led .head h1 (by omega) ?_)))))
          refine Ex.nil ?_
          exact ⟨rfl, by rw [h4]⟩
      · rw [siftD_done (by omega)] at h4
        refine Ex.cons (Ex1.setItem (Ev.name (by walk_at "zm") (Ev.name (by walk_at "zm") (Ev.name (by walk_at "zm") (SetP.led .head h1 (by omega) ?_)))))
        refine Ex.nil ?_
        exact ⟨rfl, by rw [h4]⟩
    · exact ⟨l, b, rfl, .cons (by walk_at "zm") (.cons (by walk_at "zm") (.cons (by walk_at "zm") (.cons (by walk_at "zm") .nil))), hb, rfl, hD, Nat.le_refl _, rfl⟩
end Mine
end
section
open PySem PySem.W PyProof.Rows PySem.Calls
set_option Elab.async false
set_option maxRecDepth 100000
namespace Mine
local macro_rules | `(tactic| walk_at "zm") => `(tactic| repeat (first | exact List.Mem.head _ | apply List.Mem.tail))
local macro_rules | `(tactic| walk_at "zs") => `(tactic| repeat (first | exact SetR.head | exact SetR.nil | (apply SetR.tl; decide)))

/-- the greater child's place -/
noncomputable def childP (lt : PV → PV → Bool) (c : Nat) (l : List PV) : Nat := if c + 1 < l.length ∧ lt (l.getD c .none) (l.getD (c + 1) .none) = false then c + 1 else c
noncomputable def siftU (lt : PV → PV → Bool) : Nat → Nat → List PV → Nat × List PV
  | 0, pos, l => (pos, l)
  | f + 1, pos, l => if 2 * pos + 1 < l.length then siftU lt f (childP lt (2 * pos + 1) l) (l.set pos (l.getD (childP lt (2 * pos + 1) l) .none)) else (pos, l)
noncomputable def siftUp (lt : PV → PV → Bool) (pos : Nat) (l : List PV) : List PV :=
  siftD lt pos (l.getD pos .none) (siftU lt l.length pos l).1 (siftU lt l.length pos l).1 ((siftU lt l.length pos l).2.set (siftU lt l.length pos l).1 (l.getD pos .none))
theorem siftU_done {lt : PV → PV → Bool} {f pos : Nat} {l : List PV} (h : ¬ 2 * pos + 1 < l.length) : siftU lt f pos l = (pos, l) := by
  cases f with
  | zero => rfl
  | succ f => unfold siftU; rw [if_neg h]
theorem siftU_step {lt : PV → PV → Bool} {f pos : Nat} {l : List PV} : siftU lt (f + 1) pos l = if 2 * pos + 1 < l.length then siftU lt f (childP lt (2 * pos + 1) l) (l.set pos (l.getD (childP lt (2 * pos + 1) l) .none)) else (pos, l) := rfl
theorem childP_lt {lt : PV → PV → Bool} {c : Nat} {l : List PV} (h : c < l.length) : c ≤ childP lt c l ∧ childP lt c l < l.length := by
  unfold childP; split <;> omega
noncomputable abbrev nsSU : Names := [("heap", .local), ("pos", .local), ("endpos", .local), ("startpos", .local), ("newitem", .local), ("childpos", .local), ("rightpos", .local)]
set_option maxHeartbeats 4000000 in
theorem siftup_spec {C : Cx} {p : Params} {n : Nat} {D : PV → Prop} {lt : PV → PV → Bool} (hf : FnAt C 241 (fdOf p 241)) (hf' : FnAt C 234 (fdOf p 234)) (hg : Sub [("_siftdown", .ref 234), ("len", .con (.builtin "len"))] C.gl) (hlt : LtOk C n D lt) (hlt' : LtOk C (n + 1) D lt) {H : Addr} {l : List PV} {a : Nat} (ha : a < l.length) (hz : l.length ≤ 1000) (hD : ∀ x ∈ l, D x) :
    FnSpec C (n + 2) (.ref 241) [.ref H, .int a] [] [(H, .list l)] (fun r σ' => r = .none ∧ σ' = [(H, .list (siftUp lt a l))]) := by
  refine FnSpec.of (body := ?bd) ["heap", "pos"] [.ref H, .int a] nsSU [] [("_siftdown", .ref 234), ("len", .con (.builtin "len"))] (sc := ?sc) hf ?hb ?hsc ?hgl ?hbi ?hcl ?hok hg rfl ?_ ?_
  case hb => with_unfolding_all rfl
  case hsc => with_unfolding_all rfl
  case hgl => with_unfolding_all rfl
  case hbi => with_unfolding_all rfl
  case hcl => with_unfolding_all rfl
  case hok => kernel_rfl
  · intro im s vs kvs hk hv hkw
    obtain ⟨v, w, rfl, h1, h2⟩ := two_v hv
    have : kvs = [] := by have := hkw.1; simpa using this
    subst this
    have e : bindArgs (fdOf p 241) ⟨[v, w], []⟩ = pure ((["heap", "pos"].map Str.ofString).zip [v, w]) := by kernel_rfl
    refine ⟨[v, w], hv, ?_⟩
    intro M A E Q h
    rw [e]
    exact wpAny_pure h
  · intro env κ
    show Ex _ _ [("_siftdown", .ref 234), ("len", .con (.builtin "len")), ("heap", .ref H), ("pos", .int a)] _ _
    refine Ex.cons (Ex1.asg (Ev.call (by walk_at "zm") (EvL.cons (Ev.name (by walk_at "zm") (EvL.nil (CallP.lenM (by walk_at "zm") (by omega) (As.name (by walk_at "zm") (by walk_at "zs") ?_)))))))
    refine Ex.cons (Ex1.asg (Ev.name (by walk_at "zm") (As.name (by walk_at "zm") (by walk_at "zs") ?_)))
    refine Ex.cons (Ex1.asg (Ev.sub (Ev.name (by walk_at "zm") (Ev.name (by walk_at "zm") (Op2.itemMn (by walk_at "zm") ha (by omega) (As.name (by walk_at "zm") (by walk_at "zs") ?_))))))
    refine Ex.cons (Ex1.asg (Ev.binop (Ev.binop (Ev.int (Ev.name (by walk_at "zm") (Op2.mul (Ev.int (Op2.add (As.nameN (j := ((2 * a + 1 : Nat) : Int)) (by omega) (by walk_at "zm") (by walk_at "zs") ?_))) ?_))))))
    refine Ex.cons (Ex1.while (fun k ρ σ => ∃ l' f pos, k = l.length - pos ∧ σ = [(H, LO.list l')] ∧ Sub [("_siftdown", .ref 234), ("heap", .ref H), ("pos", .int (pos : Int)), ("endpos", .int l.length), ("startpos", .int a), ("newitem", l.getD a .none), ("childpos", .int ((2 * pos + 1 : Nat) : Int))] ρ ∧ pos < l.length ∧ l'.length = l.length ∧ (∀ x ∈ l', D x) ∧ l.length ≤ pos + f ∧ siftU lt f pos l' = siftU lt l.length a l) ?_ (l.length - a) ?_)
    · rintro k ρ σ ⟨l', f, pos, rfl, rfl, hs, h1, h2, h3, hkf, h4⟩
      refine Tr.rho2 ["_siftdown", "heap", "pos", "endpos", "startpos", "newitem", "childpos"] hs ?_
      refine Ts.compare (Ev.name (by walk_at "zm") (Ev.name (by walk_at "zm") (Op2.lt (TrueOf.bool ?_))))
      refine ite_dec (fun hak => ?_) (fun hak => ?_)
      · obtain ⟨f, rfl⟩ : ∃ f', f = f' + 1 := ⟨f - 1, by omega⟩
        rw [siftU_step, if_pos (by omega)] at h4
        have hc := childP_lt (lt := lt) (c := 2 * pos + 1) (l := l') (by omega)
        refine Ex.cons (Ex1.asg (Ev.binop (Ev.name (by walk_at "zm") (Ev.int (Op2.add (As.nameN (j := ((2 * pos + 1 + 1 : Nat) : Int)) (by omega) (by walk_at "zm") (by walk_at "zs") ?_))))))
        refine Ex.cons (Tr.mono (Q := fun fl ρ₁ σ₁ => fl = Fl.next ∧ σ₁ = [(H, LO.list l')] ∧ ρ₁ = [("_siftdown", .ref 234), ("heap", .ref H), ("pos", .int (pos : Int)), ("endpos", .int l.length), ("startpos", .int a), ("newitem", l.getD a .none), ("childpos", .int ((childP lt (2 * pos + 1) l' : Nat) : Int)), ("rightpos", .int ((2 * pos + 1 + 1 : Nat) : Int))]) (Ex1.if (Ts.bool (TsAll.and (Ts.compare (Ev.name (by walk_at "zm") (Ev.name (by walk_at "zm") (Op2.lt (TrueOf.bool ?_)))))))) ?_)
        · refine ite_dec (fun hr => ?_) (fun hr => ?_)
          · refine TsAll.and (Ts.not (Ts.compare (Ev.sub (Ev.name (by walk_at "zm") (Ev.name (by walk_at "zm") (Op2.itemMn (by walk_at "zm") (by omega) (by omega) (Ev.sub (Ev.name (by walk_at "zm") (Ev.name (by walk_at "zm") (Op2.itemMn (by walk_at "zm") (by omega) (by omega) (hlt' _ _ _ _ _ _ _ _ _ (h3 _ (getD_mem (by omega))) (h3 _ (getD_mem (by omega))) (TrueOf.bool ?_))))))))))))
            refine ite_not (ite_b (fun hl => ?_) (fun hl => ?_))
            · refine Ex.nil ⟨rfl, rfl, ?_⟩
              rw [show childP lt (2 * pos + 1) l' = 2 * pos + 1 from if_neg (by rw [hl]; simp)]
            · refine TsAll.nilAnd ?_
              refine Ex.cons (Ex1.asg (Ev.name (by walk_at "zm") (As.name (by walk_at "zm") (by walk_at "zs") ?_)))
              refine Ex.nil ⟨rfl, rfl, ?_⟩
              rw [show childP lt (2 * pos + 1) l' = 2 * pos + 1 + 1 from if_pos ⟨by omega, hl⟩]
          · refine Ex.nil ⟨rfl, rfl, ?_⟩
            rw [show childP lt (2 * pos + 1) l' = 2 * pos + 1 from if_neg (by omega)]
        · rintro _ _ _ ⟨rfl, rfl, rfl⟩
          refine Ex.cons (Ex1.setItem (Ev.sub (Ev.name (by walk_at "zm") (Ev.name (by walk_at "zm") (Op2.itemMn (by walk_at "zm") hc.2 (by omega) (Ev.name (by walk_at "zm") (Ev.name (by walk_at "zm") (SetP.led .head (by omega) (by omega) ?_))))))))
          refine Ex.cons (Ex1.asg (Ev.name (by walk_at "zm") (As.name (by walk_at "zm") (by walk_at "zs") ?_)))
          refine Ex.cons (Ex1.asg (Ev.binop (Ev.binop (Ev.int (Ev.name (by walk_at "zm") (Op2.mul (Ev.int (Op2.add (As.nameN (j := ((2 * childP lt (2 * pos + 1) l' + 1 : Nat) : Int)) (by omega) (by walk_at "zm") (by walk_at "zs") ?_))) ?_))))))
          · refine Ex.nil ?_
            exact ⟨l.length - childP lt (2 * pos + 1) l', by omega, _, f, _, rfl, rfl, .cons (by walk_at "zm") (.cons (by walk_at "zm") (.cons (by walk_at "zm") (.cons (by walk_at "zm") (.cons (by walk_at "zm") (.cons (by walk_at "zm") (.cons (by walk_at "zm") .nil)))))), by omega, by rw [List.length_set]; exact h2, set_all h3 (h3 _ (getD_mem hc.2)), by omega, h4⟩
          · exact IntMulOk.of_left (by decide)
      · rw [siftU_done (by omega)] at h4
        refine Ex.cons (Ex1.setItem (Ev.name (by walk_at "zm") (Ev.name (by walk_at "zm") (Ev.name (by walk_at "zm") (SetP.led .head (by omega) (by omega) ?_)))))
        have hx : (l'.set pos (l.getD a .none)).getD pos .none = l.getD a .none := by
          rw [List.getD_eq_getElem?_getD, List.getElem?_set_self (by omega)]; rfl
        refine Ex.cons (Ex1.expr (Ev.call (by walk_at "zm") (EvL.cons (Ev.name (by walk_at "zm") (EvL.cons (Ev.name (by walk_at "zm") (EvL.cons (Ev.name (by walk_at "zm") (EvL.nil (CallP.of (φ := []) (siftdown_spec (p := p) hf' hlt (by rw [List.length_set]; omega) (by rw [List.length_set]; omega) (set_all h3 (hD _ (getD_mem ha)))) (fun _ h => h) (.inr rfl) ?_))))))))))
        rintro r σ' ⟨rfl, rfl⟩
        refine ⟨rfl, Ex.nil ⟨rfl, ?_⟩⟩
        rw [hx]
        unfold siftUp
        rw [← h4]
        rfl
    · exact ⟨l, l.length, a, rfl, rfl, .cons (by walk_at "zm") (.cons (by walk_at "zm") (.cons (by walk_at "zm") (.cons (by walk_at "zm") (.cons (by walk_at "zm") (.cons (by walk_at "zm") (.cons (by walk_at "zm") .nil)))))), ha, rfl, hD, by omega, rfl⟩
    · exact IntMulOk.of_left (by decide)
end Mine
end
section
open PySem PySem.W PyProof.Rows PySem.Calls
set_option Elab.async false
set_option maxRecDepth 100000
namespace Mine
local macro_rules | `(tactic| walk_at "zm") => `(tactic| repeat (first | exact List.Mem.head _ | apply List.Mem.tail))
local macro_rules | `(tactic| walk_at "zs") => `(tactic| repeat (first | exact SetR.head | exact SetR.nil | (apply SetR.tl; decide)))

theorem siftD_len {lt : PV → PV → Bool} {start : Nat} {x : PV} : ∀ (f pos : Nat) (l : List PV), (siftD lt start x f pos l).length = l.length
  | 0, pos, l => by unfold siftD; rw [List.length_set]
  | f + 1, pos, l => by
    rw [siftD_step]
    split
    · split
      · rw [siftD_len f, List.length_set]
      · rw [List.length_set]
    · rw [List.length_set]
theorem siftU_len {lt : PV → PV → Bool} : ∀ (f pos : Nat) (l : List PV), (siftU lt f pos l).2.length = l.length
  | 0, pos, l => rfl
  | f + 1, pos, l => by
    rw [siftU_step]
    split
    · rw [siftU_len f, List.length_set]
    · rfl
theorem siftUp_len {lt : PV → PV → Bool} {pos : Nat} {l : List PV} : (siftUp lt pos l).length = l.length := by
  unfold siftUp; rw [siftD_len, List.length_set, siftU_len]
theorem siftD_all {lt : PV → PV → Bool} {start : Nat} {x : PV} {D : PV → Prop} (hx : D x) : ∀ (f pos : Nat) (l : List PV), pos < l.length → (∀ y ∈ l, D y) → ∀ y ∈ siftD lt start x f pos l, D y
  | 0, pos, l, _, h => by unfold siftD; exact set_all h hx
  | f + 1, pos, l, hp, h => by
    rw [siftD_step]
    split
    · split
      · exact siftD_all hx f _ _ (by rw [List.length_set]; omega) (set_all h (h _ (getD_mem (by omega))))
      · exact set_all h hx
    · exact set_all h hx
theorem siftU_all {lt : PV → PV → Bool} {D : PV → Prop} : ∀ (f pos : Nat) (l : List PV), pos < l.length → (∀ y ∈ l, D y) → (∀ y ∈ (siftU lt f pos l).2, D y) ∧ (siftU lt f pos l).1 < l.length
  | 0, pos, l, hp, h => ⟨h, hp⟩
  | f + 1, pos, l, hp, h => by
    rw [siftU_step]
    split
    · rename_i hc
      have := childP_lt (lt := lt) hc
      have r := siftU_all (lt := lt) f (childP lt (2 * pos + 1) l) (l.set pos (l.getD (childP lt (2 * pos + 1) l) .none)) (by rw [List.length_set]; exact this.2) (set_all h (h _ (getD_mem this.2)))
      rw [List.length_set] at r
      exact r
    · exact ⟨h, hp⟩
theorem siftUp_all {lt : PV → PV → Bool} {D : PV → Prop} {pos : Nat} {l : List PV} (hp : pos < l.length) (h : ∀ y ∈ l, D y) : ∀ y ∈ siftUp lt pos l, D y := by
  obtain ⟨a, b⟩ := siftU_all (lt := lt) l.length pos l hp h
  unfold siftUp
  exact siftD_all (h _ (getD_mem hp)) _ _ _ (by rw [List.length_set, siftU_len]; exact b) (set_all a (h _ (getD_mem hp)))
noncomputable def heapifyP (lt : PV → PV → Bool) : Nat → List PV → List PV
  | 0, l => l
  | k + 1, l => heapifyP lt k (siftUp lt k l)
noncomputable def heappopP (lt : PV → PV → Bool) (l : List PV) : PV × List PV :=
  if l.length ≤ 1 then (l.getD (l.length - 1) .none, []) else (l.getD 0 .none, siftUp lt 0 (l.dropLast.set 0 (l.getD (l.length - 1) .none)))
noncomputable abbrev glH : Rho := [("_siftup", .ref 241), ("_siftdown", .ref 234), ("len", .con (.builtin "len")), ("range", .con (.type "range")), ("reversed", .con (.type "reversed"))]
noncomputable abbrev nsHP : Names := [("heap", .local), ("lastelt", .local), ("returnitem", .local)]
set_option maxHeartbeats 4000000 in
theorem heappop_spec {C : Cx} {p : Params} {n : Nat} {D : PV → Prop} {lt : PV → PV → Bool} (hf : FnAt C 220 (fdOf p 220)) (hf1 : FnAt C 241 (fdOf p 241)) (hf' : FnAt C 234 (fdOf p 234)) (hg : Sub glH C.gl) (hlt : LtOk C n D lt) (hlt' : LtOk C (n + 1) D lt) {H : Addr} {l : List PV} (ha : 0 < l.length) (hz : l.length ≤ 1000) (hD : ∀ x ∈ l, D x) :
    FnSpec C (n + 3) (.ref 220) [.ref H] [] [(H, .list l)] (fun r σ' => r = (heappopP lt l).1 ∧ σ' = [(H, .list (heappopP lt l).2)]) := by
  have hg1 : Sub [("_siftup", .ref 241)] C.gl := .cons (hg _ (by walk_at "zm")) .nil
  have hg2 : Sub [("_siftdown", .ref 234), ("len", .con (.builtin "len"))] C.gl := .cons (hg _ (by walk_at "zm")) (.cons (hg _ (by walk_at "zm")) .nil)
  refine FnSpec.of (body := ?bd) ["heap"] [.ref H] nsHP [] [("_siftup", .ref 241)] (sc := ?sc) hf ?hb ?hsc ?hgl ?hbi ?hcl ?hok hg1 rfl ?_ ?_
  case hb => with_unfolding_all rfl
  case hsc => with_unfolding_all rfl
  case hgl => with_unfolding_all rfl
  case hbi => with_unfolding_all rfl
  case hcl => with_unfolding_all rfl
  case hok => kernel_rfl
  · intro im s vs kvs hk hv hkw
    obtain ⟨v, rfl, h1⟩ := one_v hv
    have : kvs = [] := by have := hkw.1; simpa using this
    subst this
    have e : bindArgs (fdOf p 220) ⟨[v], []⟩ = pure ((["heap"].map Str.ofString).zip [v]) := by kernel_rfl
    refine ⟨[v], hv, ?_⟩
    intro M A E Q h
    rw [e]
    exact wpAny_pure h
  · intro env κ
    have hlast : l[l.length - 1]? = some (l.getD (l.length - 1) .none) := by rw [List.getD_eq_getElem?_getD, List.getElem?_eq_getElem (by omega)]; rfl
    have hdl : l.dropLast.length = l.length - 1 := List.length_dropLast
    have hdD : ∀ x ∈ l.dropLast, D x := fun x hx => hD x (List.dropLast_subset l hx)
    show Ex _ _ [("_siftup", .ref 241), ("heap", .ref H)] _ _
    refine Ex.cons <| Ex1.asg <| Ev.meth <| Ev.name (by walk_at "zm") ⟨_, _, MethP.led (by walk_at "zm") F.slot_list_pop F.type_list_pop, EvL.nil <| CallP.pop hlast .head (by omega) <| As.name (by walk_at "zm") (by walk_at "zs") ?_⟩
    refine Ex.cons <| Ex1.if <| Ts.plain <| Ev.name (by walk_at "zm") <| TrueOf.led (by walk_at "zm") (by omega) ?_
    by_cases h1 : l.length ≤ 1
    · have : l.dropLast = [] := List.length_eq_zero_iff.mp (by omega)
      rw [this]
      show Ex _ _ _ _ _
      refine Ex.nil ?_
      refine Ex.cons <| Ex1.ret <| Ev.name (by walk_at "zm") ?_
      unfold heappopP
      rw [if_pos h1]
      exact ⟨rfl, rfl⟩
    · have hne : (!l.dropLast.isEmpty) = true := by
        cases e : l.dropLast with
        | nil => rw [e] at hdl; simp at hdl; omega
        | cons a r => rfl
      rw [hne]
      show Ex _ _ _ _ _
      have h0 : l.dropLast.getD 0 .none = l.getD 0 .none := by
        rw [List.getD_eq_getElem?_getD, List.getD_eq_getElem?_getD, List.getElem?_dropLast, if_pos (by omega)]
      refine Ex.cons <| Ex1.asg <| Ev.sub <| Ev.name (by walk_at "zm") <| Ev.int <| Op2.itemMn (k := 0) (by walk_at "zm") (by omega) (by omega) <| As.name (by walk_at "zm") (by walk_at "zs") ?_
      refine Ex.cons <| Ex1.setItem <| Ev.name (by walk_at "zm") <| Ev.name (by walk_at "zm") <| Ev.int <| SetP.led (k := 0) .head (by omega) (by omega) ?_
      refine Ex.cons <| Ex1.expr <| Ev.call (by walk_at "zm") <| EvL.cons <| Ev.name (by walk_at "zm") <| EvL.cons <| Ev.int <| EvL.nil <| CallP.of (φ := []) (siftup_spec (a := 0) (p := p) hf1 hf' hg2 hlt hlt' (by rw [List.length_set]; omega) (by rw [List.length_set]; omega) (set_all hdD (hD _ (getD_mem (by omega))))) (fun _ h => h) (.inr rfl) ?_
      rintro r σ' ⟨rfl, rfl⟩
      refine ⟨rfl, ?_⟩
      refine Ex.cons <| Ex1.ret <| Ev.name (by walk_at "zm") ?_
      unfold heappopP
      rw [if_neg h1, h0]
      exact ⟨rfl, rfl⟩
end Mine
end
section
open PySem PySem.W PyProof.Rows PySem.Calls
set_option Elab.async false
set_option maxRecDepth 100000
namespace Mine
local macro_rules | `(tactic| walk_at "zm") => `(tactic| repeat (first | exact List.Mem.head _ | apply List.Mem.tail))
local macro_rules | `(tactic| walk_at "zs") => `(tactic| repeat (first | exact SetR.head | exact SetR.nil | (apply SetR.tl; decide)))
open Builtin.Range (rangeSize rangeFitsLong)
theorem rangeSize1 (a : Int) (m : Nat) : rangeSize a (a + m) 1 = (m : Int) := by
  unfold rangeSize
  rw [if_pos (by decide)]
  split
  · rw [Int.ediv_one]; omega
  · omega
theorem fitsLong {i : Int} (h1 : -1000000 ≤ i) (h2 : i ≤ 1000000) : rangeFitsLong i = true := by
  unfold rangeFitsLong
  simp only [Bool.and_eq_true, decide_eq_true_eq]
  constructor <;> omega
theorem revSmall1 {m : Nat} (h : m ≤ 1000) : revSmall 0 m 1 = true := by
  have e := rangeSize1 0 m
  rw [Int.zero_add] at e
  unfold revSmall
  rw [e, fitsLong, fitsLong, fitsLong, fitsLong, fitsLong]
  · rfl
  all_goals omega
theorem rints_get {a c : Int} {n i : Nat} {q : PV} (h : (rints a c n)[i]? = some q) : i < n ∧ q = .int (a + i * c) := by
  unfold rints at h
  rw [List.getElem?_map] at h
  cases e : (List.range n)[i]? with
  | none => rw [e] at h; cases h
  | some k =>
    rw [e] at h
    have hk := List.getElem?_eq_some_iff.mp e
    obtain ⟨h1, h2⟩ := hk
    rw [List.length_range] at h1
    rw [List.getElem_range] at h2
    subst h2
    cases h
    exact ⟨h1, rfl⟩
theorem rints_len {a c : Int} {n : Nat} : (rints a c n).length = n := by unfold rints; rw [List.length_map, List.length_range]
theorem heapifyP_len {lt : PV → PV → Bool} : ∀ (k : Nat) (l : List PV), (heapifyP lt k l).length = l.length
  | 0, _ => rfl
  | k + 1, l => by unfold heapifyP; rw [heapifyP_len k, siftUp_len]
theorem Con.rho2 {G : Gx} {α β R R' : Type} {rel : PM → R → α → Prop} {rel' : PM → R' → β → Prop} {r : R} {f : α → Sem β} {ρ ρ' : Rho} {σ : Led} {Q : R' → Rho → Led → Prop} (ks : List String) (hs : ∀ p ∈ ρ', p ∈ ρ) (h : Con G rel r f rel' ρ' σ Q) (he : ρ'.map (·.1) = ks := by rfl) (hn : ks.Nodup := by decide) : Con G rel r f rel' ρ σ Q :=
  fun A bs im s a hA hS hr => h A bs im s a hA (hS.rho hs (he ▸ hn)) hr
noncomputable abbrev nsHF : Names := [("x", .local), ("n", .local), ("i", .local)]
set_option maxHeartbeats 4000000 in
theorem heapify_spec {C : Cx} {p : Params} {n : Nat} {D : PV → Prop} {lt : PV → PV → Bool} (hf : FnAt C 227 (fdOf p 227)) (hf1 : FnAt C 241 (fdOf p 241)) (hf' : FnAt C 234 (fdOf p 234)) (hg : Sub glH C.gl) (hlt : LtOk C n D lt) (hlt' : LtOk C (n + 1) D lt) {H : Addr} {l : List PV} (hz : l.length ≤ 1000) (hD : ∀ x ∈ l, D x) :
    FnSpec C (n + 3) (.ref 227) [.ref H] [] [(H, .list l)] (fun r σ' => r = .none ∧ σ' = [(H, .list (heapifyP lt (l.length / 2) l))]) := by
  have hg1 : Sub [("_siftup", .ref 241), ("len", .con (.builtin "len")), ("range", .con (.type "range")), ("reversed", .con (.type "reversed"))] C.gl := .cons (hg _ (by walk_at "zm")) (.cons (hg _ (by walk_at "zm")) (.cons (hg _ (by walk_at "zm")) (.cons (hg _ (by walk_at "zm")) .nil)))
  have hg2 : Sub [("_siftdown", .ref 234), ("len", .con (.builtin "len"))] C.gl := .cons (hg _ (by walk_at "zm")) (.cons (hg _ (by walk_at "zm")) .nil)
  refine FnSpec.of (body := ?bd) ["x"] [.ref H] nsHF [] [("_siftup", .ref 241), ("len", .con (.builtin "len")), ("range", .con (.type "range")), ("reversed", .con (.type "reversed"))] (sc := ?sc) hf ?hb ?hsc ?hgl ?hbi ?hcl ?hok hg1 rfl ?_ ?_
  case hb => with_unfolding_all rfl
  case hsc => with_unfolding_all rfl
  case hgl => with_unfolding_all rfl
  case hbi => with_unfolding_all rfl
  case hcl => with_unfolding_all rfl
  case hok => kernel_rfl
  · intro im s vs kvs hk hv hkw
    obtain ⟨v, rfl, h1⟩ := one_v hv
    have : kvs = [] := by have := hkw.1; simpa using this
    subst this
    have e : bindArgs (fdOf p 227) ⟨[v], []⟩ = pure ((["x"].map Str.ofString).zip [v]) := by kernel_rfl
    refine ⟨[v], hv, ?_⟩
    intro M A E Q h
    rw [e]
    exact wpAny_pure h
  · intro env κ
    have hm : ((l.length : Int) / 2) = ((l.length / 2 : Nat) : Int) := by omega
    show Ex _ _ [("_siftup", .ref 241), ("len", .con (.builtin "len")), ("range", .con (.type "range")), ("reversed", .con (.type "reversed")), ("x", .ref H)] _ _
    refine Ex.cons <| Ex1.asg <| Ev.call (by walk_at "zm") <| EvL.cons <| Ev.name (by walk_at "zm") <| EvL.nil <| CallP.lenM (by walk_at "zm") (by omega) <| As.name (by walk_at "zm") (by walk_at "zs") ?_
    refine Ex.cons <| Ex1.for <| Ev.call (by walk_at "zm") <| EvL.cons <| Ev.call (by walk_at "zm") <| EvL.cons <| Ev.binop <| Ev.name (by walk_at "zm") <| Ev.int <| Op2.fdiv (by omega) (by omega) <| EvL.nil <| CallP.range1 <| EvL.nil <| CallP.reversed (n := l.length / 2) (by rw [hm]; exact revSmall1 (by omega)) (by rw [hm]; have := rangeSize1 0 (l.length / 2); rw [Int.zero_add] at this; exact this) fun I => ⟨_, [], [(H, .list l)], _, ItSrc.rit, fun _ h => h, .inr rfl, List.nodup_nil, ?_⟩
    refine ForT.inv (fun k ρ σ => ∃ l', σ = [(H, LO.list l')] ∧ Sub [("_siftup", .ref 241), ("x", .ref H)] ρ ∧ l'.length = l.length ∧ (∀ x ∈ l', D x) ∧ heapifyP lt (l.length / 2 - k) l' = heapifyP lt (l.length / 2) l) _ 0 ?_ ?_ ?_
    · rintro i q ρ σ hq ⟨l', rfl, hs, h1, h2, h3⟩
      obtain ⟨hi, rfl⟩ := rints_get hq
      obtain ⟨j, hj⟩ : ∃ j, l.length / 2 - (0 + i) = j + 1 := ⟨l.length / 2 - i - 1, by omega⟩
      rw [hj] at h3
      refine Con.rho2 ["_siftup", "x"] hs ?_
      refine As.nameN (j := (j : Int)) (by omega) (by walk_at "zm") (by walk_at "zs") ?_
      refine Ex.cons <| Ex1.expr <| Ev.call (by walk_at "zm") <| EvL.cons <| Ev.name (by walk_at "zm") <| EvL.cons <| Ev.name (by walk_at "zm") <| EvL.nil <| CallP.of (φ := []) (siftup_spec (p := p) hf1 hf' hg2 hlt hlt' (by omega) (by omega) h2) (fun _ h => h) (.inr rfl) ?_
      rintro r σ' ⟨rfl, rfl⟩
      refine ⟨rfl, Ex.nil ?_⟩
      refine ⟨_, rfl, .cons (by walk_at "zm") (.cons (by walk_at "zm") .nil), by rw [siftUp_len]; exact h1, siftUp_all (by omega) h2, ?_⟩
      rw [← h3, show l.length / 2 - (0 + i + 1) = j by omega]; rfl
    · exact ⟨l, rfl, .cons (by walk_at "zm") (.cons (by walk_at "zm") .nil), rfl, hD, rfl⟩
    · rintro ρ σ ⟨l', rfl, hs, h1, h2, h3⟩
      rw [rints_len, show l.length / 2 - (0 + l.length / 2) = 0 by omega] at h3
      refine Ex.nil ⟨rfl, ?_⟩
      rw [← h3]; rfl
end Mine
end
section
open PySem PySem.W PyProof.Rows PySem.Calls
set_option Elab.async false
set_option maxRecDepth 100000
namespace Mine
local macro_rules | `(tactic| walk_at "zm") => `(tactic| repeat (first | exact List.Mem.head _ | apply List.Mem.tail))
local macro_rules | `(tactic| walk_at "zs") => `(tactic| repeat (first | exact SetR.head | exact SetR.nil | (apply SetR.tl; decide)))

/-- what is known of the class of headers -/
structure HdrK (C : Cx) (p : Params) (cN cV : Array Nat) : Prop where
  cls : ClsOk C.K 171
  fget : findIn C.K (.ref 171) (Str.ofString "get") = some (some (.ref 118))
  fconv : findIn C.K (.ref 171) (Str.ofString "_convert_string_type") = some (some (.ref 70))
  fset : findIn C.K (.ref 171) (Str.ofString "setdefault") = some (some (.ref 161))
  finit : findIn C.K (.ref 171) (Str.ofString "__init__") = some (some (.ref 63))
  fhd : findIn C.K (.ref 171) (Str.ofString "_headers") = some none
  ftk : takerIn C.K 171 (Str.ofString "_headers") = some none
  tget : typeIn C.K (.ref 118) = some (.type "function")
  tconv : typeIn C.K (.ref 70) = some (.type "function")
  tset : typeIn C.K (.ref 161) = some (.type "function")
  tinit : typeIn C.K (.ref 63) = some (.type "function")
  keep : keepIn C.K (.ref 171) = true
  reN : ReAt C.K 43 cN
  reV : ReAt C.K 48 cV
  conv : FnAt C 70 (fdOf p 70)
  get : FnAt C 118 (fdOf p 118)
  set : FnAt C 161 (fdOf p 161)
  init : FnAt C 63 (fdOf p 63)
  gl : Sub [("type", .con (.type "type")), ("str", .con (.type "str")), ("list", .con (.type "list")), ("_name_disallowed_re", .con (.ref 43)), ("_value_disallowed_re", .con (.ref 48))] C.gl
noncomputable abbrev nsCV : Names := [("self", .local), ("value", .local), ("name", .local), ("regex", .local)]
theorem kw1 {im : PM} {x : String} {q : PV} {kvs : List (Str × Value)} (h : KwR im [(x, q)] kvs) : ∃ v, kvs = [(Str.ofString x, v)] ∧ VR im q v := by
  obtain ⟨h1, h2⟩ := h
  match kvs, h1 with
  | [(k, v)], h1 =>
    simp only [List.map_cons, List.map_nil, List.cons.injEq, and_true] at h1
    obtain ⟨v', e, hv⟩ := one_v h2
    simp only [List.map_cons, List.map_nil, List.cons.injEq, and_true] at e
    subst e; subst h1
    exact ⟨v, rfl, hv⟩
set_option maxHeartbeats 4000000 in
theorem conv_spec {C : Cx} {p : Params} {n : Nat} {cN cV : Array Nat} (K : HdrK C p cN cV) {me : PV} {l : List Nat} {b : Bool} (hm : missB (if b then cN else cV) l = true) (hz : l.length ≤ 1000) :
    FnSpec C (n + 1) (.ref 70) [me, .str l] [("name", .bool b)] [] (fun r σ' => r = .str l ∧ σ' = []) := by
  have hg : Sub [("type", .con (.type "type")), ("str", .con (.type "str")), ("_name_disallowed_re", .con (.ref 43)), ("_value_disallowed_re", .con (.ref 48))] C.gl :=
    .cons (K.gl _ (by walk_at "zm")) (.cons (K.gl _ (by walk_at "zm")) (.cons (K.gl _ (by walk_at "zm")) (.cons (K.gl _ (by walk_at "zm")) .nil)))
  refine FnSpec.of (body := ?bd) ["self", "value", "name"] [me, .str l, .bool b] nsCV [] [("type", .con (.type "type")), ("str", .con (.type "str")), ("_name_disallowed_re", .con (.ref 43)), ("_value_disallowed_re", .con (.ref 48))] (sc := ?sc) K.conv ?hb ?hsc ?hgl ?hbi ?hcl ?hok hg rfl ?_ ?_
  case hb => with_unfolding_all rfl
  case hsc => with_unfolding_all rfl
  case hgl => with_unfolding_all rfl
  case hbi => with_unfolding_all rfl
  case hcl => with_unfolding_all rfl
  case hok => kernel_rfl
  · intro im s vs kvs hk hv hkw
    obtain ⟨v, w, rfl, h1, h2⟩ := two_v hv
    obtain ⟨x, rfl, h3⟩ := kw1 hkw
    have e : bindArgs (fdOf p 70) ⟨[v, w], [(Str.ofString "name", x)]⟩ = pure ((["self", "value", "name"].map Str.ofString).zip [v, w, x]) := by kernel_rfl
    refine ⟨[v, w, x], .cons h1 (.cons h2 (.cons h3 .nil)), ?_⟩
    intro M A E Q h
    rw [e]
    exact wpAny_pure h
  · intro env κ
    show Ex _ _ [("type", .con (.type "type")), ("str", .con (.type "str")), ("_name_disallowed_re", .con (.ref 43)), ("_value_disallowed_re", .con (.ref 48)), ("self", me), ("value", .str l), ("name", .bool b)] _ _
    refine Ex.cons <| Ex1.if <| Ts.compare <| Ev.call (by walk_at "zm") <| EvL.cons <| Ev.name (by walk_at "zm") <| EvL.nil <| CallP.typeStr <| Ev.name (by walk_at "zm") <| Op2.isType <| TrueOf.bool ?_
    rw [show (Value.type "str" == Value.type "str") = true from by decide]
    show Ex _ _ _ _ _
    cases b with
    | true =>
      refine Ex.cons <| Ex1.asg <| Ev.ifexp <| Ts.plain <| Ev.name (by walk_at "zm") <| TrueOf.bool ?_
      show Ev _ _ _ _ _
      refine Ev.name (by walk_at "zm") <| As.name (by walk_at "zm") (by walk_at "zs") ?_
      refine Ex.cons <| Ex1.if <| Ts.plain <| Ev.meth <| Ev.name (by walk_at "zm") ⟨_, _, MethP.search K.reN, EvL.cons <| Ev.name (by walk_at "zm") <| EvL.nil <| CallP.search K.reN hm (by omega) <| TrueOf.none ?_⟩
      show Ex _ _ _ _ _
      refine Ex.nil ?_
      refine Ex.cons <| Ex1.ret <| Ev.name (by walk_at "zm") ⟨rfl, rfl⟩
    | false =>
      refine Ex.cons <| Ex1.asg <| Ev.ifexp <| Ts.plain <| Ev.name (by walk_at "zm") <| TrueOf.bool ?_
      show Ev _ _ _ _ _
      refine Ev.name (by walk_at "zm") <| As.name (by walk_at "zm") (by walk_at "zs") ?_
      refine Ex.cons <| Ex1.if <| Ts.plain <| Ev.meth <| Ev.name (by walk_at "zm") ⟨_, _, MethP.search K.reV, EvL.cons <| Ev.name (by walk_at "zm") <| EvL.nil <| CallP.search K.reV hm (by omega) <| TrueOf.none ?_⟩
      show Ex _ _ _ _ _
      refine Ex.nil ?_
      refine Ex.cons <| Ex1.ret <| Ev.name (by walk_at "zm") ⟨rfl, rfl⟩
end Mine
end
section
open PySem PySem.W PyProof.Rows PySem.Calls
set_option Elab.async false
set_option maxRecDepth 100000
namespace Mine
local macro_rules | `(tactic| walk_at "zm") => `(tactic| repeat (first | exact List.Mem.head _ | apply List.Mem.tail))
local macro_rules | `(tactic| walk_at "zs") => `(tactic| repeat (first | exact SetR.head | exact SetR.nil | (apply SetR.tl; decide)))
theorem binds_lit {s : Shared} {fd lit : FuncData} {args : Args} {b : List (Str × Value)} (e : fd = lit) (h : BindsTo s lit args b) : BindsTo s fd args b := e ▸ h

noncomputable abbrev Hdrs := List (List Nat × List Nat)
noncomputable def hdrP (h : List Nat × List Nat) : PV := .tup [.str h.1, .str h.2]
/-- what is asked of the names and values in use -/
structure NamesOk (cN cV : Array Nat) (N V : List Nat → Prop) (low : List Nat → List Nat) : Prop where
  low : ∀ k, N k → Txt.lower (S k) = S (low k) ∧ k.length ≤ 1000 ∧ (low k).length ≤ 1000 ∧ missB cN k = true ∧ missB cN (low k) = true
  val : ∀ v, V v → v.length ≤ 1000 ∧ missB cV v = true
noncomputable def getP (low : List Nat → List Nat) (hs : Hdrs) (key : List Nat) : PV := match hs.find? (fun h => low h.1 == key) with | some h => .str h.2 | none => .none
noncomputable abbrev nsGT : Names := [("self", .local), ("name", .local), ("default", .local), ("k", .local), ("v", .local)]
noncomputable abbrev hdO (L : Addr) : PV := .obj 171 [("_headers", .ref L)]
set_option maxHeartbeats 4000000 in
theorem get_spec {C : Cx} {p : Params} {n : Nat} {cN cV : Array Nat} {N V : List Nat → Prop} {low : List Nat → List Nat} (K : HdrK C p cN cV) (O : NamesOk cN cV N V low) (hd : C.K.lookup 111 = some (tupO [.none] 0)) {L : Addr} {hs : Hdrs} {x : List Nat} (hx : N x) (hN : ∀ h ∈ hs, N h.1) (hz : hs.length ≤ 1000) :
    FnSpec C (n + 2) (.ref 118) [hdO L, .str x] [] [(L, .list (hs.map hdrP))] (fun r σ' => r = getP low hs (low x) ∧ σ' = [(L, .list (hs.map hdrP))]) := by
  refine FnSpec.of (body := ?bd) ["self", "name", "default"] [hdO L, .str x, .none] nsGT [] [] (sc := ?sc) K.get ?hb ?hsc ?hgl ?hbi ?hcl ?hok (fun p hp => nomatch hp) rfl ?_ ?_
  case hb => with_unfolding_all rfl
  case hsc => with_unfolding_all rfl
  case hgl => with_unfolding_all rfl
  case hbi => with_unfolding_all rfl
  case hcl => with_unfolding_all rfl
  case hok => kernel_rfl
  · intro im s vs kvs hk hv hkw
    obtain ⟨v, w, rfl, h1, h2⟩ := two_v hv
    have : kvs = [] := by have := hkw.1; simpa using this
    subst this
    refine ⟨[v, w, .none], .cons h1 (.cons h2 (.cons .none .nil)), ?_⟩
    refine binds_lit (lit := ?lit) ?e ?_
    case e => with_unfolding_all rfl
    refine BindsTo.of_defaults (k := ?k) rfl (hk _ _ hd) rfl ?h1 ?h2
    case h1 => rfl
    case h2 => kernel_rfl
  · intro env κ
    obtain ⟨o1, o2, o3, o4, o5⟩ := O.low x hx
    show Ex _ _ [("self", hdO L), ("name", .str x), ("default", .none)] _ _
    refine Ex.cons <| Ex1.asg <| Ev.methK ["name"] <| Ev.name (by walk_at "zm") ⟨_, _, MethP.obj K.cls K.fconv K.tconv (by decide), EvL.cons <| Ev.meth <| Ev.name (by walk_at "zm") ⟨_, _, MethP.str F.slot_str_lower F.type_str_lower, EvL.nil <| CallP.lower o1 (by omega) <| EvL.nil <| EvK.cons <| Ev.bool <| EvK.nil ⟨rfl, CallP.of (φ := [(L, .list (hs.map hdrP))]) (conv_spec K (b := true) o5 (by omega)) (by simp) (.inr (by simp)) ?_⟩⟩⟩
    rintro r σ' ⟨rfl, rfl⟩
    refine As.name (by walk_at "zm") (by walk_at "zs") ?_
    refine Ex.cons <| Ex1.for <| Ev.attr <| Ev.name (by walk_at "zm") <| Op1.field K.cls K.fhd rfl ⟨[(L, .list (hs.map hdrP))], [(L, .list (hs.map hdrP))], [], _, ItSrc.led, fun _ h => h, .inr rfl, by simp, ?_⟩
    refine ForT.inv (fun k ρ σ => σ = [] ∧ Sub [("name", .str (low x)), ("default", .none)] ρ ∧ ∀ h ∈ hs.take k, (low h.1 == low x) = false) _ 0 ?_ ?_ ?_
    · rintro i q ρ σ hq ⟨rfl, hs', h1⟩
      rw [List.getElem?_map] at hq
      cases e : hs[i]? with
      | none => rw [e] at hq; cases hq
      | some h =>
        rw [e] at hq
        cases hq
        have hmem := List.mem_of_getElem? e
        obtain ⟨l1, l2, l3, l4, l5⟩ := O.low h.1 (hN h hmem)
        refine Con.rho2 ["name", "default"] hs' ?_
        refine As.tup (ps := [.str h.1, .str h.2]) (As.name (by walk_at "zm") (by walk_at "zs") <| As.name (by walk_at "zm") (by walk_at "zs") ?_) rfl rfl
        refine Ex.cons <| Ex1.if <| Ts.compare <| Ev.meth <| Ev.name (by walk_at "zm") ⟨_, _, MethP.str F.slot_str_lower F.type_str_lower, EvL.nil <| CallP.lower l1 (by omega) <| Ev.name (by walk_at "zm") <| Op2.eqS <| TrueOf.bool ?_⟩
        refine ite_b (fun hl => ?_) (fun hl => ?_)
        · refine Ex.cons <| Ex1.ret <| Ev.name (by walk_at "zm") ?_
          refine ⟨?_, rfl⟩
          unfold getP
          have : hs.find? (fun h => low h.1 == low x) = some h := by
            rw [List.find?_eq_some_iff_getElem]
            obtain ⟨hi, he⟩ := List.getElem?_eq_some_iff.mp e
            refine ⟨hl, i, hi, he, fun j hj => ?_⟩
            have := h1 hs[j] (by rw [List.mem_take_iff_getElem]; exact ⟨j, by omega, rfl⟩)
            rw [this]; rfl
          rw [this]
        · refine Ex.nil ?_
          refine Ex.nil ?_
          refine ⟨rfl, .cons (by walk_at "zm") (.cons (by walk_at "zm") .nil), fun g hg => ?_⟩
          rw [show 0 + i + 1 = i + 1 by omega, List.take_add_one, e] at hg
          rcases List.mem_append.mp hg with hg | hg
          · exact h1 g (by rw [show 0 + i = i by omega]; exact hg)
          · rw [List.mem_singleton.mp hg]; exact hl
    · exact ⟨rfl, .cons (by walk_at "zm") (.cons (by walk_at "zm") .nil), fun h hh => by simp at hh⟩
    · rintro ρ σ ⟨rfl, hs', h1⟩
      rw [List.length_map, Nat.zero_add, List.take_length] at h1
      refine Tr.rho2 ["name", "default"] hs' ?_
      refine Ex.cons <| Ex1.ret <| Ev.name (by walk_at "zm") ?_
      refine ⟨?_, rfl⟩
      unfold getP
      rw [List.find?_eq_none.mpr fun h hh => by rw [h1 h hh]; decide]
end Mine
end
section
open PySem PySem.W PyProof.Rows PySem.Calls
set_option Elab.async false
set_option maxRecDepth 100000
namespace Mine
local macro_rules | `(tactic| walk_at "zm") => `(tactic| repeat (first | exact List.Mem.head _ | apply List.Mem.tail))
local macro_rules | `(tactic| walk_at "zs") => `(tactic| repeat (first | exact SetR.head | exact SetR.nil | (apply SetR.tl; decide)))
/-- what setdefault gives, and the table behind -/
noncomputable def setP (low : List Nat → List Nat) (hs : Hdrs) (x v : List Nat) : List Nat × Hdrs := match hs.find? (fun h => low h.1 == low x) with | some h => (h.2, hs) | none => (v, hs ++ [(x, v)])
noncomputable abbrev nsSE : Names := [("self", .local), ("name", .local), ("value", .local), ("result", .local)]
set_option maxHeartbeats 4000000 in
theorem set_spec {C : Cx} {p : Params} {n : Nat} {cN cV : Array Nat} {N V : List Nat → Prop} {low : List Nat → List Nat} (K : HdrK C p cN cV) (O : NamesOk cN cV N V low) (hd : C.K.lookup 111 = some (tupO [.none] 0)) {L : Addr} {hs : Hdrs} {x v : List Nat} (hx : N x) (hv : V v) (hN : ∀ h ∈ hs, N h.1) (hz : hs.length ≤ 1000) :
    FnSpec C (n + 3) (.ref 161) [hdO L, .str x, .str v] [] [(L, .list (hs.map hdrP))] (fun r σ' => r = .str (setP low hs x v).1 ∧ σ' = [(L, .list ((setP low hs x v).2.map hdrP))]) := by
  refine FnSpec.of (body := ?bd) ["self", "name", "value"] [hdO L, .str x, .str v] nsSE [] [] (sc := ?sc) K.set ?hb ?hsc ?hgl ?hbi ?hcl ?hok (fun p hp => nomatch hp) rfl ?_ ?_
  case hb => with_unfolding_all rfl
  case hsc => with_unfolding_all rfl
  case hgl => with_unfolding_all rfl
  case hbi => with_unfolding_all rfl
  case hcl => with_unfolding_all rfl
  case hok => kernel_rfl
  · intro im s vs kvs hk hv hkw
    obtain ⟨v, w, x, rfl, h1, h2, h3⟩ := three_v hv
    have : kvs = [] := by have := hkw.1; simpa using this
    subst this
    have e : bindArgs (fdOf p 161) ⟨[v, w, x], []⟩ = pure ((["self", "name", "value"].map Str.ofString).zip [v, w, x]) := by kernel_rfl
    refine ⟨[v, w, x], hv, ?_⟩
    intro M A E Q h
    rw [e]
    exact wpAny_pure h
  · intro env κ
    obtain ⟨o1, o2, o3, o4, o5⟩ := O.low x hx
    obtain ⟨w1, w2⟩ := O.val v hv
    show Ex _ _ [("self", hdO L), ("name", .str x), ("value", .str v)] _ _
    refine Ex.cons <| Ex1.asg <| Ev.meth <| Ev.name (by walk_at "zm") ⟨_, _, MethP.obj K.cls K.fget K.tget (by decide), EvL.cons <| Ev.name (by walk_at "zm") <| EvL.nil <| CallP.of (φ := []) (get_spec K O hd hx hN hz) (fun _ h => h) (.inr rfl) ?_⟩
    rintro r σ' ⟨rfl, rfl⟩
    refine As.name (by walk_at "zm") (by walk_at "zs") ?_
    unfold setP getP
    cases hs.find? (fun h => low h.1 == low x) with
    | none =>
      refine Ex.cons <| Ex1.if <| Ts.compare <| Ev.name (by walk_at "zm") <| Ev.none <| Op2.isNone nn_none <| TrueOf.bool ?_
      show Ex _ _ _ _ _
      refine Ex.cons <| Ex1.expr <| Ev.meth <| Ev.attr <| Ev.name (by walk_at "zm") <| Op1.field K.cls K.fhd rfl ⟨_, _, MethP.led (by walk_at "zm") F.slot_list_append F.type_list_append, EvL.cons <| Ev.tuple <| EvL.cons <| Ev.methK ["name"] <| Ev.name (by walk_at "zm") ⟨_, _, MethP.obj K.cls K.fconv K.tconv (by decide), EvL.cons <| Ev.name (by walk_at "zm") <| EvL.nil <| EvK.cons <| Ev.bool <| EvK.nil ⟨rfl, CallP.of (φ := [(L, .list (hs.map hdrP))]) (conv_spec K (b := true) o4 (by omega)) (by simp) (.inr (by simp)) ?_⟩⟩⟩
      rintro r σ' ⟨rfl, rfl⟩
      refine EvL.cons <| Ev.methK ["name"] <| Ev.name (by walk_at "zm") ⟨_, _, MethP.obj K.cls K.fconv K.tconv (by decide), EvL.cons <| Ev.name (by walk_at "zm") <| EvL.nil <| EvK.cons <| Ev.bool <| EvK.nil ⟨rfl, CallP.of (φ := [(L, .list (hs.map hdrP))]) (conv_spec K (b := false) w2 (by omega)) (by simp) (.inr (by simp)) ?_⟩⟩
      rintro r σ' ⟨rfl, rfl⟩
      refine EvL.nil ⟨by simp, EvL.nil <| CallP.append .head (by rw [List.length_map]; omega) ⟨rfl, ?_⟩⟩
      refine Ex.cons <| Ex1.ret <| Ev.name (by walk_at "zm") ⟨rfl, ?_⟩
      simp [hdrP]
    | some h =>
      refine Ex.cons <| Ex1.if <| Ts.compare <| Ev.name (by walk_at "zm") <| Ev.none <| Op2.isNone nn_str <| TrueOf.bool ?_
      show Ex _ _ _ _ _
      refine Ex.cons <| Ex1.ret <| Ev.name (by walk_at "zm") ⟨rfl, rfl⟩
noncomputable abbrev nsIN : Names := [("self", .local), ("headers", .local), ("k", .local), ("v", .local)]
set_option maxHeartbeats 4000000 in
theorem init_spec {C : Cx} {p : Params} {n : Nat} {cN cV : Array Nat} (K : HdrK C p cN cV) (hd : C.K.lookup 56 = some (tupO [.none] 0)) {x d : Addr} :
    FnSpec C (n + 1) (.ref 63) [.ref x] [] [(x, .ins 171 d), (d, .att [])] (fun r σ' => r = .none ∧ ∃ l σ'', σ' = (x, .ins 171 d) :: (d, .att l) :: σ'' ∧ ∃ D, l = [("_headers", .ref D)] ∧ σ'' = [(D, .list [])]) := by
  have hg : Sub [("type", .con (.type "type")), ("list", .con (.type "list"))] C.gl := .cons (K.gl _ (by walk_at "zm")) (.cons (K.gl _ (by walk_at "zm")) .nil)
  refine FnSpec.of (body := ?bd) ["self", "headers"] [.ref x, .none] nsIN [] [("type", .con (.type "type")), ("list", .con (.type "list"))] (sc := ?sc) K.init ?hb ?hsc ?hgl ?hbi ?hcl ?hok hg rfl ?_ ?_
  case hb => with_unfolding_all rfl
  case hsc => with_unfolding_all rfl
  case hgl => with_unfolding_all rfl
  case hbi => with_unfolding_all rfl
  case hcl => with_unfolding_all rfl
  case hok => kernel_rfl
  · intro im s vs kvs hk hv hkw
    obtain ⟨v, rfl, h1⟩ := one_v hv
    have : kvs = [] := by have := hkw.1; simpa using this
    subst this
    refine ⟨[v, .none], .cons h1 (.cons .none .nil), ?_⟩
    refine binds_lit (lit := ?lit) ?e ?_
    case e => with_unfolding_all rfl
    refine BindsTo.of_defaults (k := ?k) rfl (hk _ _ hd) rfl ?h1 ?h2
    case h1 => rfl
    case h2 => kernel_rfl
  · intro env κ
    show Ex _ _ [("type", .con (.type "type")), ("list", .con (.type "list")), ("self", .ref x), ("headers", .none)] _ _
    refine Ex.cons <| Ex1.asg <| Ev.ifexp <| Ts.compare <| Ev.name (by walk_at "zm") <| Ev.none <| Op2.isNotNone nn_none <| TrueOf.bool ?_
    show Ev _ _ _ _ _
    refine Ev.listM <| EvL.nil ⟨by simp, fun D => As.name (by walk_at "zm") (by walk_at "zs") ?_⟩
    refine Ex.cons <| Ex1.if <| Ts.compare <| Ev.call (by walk_at "zm") <| EvL.cons <| Ev.name (by walk_at "zm") <| EvL.nil <| CallP.typeLed (by walk_at "zm") <| Ev.name (by walk_at "zm") <| Op2.isNotType <| TrueOf.bool ?_
    rw [show (!(Value.type "list" == Value.type "list")) = false from by decide]
    show Ex _ _ _ _ _
    refine Ex.nil ?_
    refine Ex.cons <| Ex1.setField <| Ev.name (by walk_at "zm") <| Ev.name (by walk_at "zm") ⟨171, x, d, _, rfl, K.cls, K.ftk, by walk_at "zm", .tail (.tail .head), ?_⟩
    refine Ex.cons <| Ex1.if <| Ts.plain <| Ev.bool <| TrueOf.bool ?_
    show Ex _ _ _ _ _
    refine Ex.cons <| Ex1.for <| Ev.name (by walk_at "zm") ⟨[(D, .list [])], [(D, .list [])], [(x, .ins 171 d), (d, .att [("_headers", .ref D)])], [], ItSrc.led, fun _ h => h, .inr rfl, by simp, ?_⟩
    refine Ex.nil ?_
    refine Tr.led (σ' := [(x, .ins 171 d), (d, .att [("_headers", .ref D)]), (D, .list [])]) (by intro q hq; simp at hq ⊢; rcases hq with h | h | h <;> simp [h]) (fun hn => ?_) ?_
    · have e : ([(x, LO.ins 171 d), (d, .att [("_headers", .ref D)]), (D, .list [])].map (·.1)) = [x, d, D] := rfl
      have e2 : (([(D, LO.list [])] ++ [(x, LO.ins 171 d), (d, .att [("_headers", .ref D)])]).map (·.1)) = [D, x, d] := rfl
      rw [e2] at hn
      rw [e]
      simp at hn ⊢
      exact ⟨⟨hn.2, Ne.symm hn.1.1⟩, Ne.symm hn.1.2⟩
    · exact Ex.nil ⟨rfl, _, _, rfl, D, rfl, rfl⟩
theorem new_spec {C : Cx} {p : Params} {n : Nat} {cN cV : Array Nat} (K : HdrK C p cN cV) (hd : C.K.lookup 56 = some (tupO [.none] 0)) :
    FnSpec C (n + 2) (.ref 171) [] [] [] (fun r σ' => ∃ D, r = hdO D ∧ σ' = [(D, .list [])]) :=
  FnSpec.make K.cls K.finit K.tinit K.keep fun x d => FnSpec.mono (init_spec (n := n) K hd) fun r σ' ⟨h1, l, σ'', h2, D, h3, h4⟩ => ⟨h1, l, σ'', h2, D, by rw [h3], h4⟩
end Mine
end
section
open PySem PySem.W PyProof.Rows PySem.Calls
set_option Elab.async false
set_option maxRecDepth 100000
namespace Mine
local macro_rules | `(tactic| walk_at "zm") => `(tactic| repeat (first | exact List.Mem.head _ | apply List.Mem.tail))
local macro_rules | `(tactic| walk_at "zs") => `(tactic| repeat (first | exact SetR.head | exact SetR.nil | (apply SetR.tl; decide)))
theorem TsIfs.mono {G : Gx} : ∀ (cs : List Expr) {ρ : Rho} {σ : Led} {Q Q' : Bool → Rho → Led → Prop}, (∀ b r s, Q b r s → Q' b r s) → TsIfs G cs ρ σ Q → TsIfs G cs ρ σ Q'
  | [], _, _, _, _, k, h => k _ _ _ h
  | c :: cs, _, _, _, _, k, h => Tr.mono h fun b r s h => by
    cases b with
    | true => exact TsIfs.mono cs k h
    | false => exact k _ _ _ h
noncomputable def InnerMono (inner : List PV → Rho → Led → (List PV → Rho → Led → Prop) → Prop) : Prop := ∀ acc ρ σ (K K' : List PV → Rho → Led → Prop), (∀ a r s, K a r s → K' a r s) → inner acc ρ σ K → inner acc ρ σ K'
theorem compItems.inv {G : Gx} {g : Comprehension} {inner : List PV → Rho → Led → (List PV → Rho → Led → Prop) → Prop} (hm : InnerMono inner) {K : List PV → Rho → Led → Prop} (I : Nat → List PV → Rho → Led → Prop) : ∀ (items : List PV) (k : Nat) {acc : List PV} {ρ : Rho} {σ : Led},
    (∀ i x acc ρ σ, items[i]? = some x → I (k + i) acc ρ σ → As G g.target x ρ σ (fun ρ₁ σ₁ => TsIfs G g.ifs ρ₁ σ₁ (fun ok ρ₂ σ₂ => if ok then inner acc ρ₂ σ₂ (fun acc' ρ₃ σ₃ => I (k + i + 1) acc' ρ₃ σ₃) else I (k + i + 1) acc ρ₂ σ₂))) →
    I k acc ρ σ → (∀ acc ρ σ, I (k + items.length) acc ρ σ → K acc ρ σ) → compItems G g inner items acc ρ σ K
  | [], k, acc, ρ, σ, _, h, fin => fin _ _ _ h
  | x :: items, k, acc, ρ, σ, turn, h, fin => by
    unfold compItems
    have next : ∀ acc ρ₂ σ₂, I (k + 1) acc ρ₂ σ₂ → compItems G g inner items acc ρ₂ σ₂ K := fun acc ρ₂ σ₂ hI => compItems.inv hm I items (k + 1) (fun i q acc ρ σ hi hI => by
      have := turn (i + 1) q acc ρ σ hi (by rw [show k + (i + 1) = k + 1 + i by omega]; exact hI)
      rw [show k + (i + 1) = k + 1 + i by omega] at this; exact this) hI (fun acc ρ σ hI => fin acc ρ σ (by rw [List.length_cons, show k + (items.length + 1) = k + 1 + items.length by omega]; exact hI))
    refine Con.mono (turn 0 x acc ρ σ rfl h) fun _ ρ₁ σ₁ h₁ => TsIfs.mono _ (fun b r s h₂ => ?_) h₁
    cases b with
    | true => exact hm _ _ _ _ _ (fun a r s h => next a r s h) h₂
    | false => exact next _ _ _ h₂
theorem compInner_mono {G : Gx} {elt : Expr} : InnerMono (compInner G elt []) := fun acc ρ σ K K' k h => Tr.mono h fun p r s ⟨h1, h2⟩ => ⟨h1, k _ _ _ h2⟩
section
variable {G : Gx} {ρ ρ' : Rho} {σ : Led}
theorem As.nameCN {y : String} {pos : Pos} {i j : Int} {Q : Rho → Led → Prop} (he : i = j) (hy : (y, NameKind.cell) ∈ G.ns) (u : SetR y (.int j) ρ ρ') (h : Q ρ' σ) : As G (.Name (Str.ofString y) pos) (.int i) ρ σ Q := by
  subst he; exact As.nameC hy u h
theorem Op2.conv {f : Value → Value → Sem Value} {a b : PV} {i j : Int} {Q : PV → Rho → Led → Prop} (h : Op2 G f a b ρ σ Q) : Op2 G f a b ρ σ Q := h
end
theorem small1 {a b : Int} (h1 : -1000000 ≤ a) (h2 : a ≤ 1000000) (h3 : -1000000 ≤ b) (h4 : b ≤ 1000000) : Builtin.Range.small a b 1 = true := by
  have e : 0 ≤ Builtin.Range.rangeSize a b 1 ∧ Builtin.Range.rangeSize a b 1 ≤ 2000000 := by
    unfold Builtin.Range.rangeSize
    rw [if_pos (by decide)]
    split
    · rw [Int.ediv_one]; omega
    · omega
  have f : ∀ i : Int, -3000000 ≤ i → i ≤ 3000000 → Builtin.Range.rangeFitsLong i = true := fun i h1 h2 => by
    unfold Builtin.Range.rangeFitsLong
    simp only [Bool.and_eq_true, decide_eq_true_eq]
    constructor <;> omega
  unfold Builtin.Range.small
  rw [f a (by omega) (by omega), f b (by omega) (by omega), f 1 (by omega) (by omega), f (Builtin.Range.rangeSize a b 1) (by omega) (by omega), if_pos (by decide), f (b + (1 - 1)) (by omega) (by omega)]
  simp
theorem rangeSizeN {a b : Int} {m : Nat} (h : b = a + m) : Builtin.Range.rangeSize a b 1 = (m : Int) := by subst h; exact rangeSize1 a m
/-- a word by its number -/
noncomputable def wordP (x : Nat) : List Nat := (List.range (x % 5 + 1)).map fun k => 97 + x / 5 / 3 ^ k % 3
theorem abc_at : ∀ r, r < 3 → (cs "abc")[r]? = some (97 + r) := by decide
theorem abc_len : (cs "abc").length = 3 := by decide
theorem sum_ones : ∀ l : List Nat, (l.map fun _ => 1).sum = l.length
  | [] => rfl
  | _ :: r => by rw [List.map_cons, List.sum_cons, sum_ones r, List.length_cons]; omega
theorem foldl_ones : ∀ (r acc : List Nat), (r.map fun c => [c]).foldl (fun acc p => acc ++ cs "" ++ p) acc = acc ++ r
  | [], acc => by simp
  | c :: r, acc => by
    rw [List.map_cons, List.foldl_cons, foldl_ones r, show cs "" = [] by decide]; simp
theorem pyJoin_ones (l : List Nat) : pyJoin (cs "") (l.map fun c => [c]) = l := by
  cases l with
  | nil => rfl
  | cons c r => show (r.map fun c => [c]).foldl _ [c] = _; rw [foldl_ones]; rfl
noncomputable abbrev nsLW : Names := [("number", .local), ("x", .cell)]
set_option maxHeartbeats 4000000 in
theorem word_spec {C : Cx} {p : Params} {n : Nat} (hf : FnAt C 246 (fdOf p 246)) (hg : Sub [("range", .con (.type "range"))] C.gl) {i : Int} : FnSpec C (n + 1) (.ref 246) [.int i] [] [] (fun r σ' => r = .str (wordP (i % 1215).toNat) ∧ σ' = []) := by
  refine FnSpec.of (body := ?bd) ["number"] [.int i] nsLW ["x"] [("range", .con (.type "range"))] (sc := ?sc) hf ?hb ?hsc ?hgl ?hbi ?hcl ?hok hg rfl ?_ ?_
  case hb => with_unfolding_all rfl
  case hsc => with_unfolding_all rfl
  case hgl => with_unfolding_all rfl
  case hbi => with_unfolding_all rfl
  case hcl => with_unfolding_all rfl
  case hok => kernel_rfl
  · intro im s vs kvs hk hv hkw
    obtain ⟨v, rfl, h1⟩ := one_v hv
    have : kvs = [] := by have := hkw.1; simpa using this
    subst this
    have e : bindArgs (fdOf p 246) ⟨[v], []⟩ = pure ((["number"].map Str.ofString).zip [v]) := by kernel_rfl
    refine ⟨[v], hv, ?_⟩
    intro M A E Q h
    rw [e]
    exact wpAny_pure h
  · intro env κ
    generalize hx : (i % 1215).toNat = x
    have hxi : i % 1215 = (x : Int) := by omega
    have hx2 : x < 1215 := by omega
    show Ex _ _ [("range", .con (.type "range")), ("number", .int i)] _ _
    refine Ex.cons <| Ex1.asg <| Ev.binop <| Ev.name (by walk_at "zm") <| Ev.int <| Op2.fmod (by omega) <| As.nameCN hxi (by walk_at "zm") (by walk_at "zs") ?_
    refine Ex.cons <| Ex1.ret <| Ev.meth <| Ev.str ⟨_, _, MethP.str F.slot_str_join F.type_str_join, EvL.cons <| Ev.comp (hsc := ?hsc) <| Ev.call (by walk_at "zm") <| EvL.cons <| Ev.binop <| Ev.binop <| Ev.name (by walk_at "zm") <| Ev.int <| Op2.fmod (by omega) <| Ev.int <| Op2.add <| EvL.nil <| CallP.range1 ⟨[], [], [], _, [("k", .local)], [], [("x", .int x)], [], ItSrc.rng (n := x % 5 + 1) ?hs ?hn, fun _ h => h, .inr rfl, List.nodup_nil, ?hck, ?hrc, (fun _ h => nomatch h), ?_⟩⟩
    case hsc => kernel_rfl
    case hck => kernel_rfl
    case hrc => exact Sub.cons (by walk_at "zm") .nil
    case hs => exact small1 (by omega) (by omega) (by omega) (by omega)
    case hn => exact rangeSizeN (by omega)
    intro env' κ'
    refine compItems.inv compInner_mono (fun k acc ρ σ => σ = [] ∧ Sub [("x", .int x)] ρ ∧ acc = (List.range k).map fun k => PV.str [97 + x / 5 / 3 ^ k % 3]) _ 0 ?_ ?_ ?_
    · rintro k q acc ρ σ hq ⟨rfl, hs, rfl⟩
      obtain ⟨hk, rfl⟩ := rints_get hq
      refine Con.rho2 ["x"] hs ?_
      refine As.nameN (j := (k : Int)) (by omega) (by walk_at "zm") (by walk_at "zs") ?_
      show compInner _ _ _ _ _ _ _
      refine Ev.sub <| Ev.str <| Ev.binop <| Ev.binop <| Ev.binop <| Ev.name (by walk_at "zm") <| Ev.int <| Op2.fdiv (by omega) (by omega) <| Ev.binop <| Ev.int <| Ev.name (by walk_at "zm") <| Op2.pow (by omega) ?_ <| Op2.fdiv ?_ ?_ <| Ev.int <| Op2.fmod (by omega) <| Op2.itemS (c := 97 + x / 5 / 3 ^ k % 3) ?_ ?_ ?_ ?_ ⟨?_, rfl, .cons (by walk_at "zm") .nil, ?_⟩
      · rw [show Builtin.Int.intBits 3 = 2 by decide]; omega
      · rw [Int.toNat_natCast]; exact Int.pow_pos (by omega)
      · rw [Int.toNat_natCast]
        have : (3 : Int) ^ k ≤ 3 ^ 4 := by
          have h : 3 ^ k ≤ 3 ^ 4 := Nat.pow_le_pow_right (by omega) (by omega)
          exact_mod_cast h
        omega
      · rw [Int.toNat_natCast, abc_len]; omega
      · rw [Int.toNat_natCast, abc_len]; omega
      · rw [abc_len]; omega
      · rw [Int.toNat_natCast, abc_len]
        have he : (x : Int) / 5 / 3 ^ k % 3 = ((x / 5 / 3 ^ k % 3 : Nat) : Int) := by push_cast; rfl
        rw [he]
        have : pyIx ((x / 5 / 3 ^ k % 3 : Nat) : Int) 3 = x / 5 / 3 ^ k % 3 := by unfold pyIx; rw [if_neg (by omega)]; rfl
        rw [this]
        exact abc_at _ (Nat.mod_lt _ (by omega))
      · rw [List.length_map, List.length_range]; omega
      · rw [show 0 + k + 1 = k + 1 by omega, List.range_succ, List.map_append, show 0 + k = k by omega]; rfl
    · exact ⟨rfl, .cons (by walk_at "zm") .nil, rfl⟩
    · rintro acc ρ σ ⟨rfl, hs, rfl⟩
      rw [rints_len]
      refine EvL.nil <| CallP.joinL (ls := (wordP x).map fun c => [c]) ?_ ?_ ⟨?_, rfl⟩
      · unfold wordP; rw [List.map_map, List.map_map, Nat.zero_add]; rfl
      · rw [List.map_map, List.length_map]
        have h1 : ((wordP x).map (List.length ∘ fun c => [c])).sum = (wordP x).length := by
          have : ((wordP x).map (List.length ∘ fun c => [c])) = (wordP x).map fun _ => 1 := List.map_congr_left fun _ _ => rfl
          rw [this]; exact sum_ones _
        have h2 : (wordP x).length = x % 5 + 1 := by unfold wordP; rw [List.length_map, List.length_range]
        rw [h1, h2, show (cs "").length = 0 by decide]; omega
      · rw [pyJoin_ones]
end Mine
end
section
open PySem PySem.W PyProof.Rows PySem.Calls
set_option Elab.async false
set_option maxRecDepth 100000
namespace Mine
local macro_rules | `(tactic| walk_at "zm") => `(tactic| repeat (first | exact List.Mem.head _ | apply List.Mem.tail))
local macro_rules | `(tactic| walk_at "zs") => `(tactic| repeat (first | exact SetR.head | exact SetR.nil | (apply SetR.tl; decide)))
/-- signs that escape leaves as they are -/
structure PlainC (es : List DictEntry) (c : Nat) : Prop where
  lt : c < 128
  fi : tabFind es (c : Int) = none
  n1 : c ≠ 42
  n2 : c ≠ 63
  n3 : c ≠ 91
structure TrK (C : Cx) (p : Params) (es : List DictEntry) : Prop where
  tab : ∃ n, TabK C.K 189 es n
  allI : es.all intEntry = true
  esc : FnAt C 199 (fdOf p 199)
  tra : FnAt C 206 (fdOf p 206)
  joi : FnAt C 213 (fdOf p 213)
  top : FnAt C 187 (fdOf p 187)
  gl : Sub [("isinstance", .con (.builtin "isinstance")), ("str", .con (.type "str")), ("_special_chars_map", .con (.ref 189)), ("escape", .ref 199), ("len", .con (.builtin "len")), ("object", .con (.type "object")), ("_translate", .ref 206), ("_join_translated_parts", .ref 213)] C.gl
noncomputable abbrev nsES : Names := [("pattern", .local)]
set_option maxHeartbeats 4000000 in
theorem escape_spec {C : Cx} {p : Params} {n : Nat} {es : List DictEntry} (T : TrK C p es) {c : Nat} (hc : PlainC es c) : FnSpec C (n + 1) (.ref 199) [.str [c]] [] [] (fun r σ' => r = .str [c] ∧ σ' = []) := by
  have hg : Sub [("isinstance", .con (.builtin "isinstance")), ("str", .con (.type "str")), ("_special_chars_map", .con (.ref 189))] C.gl := .cons (T.gl _ (by walk_at "zm")) (.cons (T.gl _ (by walk_at "zm")) (.cons (T.gl _ (by walk_at "zm")) .nil))
  refine FnSpec.of (body := ?bd) ["pattern"] [.str [c]] nsES [] [("isinstance", .con (.builtin "isinstance")), ("str", .con (.type "str")), ("_special_chars_map", .con (.ref 189))] (sc := ?sc) T.esc ?hb ?hsc ?hgl ?hbi ?hcl ?hok hg rfl ?_ ?_
  case hb => with_unfolding_all rfl
  case hsc => with_unfolding_all rfl
  case hgl => with_unfolding_all rfl
  case hbi => with_unfolding_all rfl
  case hcl => with_unfolding_all rfl
  case hok => kernel_rfl
  · intro im s vs kvs hk hv hkw
    obtain ⟨v, rfl, h1⟩ := one_v hv
    have : kvs = [] := by have := hkw.1; simpa using this
    subst this
    have e : bindArgs (fdOf p 199) ⟨[v], []⟩ = pure ((["pattern"].map Str.ofString).zip [v]) := by kernel_rfl
    refine ⟨[v], hv, ?_⟩
    intro M A E Q h
    rw [e]
    exact wpAny_pure h
  · intro env κ
    obtain ⟨nn, hT⟩ := T.tab
    show Ex _ _ [("isinstance", .con (.builtin "isinstance")), ("str", .con (.type "str")), ("_special_chars_map", .con (.ref 189)), ("pattern", .str [c])] _ _
    refine Ex.cons <| Ex1.if <| Ts.plain <| Ev.call (by walk_at "zm") <| EvL.cons <| Ev.name (by walk_at "zm") <| EvL.cons <| Ev.name (by walk_at "zm") <| EvL.nil <| CallP.isStr <| TrueOf.bool ?_
    show Ex _ _ _ _ _
    refine Ex.cons <| Ex1.ret <| Ev.meth <| Ev.name (by walk_at "zm") ⟨_, _, MethP.str F.slot_str_translate F.type_str_translate, EvL.cons <| Ev.name (by walk_at "zm") <| EvL.nil <| CallP.transl hT T.allI hc.lt (.inl ⟨hc.fi, rfl⟩) ⟨rfl, rfl⟩⟩
noncomputable abbrev Parts := List (Option (List Nat))
noncomputable def partP (Z : Addr) : Option (List Nat) → PV
  | none => .ref Z
  | some l => .str l
noncomputable def transP (q : List Nat) : List Nat → Parts → Parts
  | [], acc => acc
  | c :: r, acc => if c = 42 then (if acc.getLast? = some none then transP q r acc else transP q r (acc ++ [none])) else if c = 63 then transP q r (acc ++ [some q]) else transP q r (acc ++ [some [c]])
noncomputable abbrev nsTR : Names := [("pat", .local), ("STAR", .local), ("QUESTION_MARK", .local), ("res", .local), ("add", .local), ("i", .local), ("n", .local), ("c", .local)]
noncomputable abbrev glTR : Rho := [("len", .con (.builtin "len")), ("escape", .ref 199)]
set_option maxHeartbeats 4000000 in
theorem trans_spec {C : Cx} {p : Params} {n : Nat} {es : List DictEntry} (T : TrK C p es) {pat q : List Nat} {Z : Addr} (hp : ∀ c ∈ pat, c = 42 ∨ c = 63 ∨ PlainC es c) (hz : pat.length ≤ 1000) :
    FnSpec C (n + 2) (.ref 206) [.str pat, .ref Z, .str q] [] [] (fun r σ' => ∃ R, r = .ref R ∧ σ' = [(R, .list ((transP q pat []).map (partP Z)))]) := by
  have hg : Sub glTR C.gl := .cons (T.gl _ (by walk_at "zm")) (.cons (T.gl _ (by walk_at "zm")) .nil)
  refine FnSpec.of (body := ?bd) ["pat", "STAR", "QUESTION_MARK"] [.str pat, .ref Z, .str q] nsTR [] glTR (sc := ?sc) T.tra ?hb ?hsc ?hgl ?hbi ?hcl ?hok hg rfl ?_ ?_
  case hb => with_unfolding_all rfl
  case hsc => with_unfolding_all rfl
  case hgl => with_unfolding_all rfl
  case hbi => with_unfolding_all rfl
  case hcl => with_unfolding_all rfl
  case hok => kernel_rfl
  · intro im s vs kvs hk hv hkw
    obtain ⟨v, w, x, rfl, h1, h2, h3⟩ := three_v hv
    have : kvs = [] := by have := hkw.1; simpa using this
    subst this
    have e : bindArgs (fdOf p 206) ⟨[v, w, x], []⟩ = pure ((["pat", "STAR", "QUESTION_MARK"].map Str.ofString).zip [v, w, x]) := by kernel_rfl
    refine ⟨[v, w, x], hv, ?_⟩
    intro M A E Q h
    rw [e]
    exact wpAny_pure h
  · intro env κ
    show Ex _ _ [("len", .con (.builtin "len")), ("escape", .ref 199), ("pat", .str pat), ("STAR", .ref Z), ("QUESTION_MARK", .str q)] _ _
    refine Ex.cons <| Ex1.asg <| Ev.listM <| EvL.nil ⟨by simp, fun R => As.name (by walk_at "zm") (by walk_at "zs") ?_⟩
    refine Ex.cons <| Ex1.asg <| Ev.attr <| Ev.name (by walk_at "zm") <| Op1.boundAppend (by walk_at "zm") <| As.name (by walk_at "zm") (by walk_at "zs") ?_
    refine Ex.cons <| Ex1.asgSwap (by walk_at "zm") (by walk_at "zm") (ok := ?ok) <| Ev.tuple <| EvL.cons <| Ev.int <| EvL.cons <| Ev.call (by walk_at "zm") <| EvL.cons <| Ev.name (by walk_at "zm") <| EvL.nil <| CallP.lenS (by omega) <| EvL.nil ⟨by simp, _, _, _, _, rfl, (by walk_at "zs"), (by walk_at "zs"), ?_⟩
    case ok => kernel_rfl
    refine Ex.cons <| Ex1.while (fun k ρ σ => ∃ i acc, k = pat.length - i ∧ i ≤ pat.length ∧ σ = [(R, LO.list (acc.map (partP Z)))] ∧ Sub [("escape", .ref 199), ("pat", .str pat), ("STAR", .ref Z), ("QUESTION_MARK", .str q), ("res", .ref R), ("add", .bm "list.append" R), ("i", .int (i : Int)), ("n", .int pat.length)] ρ ∧ acc.length ≤ i ∧ transP q (pat.drop i) acc = transP q pat []) ?_ pat.length ?_
    · rintro k ρ σ ⟨i, acc, rfl, hi, rfl, hs, hacc, h4⟩
      refine Tr.rho2 ["escape", "pat", "STAR", "QUESTION_MARK", "res", "add", "i", "n"] hs ?_
      refine Ts.compare <| Ev.name (by walk_at "zm") <| Ev.name (by walk_at "zm") <| Op2.lt <| TrueOf.bool ?_
      refine ite_dec (fun hak => ?_) (fun hak => ?_)
      · have hil : i < pat.length := by omega
        obtain ⟨c, hc⟩ : ∃ c, pat[i]? = some c := ⟨pat[i], List.getElem?_eq_getElem hil⟩
        have hcm := hp c (List.mem_of_getElem? hc)
        have hdr : pat.drop i = c :: pat.drop (i + 1) := by
          rw [List.drop_eq_getElem_cons hil]
          rw [List.getElem?_eq_getElem hil] at hc
          cases hc; rfl
        rw [hdr] at h4
        refine Ex.cons <| Ex1.asg <| Ev.sub <| Ev.name (by walk_at "zm") <| Ev.name (by walk_at "zm") <| Op2.itemS (c := c) (by omega) (by omega) (by omega) (by unfold pyIx; rw [if_neg (by omega)]; exact hc) <| As.name (by walk_at "zm") (by walk_at "zs") ?_
        refine Ex.cons <| Ex1.asg <| Ev.binop <| Ev.name (by walk_at "zm") <| Ev.int <| Op2.add <| As.nameN (j := ((i + 1 : Nat) : Int)) (by omega) (by walk_at "zm") (by walk_at "zs") ?_
        refine Ex.cons (Tr.mono (Q := fun fl ρ₁ σ₁ => fl = Fl.next ∧ ∃ acc' : Parts, σ₁ = [(R, LO.list (acc'.map (partP Z)))] ∧ ρ₁ = [("escape", .ref 199), ("pat", .str pat), ("STAR", .ref Z), ("QUESTION_MARK", .str q), ("res", .ref R), ("add", .bm "list.append" R), ("i", .int ((i + 1 : Nat) : Int)), ("n", .int pat.length), ("c", .str [c])] ∧ acc'.length ≤ i + 1 ∧ transP q (pat.drop (i + 1)) acc' = transP q pat []) ?_ ?_)
        · refine Ex1.if <| Ts.compare <| Ev.name (by walk_at "zm") <| Ev.str <| Op2.eqS <| TrueOf.bool ?_
          have app : ∀ x, (acc ++ [x]).map (partP Z) = acc.map (partP Z) ++ [partP Z x] := fun x => by rw [List.map_append]; rfl
          have hz' : (acc.map (partP Z)).length ≤ 16000000 := by rw [List.length_map]; omega
          have la : ∀ x : Option (List Nat), (acc ++ [x]).length ≤ i + 1 := fun x => by rw [List.length_append]; show _ + 1 ≤ _; omega
          by_cases c1 : c = 42
          · rw [transP, if_pos c1] at h4
            rw [show ([c] == cs "*") = true by subst c1; decide]
            show Ex _ _ _ _ _
            refine Ex.cons <| Ex1.if <| Ts.bool <| TsAll.or <| Ts.not <| Ts.plain <| Ev.name (by walk_at "zm") <| TrueOf.led (by walk_at "zm") (by omega) ?_
            rcases List.eq_nil_or_concat acc with rfl | ⟨acc0, x, rfl⟩
            · show Ex _ _ _ _ _
              rw [if_neg (by simp)] at h4
              refine Ex.cons <| Ex1.expr <| Ev.call (by walk_at "zm") <| EvL.cons <| Ev.name (by walk_at "zm") <| EvL.nil <| CallP.appendB .head hz' ⟨rfl, ?_⟩
              refine Ex.nil ?_
              exact Ex.nil ⟨rfl, [none], rfl, rfl, la none, h4⟩
            · have hne : (!(!((acc0 ++ [x]).map (partP Z)).isEmpty)) = false := by simp
              rw [List.concat_eq_append] at *
              rw [hne]
              show TsAll _ _ _ _ _ _
              have hlen : ((acc0 ++ [x]).map (partP Z)).length = acc0.length + 1 := by simp
              have hlast : ((acc0 ++ [x]).map (partP Z))[pyIx (-1) ((acc0 ++ [x]).map (partP Z)).length]? = some (partP Z x) := by
                rw [hlen]
                have : pyIx (-1) (acc0.length + 1) = acc0.length := by unfold pyIx; rw [if_pos (by omega)]; omega
                rw [this, List.map_append, List.getElem?_append_right (by simp)]; simp
              rw [List.getLast?_append, List.getLast?_singleton] at h4
              simp only [Option.some_or, Option.some.injEq] at h4
              refine TsAll.or <| Ts.compare <| Ev.sub <| Ev.name (by walk_at "zm") <| Ev.unary <| Ev.int <| Op1.neg <| Op2.itemM (by walk_at "zm") (by rw [hlen]; omega) (by omega) (by omega) hlast <| Ev.name (by walk_at "zm") ?_
              cases x with
              | none =>
                rw [if_pos rfl] at h4
                refine Op2.isNotSame <| TrueOf.bool ?_
                show TsAll _ _ _ _ _ _
                refine TsAll.nilOr ?_
                show Ex _ _ _ _ _
                refine Ex.nil ?_
                exact Ex.nil ⟨rfl, acc0 ++ [none], rfl, rfl, by omega, h4⟩
              | some l =>
                rw [if_neg (by simp)] at h4
                refine Op2.isNotStrRef <| TrueOf.bool ?_
                show Ex _ _ _ _ _
                refine Ex.cons <| Ex1.expr <| Ev.call (by walk_at "zm") <| EvL.cons <| Ev.name (by walk_at "zm") <| EvL.nil <| CallP.appendB .head hz' ⟨rfl, ?_⟩
                refine Ex.nil ?_
                exact Ex.nil ⟨rfl, acc0 ++ [some l] ++ [none], by rw [app]; rfl, rfl, la _, h4⟩
          · rw [transP, if_neg c1] at h4
            rw [show ([c] == cs "*") = false by rw [show cs "*" = [42] by decide]; simpa using c1]
            show Ex _ _ _ _ _
            refine Ex.cons <| Ex1.if <| Ts.compare <| Ev.name (by walk_at "zm") <| Ev.str <| Op2.eqS <| TrueOf.bool ?_
            by_cases c2 : c = 63
            · rw [if_pos c2] at h4
              rw [show ([c] == cs "?") = true by subst c2; decide]
              show Ex _ _ _ _ _
              refine Ex.cons <| Ex1.expr <| Ev.call (by walk_at "zm") <| EvL.cons <| Ev.name (by walk_at "zm") <| EvL.nil <| CallP.appendB .head hz' ⟨rfl, ?_⟩
              refine Ex.nil ?_
              refine Ex.nil ⟨rfl, acc ++ [some q], by rw [app]; rfl, rfl, la _, h4⟩
            · rw [if_neg c2] at h4
              have hpl : PlainC es c := by rcases hcm with h | h | h; exact absurd h c1; exact absurd h c2; exact h
              rw [show ([c] == cs "?") = false by rw [show cs "?" = [63] by decide]; simpa using c2]
              show Ex _ _ _ _ _
              refine Ex.cons <| Ex1.if <| Ts.compare <| Ev.name (by walk_at "zm") <| Ev.str <| Op2.eqS <| TrueOf.bool ?_
              rw [show ([c] == cs "[") = false by rw [show cs "[" = [91] by decide]; simpa using hpl.n3]
              show Ex _ _ _ _ _
              refine Ex.cons <| Ex1.expr <| Ev.call (by walk_at "zm") <| EvL.cons <| Ev.call (by walk_at "zm") <| EvL.cons <| Ev.name (by walk_at "zm") <| EvL.nil <| CallP.of (φ := [(R, .list (acc.map (partP Z)))]) (escape_spec (n := n) T hpl) (by simp) (.inr (by simp)) ?_
              rintro r σ' ⟨rfl, rfl⟩
              refine EvL.nil <| CallP.appendB .head hz' ⟨rfl, ?_⟩
              refine Ex.nil ?_
              refine Ex.nil ?_
              refine Ex.nil ⟨rfl, acc ++ [some [c]], by rw [app]; rfl, rfl, la _, h4⟩
        · rintro _ _ _ ⟨rfl, acc', rfl, rfl, h1, h2⟩
          exact Ex.nil ⟨pat.length - (i + 1), by omega, i + 1, acc', rfl, by omega, rfl, .cons (by walk_at "zm") (.cons (by walk_at "zm") (.cons (by walk_at "zm") (.cons (by walk_at "zm") (.cons (by walk_at "zm") (.cons (by walk_at "zm") (.cons (by walk_at "zm") (.cons (by walk_at "zm") .nil))))))), h1, h2⟩
      · have hin : i = pat.length := by omega
        subst hin
        rw [List.drop_length] at h4
        refine Ex.cons <| Ex1.assert <| Ts.compare <| Ev.name (by walk_at "zm") <| Ev.name (by walk_at "zm") <| Op2.eq <| TrueOf.bool ⟨by simp, ?_⟩
        refine Ex.cons <| Ex1.ret <| Ev.name (by walk_at "zm") ⟨R, rfl, ?_⟩
        rw [← h4]; rfl
    · exact ⟨0, [], rfl, by omega, rfl, .cons (by walk_at "zm") (.cons (by walk_at "zm") (.cons (by walk_at "zm") (.cons (by walk_at "zm") (.cons (by walk_at "zm") (.cons (by walk_at "zm") (.cons (by walk_at "zm") (.cons (by walk_at "zm") .nil))))))), by simp, rfl⟩
end Mine
end
section
open PySem PySem.W PyProof.Rows PySem.Calls
set_option Elab.async false
set_option maxRecDepth 100000
namespace Mine
local macro_rules | `(tactic| walk_at "zm") => `(tactic| repeat (first | exact List.Mem.head _ | apply List.Mem.tail))
local macro_rules | `(tactic| walk_at "zs") => `(tactic| repeat (first | exact SetR.head | exact SetR.nil | (apply SetR.tl; decide)))
noncomputable def spanS : Parts → List (List Nat) × Parts
  | some l :: r => (l :: (spanS r).1, (spanS r).2)
  | p => ([], p)
noncomputable def joinT : Nat → Parts → List (List Nat) → List (List Nat)
  | 0, _, acc => acc
  | _ + 1, [], acc => acc
  | f + 1, _ :: r, acc => if r = [] then acc ++ [cs ".*"] else if (spanS r).2 = [] then acc ++ [cs ".*", (spanS r).1.flatten] else joinT f (spanS r).2 (acc ++ [cs "(?>.*?" ++ (spanS r).1.flatten ++ cs ")"])
noncomputable def joinP (parts : Parts) : List Nat := cs "(?s:" ++ (joinT parts.length (spanS parts).2 (spanS parts).1).flatten ++ cs ")\\Z"
noncomputable def Alt (parts : Parts) : Prop := ∀ i, parts[i]? = some none → parts[i + 1]? ≠ some none
theorem spanS_cons {l : List Nat} {r : Parts} : spanS (some l :: r) = (l :: (spanS r).1, (spanS r).2) := rfl
theorem spanS_none {r : Parts} : spanS (none :: r) = ([], none :: r) := rfl
theorem spanS_nil : spanS [] = ([], []) := rfl
theorem drop_at {parts : Parts} {i : Nat} {x : Option (List Nat)} (h : parts[i]? = some x) : parts.drop i = x :: parts.drop (i + 1) := by
  obtain ⟨hi, he⟩ := List.getElem?_eq_some_iff.mp h
  rw [List.drop_eq_getElem_cons hi, he]
theorem getP_at {parts : Parts} {i : Nat} {x : Option (List Nat)} {Z : Addr} (h : parts[i]? = some x) : (parts.map (partP Z)).getD i .none = partP Z x := by
  rw [List.getD_eq_getElem?_getD, List.getElem?_map, h]; rfl
theorem pyJoin_flat (ls : List (List Nat)) : pyJoin (cs "") ls = ls.flatten := by
  have key : ∀ (r : List (List Nat)) (x : List Nat), r.foldl (fun acc p => acc ++ cs "" ++ p) x = x ++ r.flatten := by
    intro r
    induction r with
    | nil => intro x; simp
    | cons p r ih => intro x; rw [List.foldl_cons, ih, show cs "" = [] by decide]; simp
  cases ls with
  | nil => rfl
  | cons x r => exact key r x
section
variable {G : Gx} {ρ : Rho} {σ : Led}
/-- the test «i < n and inp[i] is not STAR» -/
theorem notStar {i : Nat} {Z I : Addr} {parts : Parts} {e1 e2 : Expr} {p1 : Pos} {Q : Bool → Rho → Led → Prop} (hz : parts.length ≤ 1000) (hi : i ≤ parts.length) (hm : (I, LO.list (parts.map (partP Z))) ∈ σ)
    (h1 : Ts G e1 ρ σ (fun b ρ₁ σ₁ => b = decide ((i : Int) < (parts.length : Int)) ∧ ρ₁ = ρ ∧ σ₁ = σ)) (h2 : i < parts.length → ∀ x, parts[i]? = some x → Ts G e2 ρ σ (fun b ρ₁ σ₁ => b = x.isSome ∧ ρ₁ = ρ ∧ σ₁ = σ))
    (k1 : ∀ l, parts[i]? = some (some l) → Q true ρ σ) (k2 : parts[i]? = some none → Q false ρ σ) (k3 : i = parts.length → Q false ρ σ) : Ts G (.BoolOp .And [e1, e2] p1) ρ σ Q := by
  refine Ts.bool <| TsAll.and <| Tr.mono h1 fun b ρ₁ σ₁ ⟨hb, hr, hs⟩ => ?_
  subst hb; subst hr; subst hs
  refine ite_dec (fun hlt => ?_) (fun hlt => ?_)
  · have hlt' : i < parts.length := by omega
    obtain ⟨x, hx⟩ : ∃ x, parts[i]? = some x := ⟨parts[i], List.getElem?_eq_getElem hlt'⟩
    refine TsAll.and <| Tr.mono (h2 hlt' x hx) fun b ρ₁ σ₁ ⟨hb, hr, hs⟩ => ?_
    subst hb; subst hr; subst hs
    cases x with
    | none => exact k2 hx
    | some l => exact TsAll.nilAnd (k1 l hx)
  · exact k3 (by omega)
end
theorem joinT_nil : ∀ (f : Nat) (acc : List (List Nat)), joinT f [] acc = acc
  | 0, _ => rfl
  | _ + 1, _ => rfl
theorem joinT_step {f : Nat} {x : Option (List Nat)} {r : Parts} {acc : List (List Nat)} : joinT (f + 1) (x :: r) acc = if r = [] then acc ++ [cs ".*"] else if (spanS r).2 = [] then acc ++ [cs ".*", (spanS r).1.flatten] else joinT f (spanS r).2 (acc ++ [cs "(?>.*?" ++ (spanS r).1.flatten ++ cs ")"]) := rfl
theorem flat_len (ls : List (List Nat)) : ls.flatten.length = (ls.map List.length).sum := List.length_flatten
theorem Op2.iadd {G : Gx} {ρ : Rho} {σ : Led} {Q : PV → Rho → Led → Prop} {a b c : Int} (he : a + b = c) (h : Q (.int c) ρ σ) : Op2 G (inplaceOp .Add) (.int a) (.int b) ρ σ Q := .lib h fun A im s v w Qv hA hI hv hw k => by
  subst he
  obtain ⟨t, rfl⟩ := hv.int_i
  obtain ⟨u, rfl⟩ := hw.int_i
  exact iadd_int (k _ _ .int)
noncomputable abbrev nsJO : Names := [("inp", .local), ("STAR", .local), ("res", .local), ("add", .local), ("i", .local), ("n", .local), ("fixed", .local)]
set_option maxHeartbeats 4000000 in
theorem join_spec {C : Cx} {p : Params} {n : Nat} {es : List DictEntry} (T : TrK C p es) {parts : Parts} {Z I : Addr} (ha : Alt parts) (hz : parts.length ≤ 1000) (hw : ∀ l, some l ∈ parts → l.length ≤ 1000) :
    FnSpec C (n + 1) (.ref 213) [.ref I, .ref Z] [] [(I, .list (parts.map (partP Z)))] (fun r σ' => r = .str (joinP parts)) := by
  have hg : Sub [("len", .con (.builtin "len"))] C.gl := .cons (T.gl _ (by walk_at "zm")) .nil
  refine FnSpec.of (body := ?bd) ["inp", "STAR"] [.ref I, .ref Z] nsJO [] [("len", .con (.builtin "len"))] (sc := ?sc) T.joi ?hb ?hsc ?hgl ?hbi ?hcl ?hok hg rfl ?_ ?_
  case hb => with_unfolding_all rfl
  case hsc => with_unfolding_all rfl
  case hgl => with_unfolding_all rfl
  case hbi => with_unfolding_all rfl
  case hcl => with_unfolding_all rfl
  case hok => kernel_rfl
  · intro im s vs kvs hk hv hkw
    obtain ⟨v, w, rfl, h1, h2⟩ := two_v hv
    have : kvs = [] := by have := hkw.1; simpa using this
    subst this
    have e : bindArgs (fdOf p 213) ⟨[v, w], []⟩ = pure ((["inp", "STAR"].map Str.ofString).zip [v, w]) := by kernel_rfl
    refine ⟨[v, w], hv, ?_⟩
    intro M A E Q h
    rw [e]
    exact wpAny_pure h
  · intro env κ
    have hpl : (parts.map (partP Z)).length = parts.length := List.length_map _
    show Ex _ _ [("len", .con (.builtin "len")), ("inp", .ref I), ("STAR", .ref Z)] _ _
    refine Ex.cons <| Ex1.asg <| Ev.listM <| EvL.nil ⟨by simp, fun R => As.name (by walk_at "zm") (by walk_at "zs") ?_⟩
    refine Ex.cons <| Ex1.asg <| Ev.attr <| Ev.name (by walk_at "zm") <| Op1.boundAppend (by walk_at "zm") <| As.name (by walk_at "zm") (by walk_at "zs") ?_
    refine Ex.cons <| Ex1.asgSwap (by walk_at "zm") (by walk_at "zm") (ok := ?ok) <| Ev.tuple <| EvL.cons <| Ev.int <| EvL.cons <| Ev.call (by walk_at "zm") <| EvL.cons <| Ev.name (by walk_at "zm") <| EvL.nil <| CallP.lenM (by walk_at "zm") (by omega) <| EvL.nil ⟨by simp, _, _, _, _, rfl, (by walk_at "zs"), (by walk_at "zs"), ?_⟩
    case ok => kernel_rfl
    rw [hpl]
    refine Ex.cons (Tr.mono (Q := fun fl ρ σ => fl = Fl.next ∧ ∃ (i : Nat) (acc : List (List Nat)), i ≤ parts.length ∧ (i = parts.length ∨ parts[i]? = some none) ∧ σ = [(R, LO.list (acc.map .str)), (I, .list (parts.map (partP Z)))] ∧ Sub [("inp", .ref I), ("STAR", .ref Z), ("res", .ref R), ("add", .bm "list.append" R), ("i", .int (i : Int)), ("n", .int parts.length)] ρ ∧ acc.length ≤ i ∧ (acc.map List.length).sum ≤ 1010 * i ∧ spanS parts = (acc, parts.drop i)) (Ex1.while (fun k ρ σ => ∃ (i : Nat) (acc : List (List Nat)), k = parts.length - i ∧ i ≤ parts.length ∧ σ = [(R, LO.list (acc.map .str)), (I, .list (parts.map (partP Z)))] ∧ Sub [("inp", .ref I), ("STAR", .ref Z), ("res", .ref R), ("add", .bm "list.append" R), ("i", .int (i : Int)), ("n", .int parts.length)] ρ ∧ acc.length ≤ i ∧ (acc.map List.length).sum ≤ 1010 * i ∧ acc ++ (spanS (parts.drop i)).1 = (spanS parts).1 ∧ (spanS (parts.drop i)).2 = (spanS parts).2) ?_ parts.length ?_) ?_)
    · rintro k ρ σ ⟨i, acc, rfl, hi, rfl, hs, hacc, haw, h4, h5⟩
      refine Tr.rho2 ["inp", "STAR", "res", "add", "i", "n"] hs ?_
      have hra : (acc.map PV.str).length ≤ 16000000 := by rw [List.length_map]; omega
      refine notStar (I := I) (Z := Z) hz hi (by walk_at "zm") (Ts.compare <| Ev.name (by walk_at "zm") <| Ev.name (by walk_at "zm") <| Op2.lt <| TrueOf.bool ⟨rfl, rfl, rfl⟩) (fun hlt x hx => ?_) (fun l hx => ?_) (fun hx => ?_) (fun hx => ?_)
      · refine Ts.compare <| Ev.sub <| Ev.name (by walk_at "zm") <| Ev.name (by walk_at "zm") <| Op2.itemMn (by walk_at "zm") (by omega) (by omega) <| Ev.name (by walk_at "zm") ?_
        rw [getP_at hx]
        cases x with
        | none => exact Op2.isNotSame <| TrueOf.bool ⟨rfl, rfl, rfl⟩
        | some l => exact Op2.isNotStrRef <| TrueOf.bool ⟨rfl, rfl, rfl⟩
      · have hlt : i < parts.length := (List.getElem?_eq_some_iff.mp hx).1
        have hll := hw l (List.mem_of_getElem? hx)
        rw [drop_at hx, spanS_cons] at h4 h5
        show Ex _ _ _ _ _
        refine Ex.cons <| Ex1.expr <| Ev.call (by walk_at "zm") <| EvL.cons <| Ev.sub <| Ev.name (by walk_at "zm") <| Ev.name (by walk_at "zm") <| Op2.itemMn (by walk_at "zm") (by omega) (by omega) ?_
        rw [getP_at hx]
        refine EvL.nil <| CallP.appendB .head hra ⟨rfl, ?_⟩
        refine Ex.cons <| Ex1.aug (by walk_at "zm") <| Ev.int <| Op2.iadd (c := ((i + 1 : Nat) : Int)) (by omega) <| store_con (by walk_at "zm") (by walk_at "zs") ?_
        refine Ex.nil ⟨parts.length - (i + 1), by omega, i + 1, acc ++ [l], rfl, by omega, by rw [List.map_append]; rfl, .cons (by walk_at "zm") (.cons (by walk_at "zm") (.cons (by walk_at "zm") (.cons (by walk_at "zm") (.cons (by walk_at "zm") (.cons (by walk_at "zm") .nil))))), by rw [List.length_append]; show _ + 1 ≤ _; omega, ?_, ?_, h5⟩
        · rw [List.map_append, List.sum_append]; show _ + (l.length + 0) ≤ _; omega
        · rw [← h4]; simp
      · refine ⟨rfl, i, acc, hi, .inr hx, rfl, .cons (by walk_at "zm") (.cons (by walk_at "zm") (.cons (by walk_at "zm") (.cons (by walk_at "zm") (.cons (by walk_at "zm") (.cons (by walk_at "zm") .nil))))), hacc, haw, ?_⟩
        rw [drop_at hx, spanS_none] at h4 h5
        rw [drop_at hx, Prod.ext_iff]
        exact ⟨by rw [← h4]; simp, by rw [← h5]⟩
      · refine ⟨rfl, i, acc, hi, .inl hx, rfl, .cons (by walk_at "zm") (.cons (by walk_at "zm") (.cons (by walk_at "zm") (.cons (by walk_at "zm") (.cons (by walk_at "zm") (.cons (by walk_at "zm") .nil))))), hacc, haw, ?_⟩
        rw [hx, List.drop_length, spanS_nil] at h4 h5
        rw [hx, List.drop_length, Prod.ext_iff]
        exact ⟨by rw [← h4]; simp, by rw [← h5]⟩
    · exact ⟨0, [], rfl, by omega, rfl, .cons (by walk_at "zm") (.cons (by walk_at "zm") (.cons (by walk_at "zm") (.cons (by walk_at "zm") (.cons (by walk_at "zm") (.cons (by walk_at "zm") .nil))))), by simp, by simp, rfl, rfl⟩
    · rintro _ ρ _ ⟨rfl, i0, acc0, hi0, hs0, rfl, hsub, hacc0, haw0, hspan⟩
      refine Tr.rho2 ["inp", "STAR", "res", "add", "i", "n"] hsub ?_
      have jlen : ∀ (e : List (List Nat)), (e.map List.length).sum + (e.map PV.str).length * (cs "").length = (e.map List.length).sum := fun e => by rw [show (cs "").length = 0 by decide]; omega
      refine Ex.cons (Tr.mono (Q := fun fl ρ σ => fl = Fl.next ∧ ∃ acc : List (List Nat), σ = [(R, LO.list (acc.map .str)), (I, .list (parts.map (partP Z)))] ∧ Sub [("res", .ref R), ("i", .int parts.length), ("n", .int parts.length)] ρ ∧ acc.length ≤ parts.length + 2 ∧ (acc.map List.length).sum ≤ 1010 * parts.length + 1010 ∧ acc = joinT parts.length (spanS parts).2 (spanS parts).1)
        (Ex1.while (fun k ρ σ => ∃ (i : Nat) (acc : List (List Nat)) (f : Nat), k = parts.length - i ∧ i ≤ parts.length ∧ (i = parts.length ∨ parts[i]? = some none) ∧ σ = [(R, LO.list (acc.map .str)), (I, .list (parts.map (partP Z)))] ∧ Sub [("inp", .ref I), ("STAR", .ref Z), ("res", .ref R), ("add", .bm "list.append" R), ("i", .int (i : Int)), ("n", .int parts.length)] ρ ∧ acc.length ≤ i + 1 ∧ (acc.map List.length).sum ≤ 1010 * i + 10 ∧ parts.length ≤ i + f ∧ joinT f (parts.drop i) acc = joinT parts.length (spanS parts).2 (spanS parts).1) ?_ (parts.length - i0) ?_) ?_)
      · rintro k ρ σ ⟨i, acc, f, rfl, hi, hst, rfl, hs, hacc, haw, hf, h4⟩
        refine Tr.rho2 ["inp", "STAR", "res", "add", "i", "n"] hs ?_
        have hra : (acc.map PV.str).length ≤ 1000000 := by rw [List.length_map]; omega
        refine Ts.compare <| Ev.name (by walk_at "zm") <| Ev.name (by walk_at "zm") <| Op2.lt <| TrueOf.bool ?_
        refine ite_dec (fun hlt => ?_) (fun hlt => ?_)
        · have hlt' : i < parts.length := by omega
          have hx : parts[i]? = some none := by rcases hst with h | h; omega; exact h
          obtain ⟨f, rfl⟩ : ∃ f', f = f' + 1 := ⟨f - 1, by omega⟩
          rw [drop_at hx, joinT_step] at h4
          refine Ex.cons <| Ex1.assert <| Ts.compare <| Ev.sub <| Ev.name (by walk_at "zm") <| Ev.name (by walk_at "zm") <| Op2.itemMn (by walk_at "zm") (by omega) (by omega) <| Ev.name (by walk_at "zm") ?_
          rw [getP_at hx]
          refine Op2.isSameR <| TrueOf.bool ⟨rfl, ?_⟩
          refine Ex.cons <| Ex1.aug (by walk_at "zm") <| Ev.int <| Op2.iadd (c := ((i + 1 : Nat) : Int)) (by omega) <| store_con (by walk_at "zm") (by walk_at "zs") ?_
          refine Ex.cons <| Ex1.if <| Ts.compare <| Ev.name (by walk_at "zm") <| Ev.name (by walk_at "zm") <| Op2.eq <| TrueOf.bool ?_
          by_cases hi1 : i + 1 = parts.length
          · rw [if_pos (by rw [hi1, List.drop_length])] at h4
            rw [show (((i + 1 : Nat) : Int) == (parts.length : Int)) = true by rw [hi1]; simp]
            show Ex _ _ _ _ _
            refine Ex.cons <| Ex1.expr <| Ev.call (by walk_at "zm") <| EvL.cons <| Ev.str <| EvL.nil <| CallP.appendB .head (by omega) ⟨rfl, ?_⟩
            refine Ex.cons <| Ex1.brk ?_
            refine ⟨rfl, acc ++ [cs ".*"], by rw [List.map_append]; rfl, .cons (by walk_at "zm") (.cons (by rw [← hi1]; walk_at "zm") (.cons (by walk_at "zm") .nil)), by rw [List.length_append]; show _ + 1 ≤ _; omega, ?_, h4⟩
            rw [List.map_append, List.sum_append]; show _ + ((cs ".*").length + 0) ≤ _; rw [show (cs ".*").length = 2 by decide]; omega
          · obtain ⟨y, hy⟩ : ∃ y, parts[i + 1]? = some y := ⟨parts[i + 1], List.getElem?_eq_getElem (by omega)⟩
            obtain ⟨l, rfl⟩ : ∃ l, y = some l := by cases y with | none => exact absurd hy (ha i hx) | some l => exact ⟨l, rfl⟩
            rw [if_neg (by rw [drop_at hy]; simp)] at h4
            rw [show (((i + 1 : Nat) : Int) == (parts.length : Int)) = false by simpa using (fun h => hi1 (by omega))]
            show Ex _ _ _ _ _
            refine Ex.nil ?_
            refine Ex.cons <| Ex1.assert <| Ts.compare <| Ev.sub <| Ev.name (by walk_at "zm") <| Ev.name (by walk_at "zm") <| Op2.itemMn (by walk_at "zm") (by omega) (by omega) <| Ev.name (by walk_at "zm") ?_
            rw [getP_at hy]
            refine Op2.isNotStrRef <| TrueOf.bool ⟨rfl, ?_⟩
            refine Ex.cons <| Ex1.asg <| Ev.listM <| EvL.nil ⟨by simp, fun FX => As.name (by walk_at "zm") (by walk_at "zs") ?_⟩
            refine Ex.cons (Tr.mono (Q := fun fl ρ σ => fl = Fl.next ∧ ∃ (j : Nat) (fx : List (List Nat)), i + 1 ≤ j ∧ j ≤ parts.length ∧ (j = parts.length ∨ parts[j]? = some none) ∧ σ = [(FX, LO.list (fx.map .str)), (R, .list (acc.map .str)), (I, .list (parts.map (partP Z)))] ∧ Sub [("inp", .ref I), ("STAR", .ref Z), ("res", .ref R), ("add", .bm "list.append" R), ("i", .int (j : Int)), ("n", .int parts.length), ("fixed", .ref FX)] ρ ∧ fx.length ≤ j ∧ (fx.map List.length).sum ≤ 1000 * (j - (i + 1)) ∧ spanS (parts.drop (i + 1)) = (fx, parts.drop j))
              (Ex1.while (fun k ρ σ => ∃ (j : Nat) (fx : List (List Nat)), k = parts.length - j ∧ i + 1 ≤ j ∧ j ≤ parts.length ∧ σ = [(FX, LO.list (fx.map .str)), (R, .list (acc.map .str)), (I, .list (parts.map (partP Z)))] ∧ Sub [("inp", .ref I), ("STAR", .ref Z), ("res", .ref R), ("add", .bm "list.append" R), ("i", .int (j : Int)), ("n", .int parts.length), ("fixed", .ref FX)] ρ ∧ fx.length ≤ j ∧ (fx.map List.length).sum ≤ 1000 * (j - (i + 1)) ∧ fx ++ (spanS (parts.drop j)).1 = (spanS (parts.drop (i + 1))).1 ∧ (spanS (parts.drop j)).2 = (spanS (parts.drop (i + 1))).2) ?_ (parts.length - (i + 1)) ?_) ?_)
            · rintro k ρ σ ⟨j, fx, rfl, hj1, hj, rfl, hs, hfl, hfw, h5, h6⟩
              refine Tr.rho2 ["inp", "STAR", "res", "add", "i", "n", "fixed"] hs ?_
              have hrf : (fx.map PV.str).length ≤ 16000000 := by rw [List.length_map]; omega
              refine notStar (I := I) (Z := Z) hz hj (by walk_at "zm") (Ts.compare <| Ev.name (by walk_at "zm") <| Ev.name (by walk_at "zm") <| Op2.lt <| TrueOf.bool ⟨rfl, rfl, rfl⟩) (fun hlt x hx => ?_) (fun l hx => ?_) (fun hx => ?_) (fun hx => ?_)
              · refine Ts.compare <| Ev.sub <| Ev.name (by walk_at "zm") <| Ev.name (by walk_at "zm") <| Op2.itemMn (by walk_at "zm") (by omega) (by omega) <| Ev.name (by walk_at "zm") ?_
                rw [getP_at hx]
                cases x with
                | none => exact Op2.isNotSame <| TrueOf.bool ⟨rfl, rfl, rfl⟩
                | some l => exact Op2.isNotStrRef <| TrueOf.bool ⟨rfl, rfl, rfl⟩
              · have hlt : j < parts.length := (List.getElem?_eq_some_iff.mp hx).1
                have hll := hw l (List.mem_of_getElem? hx)
                rw [drop_at hx, spanS_cons] at h5 h6
                show Ex _ _ _ _ _
                refine Ex.cons <| Ex1.expr <| Ev.meth <| Ev.name (by walk_at "zm") ⟨_, _, MethP.led (by walk_at "zm") F.slot_list_append F.type_list_append, EvL.cons <| Ev.sub <| Ev.name (by walk_at "zm") <| Ev.name (by walk_at "zm") <| Op2.itemMn (by walk_at "zm") (by omega) (by omega) ?_⟩
                rw [getP_at hx]
                refine EvL.nil <| CallP.append .head hrf ⟨rfl, ?_⟩
                refine Ex.cons <| Ex1.aug (by walk_at "zm") <| Ev.int <| Op2.iadd (c := ((j + 1 : Nat) : Int)) (by omega) <| store_con (by walk_at "zm") (by walk_at "zs") ?_
                refine Ex.nil ⟨parts.length - (j + 1), by omega, j + 1, fx ++ [l], rfl, by omega, by omega, by rw [List.map_append]; rfl, .cons (by walk_at "zm") (.cons (by walk_at "zm") (.cons (by walk_at "zm") (.cons (by walk_at "zm") (.cons (by walk_at "zm") (.cons (by walk_at "zm") (.cons (by walk_at "zm") .nil)))))), by rw [List.length_append]; show _ + 1 ≤ _; omega, ?_, ?_, h6⟩
                · rw [List.map_append, List.sum_append]; show _ + (l.length + 0) ≤ _; omega
                · rw [← h5]; simp
              · refine ⟨rfl, j, fx, hj1, hj, .inr hx, rfl, .cons (by walk_at "zm") (.cons (by walk_at "zm") (.cons (by walk_at "zm") (.cons (by walk_at "zm") (.cons (by walk_at "zm") (.cons (by walk_at "zm") (.cons (by walk_at "zm") .nil)))))), hfl, hfw, ?_⟩
                rw [drop_at hx, spanS_none] at h5 h6
                rw [Prod.ext_iff]
                exact ⟨by rw [← h5]; simp, by rw [← h6, drop_at hx]⟩
              · refine ⟨rfl, j, fx, hj1, hj, .inl hx, rfl, .cons (by walk_at "zm") (.cons (by walk_at "zm") (.cons (by walk_at "zm") (.cons (by walk_at "zm") (.cons (by walk_at "zm") (.cons (by walk_at "zm") (.cons (by walk_at "zm") .nil)))))), hfl, hfw, ?_⟩
                rw [hx, List.drop_length, spanS_nil] at h5 h6
                rw [Prod.ext_iff]
                exact ⟨by rw [← h5]; simp, by rw [← h6, hx, List.drop_length]⟩
            · exact ⟨i + 1, [], rfl, by omega, by omega, rfl, .cons (by walk_at "zm") (.cons (by walk_at "zm") (.cons (by walk_at "zm") (.cons (by walk_at "zm") (.cons (by walk_at "zm") (.cons (by walk_at "zm") (.cons (by walk_at "zm") .nil)))))), by simp, by simp, rfl, rfl⟩
            · rintro _ ρ _ ⟨rfl, j, fx, hj1, hj, hjs, rfl, hsub, hfl, hfw, hspan2⟩
              refine Tr.rho2 ["inp", "STAR", "res", "add", "i", "n", "fixed"] hsub ?_
              rw [hspan2] at h4
              dsimp only at h4
              refine Ex.cons <| Ex1.asg <| Ev.meth <| Ev.str ⟨_, _, MethP.str F.slot_str_join F.type_str_join, EvL.cons <| Ev.name (by walk_at "zm") <| EvL.nil <| CallP.joinM (ls := fx) (by walk_at "zm") rfl (by rw [show (cs "").length = 0 by decide]; omega) <| As.name (by walk_at "zm") (by walk_at "zs") ?_⟩
              rw [pyJoin_flat]
              have hl := flat_len fx
              refine Ex.cons <| Ex1.if <| Ts.compare <| Ev.name (by walk_at "zm") <| Ev.name (by walk_at "zm") <| Op2.eq <| TrueOf.bool ?_
              by_cases hj2 : j = parts.length
              · rw [if_pos (by rw [hj2, List.drop_length])] at h4
                rw [show ((j : Int) == (parts.length : Int)) = true by rw [hj2]; simp]
                show Ex _ _ _ _ _
                refine Ex.cons <| Ex1.expr <| Ev.call (by walk_at "zm") <| EvL.cons <| Ev.str <| EvL.nil <| CallP.appendB (.tail .head) (by omega) ⟨rfl, ?_⟩
                refine Ex.cons <| Ex1.expr <| Ev.call (by walk_at "zm") <| EvL.cons <| Ev.name (by walk_at "zm") <| EvL.nil <| CallP.appendB (.tail .head) (by rw [List.length_append]; show _ + 1 ≤ _; omega) ⟨rfl, ?_⟩
                refine Ex.nil ?_
                refine Tr.led (σ' := [(R, .list ((acc ++ [cs ".*", fx.flatten]).map .str)), (I, .list (parts.map (partP Z)))]) (by intro q hq; simp at hq ⊢; rcases hq with h | h <;> simp [h]) (fun hn => (List.nodup_cons.mp hn).2) ?_
                refine Ex.nil ⟨0, by omega, j, acc ++ [cs ".*", fx.flatten], parts.length, by omega, hj, .inl hj2, rfl, .cons (by walk_at "zm") (.cons (by walk_at "zm") (.cons (by walk_at "zm") (.cons (by walk_at "zm") (.cons (by walk_at "zm") (.cons (by walk_at "zm") .nil))))), by rw [List.length_append]; show _ + 2 ≤ _; omega, ?_, by omega, ?_⟩
                · rw [List.map_append, List.sum_append]; show _ + ((cs ".*").length + (fx.flatten.length + 0)) ≤ _; rw [show (cs ".*").length = 2 by decide]; omega
                · rw [hj2, List.drop_length, joinT_nil]; exact h4
              · have hjn : parts[j]? = some none := by rcases hjs with h | h; exact absurd h hj2; exact h
                rw [if_neg (by rw [drop_at hjn]; simp)] at h4
                rw [show ((j : Int) == (parts.length : Int)) = false by simpa using (fun h => hj2 (by omega))]
                show Ex _ _ _ _ _
                have c1 : (cs "(?>.*?").length = 6 := by decide
                have c2 : (cs ")").length = 1 := by decide
                refine Ex.cons <| Ex1.expr <| Ev.call (by walk_at "zm") <| EvL.cons <| Ev.fstr <| JP.cons <| Ev.str ⟨_, rfl, by simp [c1], JP.cons <| Ev.fval <| Ev.name (by walk_at "zm") ⟨_, rfl, by omega, _, rfl, by simp [c1]; omega, JP.cons <| Ev.str ⟨_, rfl, by simp [c1, c2]; omega, JP.nil (by simp [c1, c2]; omega) ?_⟩⟩⟩
                refine EvL.nil <| CallP.appendB (.tail .head) (by omega) ⟨rfl, ?_⟩
                refine Ex.nil ?_
                refine Tr.led (σ' := [(R, .list ((acc ++ [cs "(?>.*?" ++ fx.flatten ++ cs ")"]).map .str)), (I, .list (parts.map (partP Z)))]) (by intro q hq; simp at hq ⊢; rcases hq with h | h <;> simp [h]) (fun hn => (List.nodup_cons.mp hn).2) ?_
                refine Ex.nil ⟨parts.length - j, by omega, j, _, f, rfl, hj, .inr hjn, rfl, .cons (by walk_at "zm") (.cons (by walk_at "zm") (.cons (by walk_at "zm") (.cons (by walk_at "zm") (.cons (by walk_at "zm") (.cons (by walk_at "zm") .nil))))), by rw [List.length_append]; show _ + 1 ≤ _; omega, ?_, by omega, h4⟩
                rw [List.map_append, List.sum_append]; show _ + ((cs "(?>.*?" ++ fx.flatten ++ cs ")").length + 0) ≤ _; simp [c1, c2]; omega
        · have : i = parts.length := by omega
          subst this
          rw [List.drop_length, joinT_nil] at h4
          exact ⟨rfl, acc, rfl, .cons (by walk_at "zm") (.cons (by walk_at "zm") (.cons (by walk_at "zm") .nil)), by omega, by omega, h4⟩
      · refine ⟨i0, acc0, parts.length, rfl, hi0, hs0, rfl, .cons (by walk_at "zm") (.cons (by walk_at "zm") (.cons (by walk_at "zm") (.cons (by walk_at "zm") (.cons (by walk_at "zm") (.cons (by walk_at "zm") .nil))))), by omega, by omega, by omega, by rw [hspan]⟩
      · rintro _ ρ _ ⟨rfl, acc, rfl, hsub, h1, h2, h3⟩
        refine Tr.rho2 ["res", "i", "n"] hsub ?_
        refine Ex.cons <| Ex1.assert <| Ts.compare <| Ev.name (by walk_at "zm") <| Ev.name (by walk_at "zm") <| Op2.eq <| TrueOf.bool ⟨by simp, ?_⟩
        refine Ex.cons <| Ex1.asg <| Ev.meth <| Ev.str ⟨_, _, MethP.str F.slot_str_join F.type_str_join, EvL.cons <| Ev.name (by walk_at "zm") <| EvL.nil <| CallP.joinM (ls := acc) (by walk_at "zm") rfl (by rw [show (cs "").length = 0 by decide]; omega) <| As.name (by walk_at "zm") (by walk_at "zs") ?_⟩
        rw [pyJoin_flat]
        have hl := flat_len acc
        have c1 : (cs "(?s:").length = 4 := by decide
        have c2 : (cs ")\\Z").length = 3 := by decide
        refine Ex.cons <| Ex1.ret <| Ev.fstr <| JP.cons <| Ev.str ⟨_, rfl, by simp [c1], JP.cons <| Ev.fval <| Ev.name (by walk_at "zm") ⟨_, rfl, by omega, _, rfl, by simp [c1]; omega, JP.cons <| Ev.str ⟨_, rfl, by simp [c1, c2]; omega, JP.nil (by simp [c1, c2]; omega) ?_⟩⟩⟩
        unfold joinP
        rw [← h3]
        simp
end Mine
end
section
open PySem PySem.W PyProof.Rows PySem.Calls
set_option Elab.async false
set_option maxRecDepth 100000
namespace Mine
local macro_rules | `(tactic| walk_at "zm") => `(tactic| repeat (first | exact List.Mem.head _ | apply List.Mem.tail))
local macro_rules | `(tactic| walk_at "zs") => `(tactic| repeat (first | exact SetR.head | exact SetR.nil | (apply SetR.tl; decide)))
theorem alt_some {acc : Parts} {l : List Nat} (h : Alt acc) : Alt (acc ++ [some l]) := fun i hi hn => by
  by_cases h1 : i + 1 < acc.length
  · rw [List.getElem?_append_left (by omega)] at hi hn
    exact h i hi hn
  · by_cases h2 : i + 1 = acc.length
    · rw [h2, List.getElem?_append_right (by omega), Nat.sub_self] at hn; simp at hn
    · rw [List.getElem?_eq_none (by rw [List.length_append]; show _ + 1 ≤ _; omega)] at hn; cases hn
theorem alt_none {acc : Parts} (h : Alt acc) (hl : acc.getLast? ≠ some none) : Alt (acc ++ [none]) := fun i hi hn => by
  by_cases h1 : i + 1 < acc.length
  · rw [List.getElem?_append_left (by omega)] at hi hn
    exact h i hi hn
  · by_cases h2 : i + 1 = acc.length
    · rw [List.getElem?_append_left (by omega)] at hi
      apply hl
      rw [List.getLast?_eq_getElem?, ← hi]; congr 1; omega
    · rw [List.getElem?_eq_none (by rw [List.length_append]; show _ + 1 ≤ _; omega)] at hn; cases hn
theorem transP_alt {q : List Nat} : ∀ (pat : List Nat) (acc : Parts), Alt acc → Alt (transP q pat acc)
  | [], _, h => h
  | c :: r, acc, h => by
    unfold transP
    split
    · split
      · exact transP_alt r _ h
      · rename_i hl; exact transP_alt r _ (alt_none h hl)
    · split
      · exact transP_alt r _ (alt_some h)
      · exact transP_alt r _ (alt_some h)
theorem transP_len {q : List Nat} : ∀ (pat : List Nat) (acc : Parts), (transP q pat acc).length ≤ pat.length + acc.length
  | [], acc => by unfold transP; omega
  | c :: r, acc => by
    have h1 := fun x : Option (List Nat) => transP_len (q := q) r (acc ++ [x])
    have h2 := transP_len (q := q) r acc
    have e : ∀ x : Option (List Nat), (acc ++ [x]).length = acc.length + 1 := fun x => by rw [List.length_append]; rfl
    unfold transP
    rw [List.length_cons]
    split
    · split
      · omega
      · have := h1 none; rw [e] at this; omega
    · split
      · have := h1 (some q); rw [e] at this; omega
      · have := h1 (some [c]); rw [e] at this; omega
theorem transP_w {q : List Nat} (hq : q.length ≤ 1000) : ∀ (pat : List Nat) (acc : Parts), (∀ l, some l ∈ acc → l.length ≤ 1000) → ∀ l, some l ∈ transP q pat acc → l.length ≤ 1000
  | [], _, h => h
  | c :: r, acc, h => by
    have ad : ∀ x : Option (List Nat), (∀ l, x = some l → l.length ≤ 1000) → ∀ l, some l ∈ acc ++ [x] → l.length ≤ 1000 := fun x hx l hl => by
      rcases List.mem_append.mp hl with hl | hl
      · exact h l hl
      · exact hx l (List.mem_singleton.mp hl).symm
    unfold transP
    split
    · split
      · exact transP_w hq r _ h
      · exact transP_w hq r _ (ad none fun l e => nomatch e)
    · split
      · exact transP_w hq r _ (ad (some q) fun l e => by cases e; exact hq)
      · exact transP_w hq r _ (ad (some [c]) fun l e => by cases e; simp)
noncomputable abbrev nsTP : Names := [("pat", .local), ("STAR", .local), ("parts", .local)]
noncomputable abbrev glTP : Rho := [("object", .con (.type "object")), ("_translate", .ref 206), ("_join_translated_parts", .ref 213)]
set_option maxHeartbeats 4000000 in
theorem translate_spec {C : Cx} {p : Params} {n : Nat} {es : List DictEntry} (T : TrK C p es) {pat : List Nat} (hp : ∀ c ∈ pat, c = 42 ∨ c = 63 ∨ PlainC es c) (hz : pat.length ≤ 1000) :
    FnSpec C (n + 3) (.ref 187) [.str pat] [] [] (fun r σ' => r = .str (joinP (transP (cs ".") pat []))) := by
  have hg : Sub glTP C.gl := .cons (T.gl _ (by walk_at "zm")) (.cons (T.gl _ (by walk_at "zm")) (.cons (T.gl _ (by walk_at "zm")) .nil))
  refine FnSpec.of (body := ?bd) ["pat"] [.str pat] nsTP [] glTP (sc := ?sc) T.top ?hb ?hsc ?hgl ?hbi ?hcl ?hok hg rfl ?_ ?_
  case hb => with_unfolding_all rfl
  case hsc => with_unfolding_all rfl
  case hgl => with_unfolding_all rfl
  case hbi => with_unfolding_all rfl
  case hcl => with_unfolding_all rfl
  case hok => kernel_rfl
  · intro im s vs kvs hk hv hkw
    obtain ⟨v, rfl, h1⟩ := one_v hv
    have : kvs = [] := by have := hkw.1; simpa using this
    subst this
    have e : bindArgs (fdOf p 187) ⟨[v], []⟩ = pure ((["pat"].map Str.ofString).zip [v]) := by kernel_rfl
    refine ⟨[v], hv, ?_⟩
    intro M A E Q h
    rw [e]
    exact wpAny_pure h
  · intro env κ
    show Ex _ _ [("object", .con (.type "object")), ("_translate", .ref 206), ("_join_translated_parts", .ref 213), ("pat", .str pat)] _ _
    refine Ex.cons <| Ex1.asg <| Ev.call (by walk_at "zm") <| EvL.nil <| CallP.object fun Z => As.name (by walk_at "zm") (by walk_at "zs") ?_
    refine Ex.cons <| Ex1.asg <| Ev.call (by walk_at "zm") <| EvL.cons <| Ev.name (by walk_at "zm") <| EvL.cons <| Ev.name (by walk_at "zm") <| EvL.cons <| Ev.str <| EvL.nil <| CallP.of (φ := []) (trans_spec (n := n) T hp hz) (fun _ h => h) (.inr rfl) ?_
    rintro r σ' ⟨R, rfl, rfl⟩
    refine As.name (by walk_at "zm") (by walk_at "zs") ?_
    have l1 := transP_len (q := cs ".") pat []
    refine Ex.cons <| Ex1.ret <| Ev.call (by walk_at "zm") <| EvL.cons <| Ev.name (by walk_at "zm") <| EvL.cons <| Ev.name (by walk_at "zm") <| EvL.nil <| CallP.of (φ := []) (join_spec (n := n + 1) T (transP_alt pat [] fun i h => by simp at h) (by simp at l1; omega) (transP_w (by decide) pat [] fun l h => nomatch h)) (fun _ h => h) (.inr rfl) ?_
    rintro r σ' rfl
    rfl
end Mine
end
section
open PySem PySem.W PyProof.Rows PySem.Calls
set_option Elab.async false
set_option maxRecDepth 100000
namespace Mine
local macro_rules | `(tactic| walk_at "zm") => `(tactic| repeat (first | exact List.Mem.head _ | apply List.Mem.tail))
local macro_rules | `(tactic| walk_at "zs") => `(tactic| repeat (first | exact SetR.head | exact SetR.nil | (apply SetR.tl; decide)))
noncomputable def ltI : PV → PV → Bool
  | .int a, .int b => decide (a < b)
  | _, _ => false
noncomputable def isI (p : PV) : Prop := ∃ i, p = .int i
theorem ltI_ok {C : Cx} {n : Nat} : LtOk C n isI ltI := fun env κ ns cn ρ σ p q Q ⟨a, ha⟩ ⟨b, hb⟩ h => by
  subst ha; subst hb
  exact Op2.lt h
/-- the divisors but the number itself -/
noncomputable def divs (n : Nat) : List Nat := (List.range' 1 (n - 1)).filter fun d => n % d == 0
noncomputable def intP (d : Nat) : PV := .int (d : Int)
/-- what comes off the heap, one by one -/
noncomputable def popsP : Nat → List PV → List PV
  | 0, _ => []
  | f + 1, l => if l.isEmpty then [] else (heappopP ltI l).1 :: popsP f (heappopP ltI l).2
noncomputable def pvI : PV → Int
  | .int i => i
  | _ => 0
noncomputable def isIB : PV → Bool
  | .int _ => true
  | _ => false
noncomputable def popsOk (n : Nat) : Bool := (popsP 30 (heapifyP ltI ((divs n).length / 2) ((divs n).map intP))).all isIB && decide ((popsP 30 (heapifyP ltI ((divs n).length / 2) ((divs n).map intP))).map pvI = (divs n).map fun d : Nat => (d : Int))
theorem pops_all : ∀ n, n < 31 → popsOk n = true := by decide +kernel
theorem list_int : ∀ {l : List PV} {ds : List Nat}, l.all isIB = true → l.map pvI = ds.map (fun d : Nat => (d : Int)) → l = ds.map intP
  | [], [], _, _ => rfl
  | [], _ :: _, _, h => by simp at h
  | _ :: _, [], _, h => by simp at h
  | p :: l, d :: ds, ha, h => by
    rw [List.all_cons, Bool.and_eq_true] at ha
    rw [List.map_cons, List.map_cons, List.cons.injEq] at h
    rw [List.map_cons, ← list_int ha.2 h.2]
    cases p with
    | int i => have : i = (d : Int) := h.1; subst this; rfl
    | _ => exact absurd ha.1 (by simp [isIB])
theorem pops_divs {n : Nat} (h : n < 31) : popsP 30 (heapifyP ltI ((divs n).length / 2) ((divs n).map intP)) = (divs n).map intP := by
  have := pops_all n h
  unfold popsOk at this
  rw [Bool.and_eq_true, decide_eq_true_eq] at this
  exact list_int this.1 this.2
theorem heappop_all {lt : PV → PV → Bool} {D : PV → Prop} {l : List PV} (h0 : 0 < l.length) (h : ∀ x ∈ l, D x) : D (heappopP lt l).1 ∧ (∀ x ∈ (heappopP lt l).2, D x) ∧ (heappopP lt l).2.length = l.length - 1 := by
  unfold heappopP
  split
  · exact ⟨h _ (getD_mem (by omega)), (fun x hx => nomatch hx), by simp; omega⟩
  · have hd : ∀ x ∈ l.dropLast.set 0 (l.getD (l.length - 1) .none), D x := set_all (fun x hx => h x (List.dropLast_subset l hx)) (h _ (getD_mem (by omega)))
    have hl : (l.dropLast.set 0 (l.getD (l.length - 1) .none)).length = l.length - 1 := by rw [List.length_set, List.length_dropLast]
    exact ⟨h _ (getD_mem (by omega)), siftUp_all (by omega) hd, by rw [siftUp_len, hl]⟩
theorem range1_succ (k : Nat) : List.range' 1 (k + 1) = List.range' 1 k ++ [k + 1] := by rw [List.range'_concat]; congr 2; omega
/-- letters, small or great -/
noncomputable def lowC (c : Nat) : Nat := if 65 ≤ c ∧ c ≤ 90 then c + 32 else c
noncomputable def lowL (l : List Nat) : List Nat := l.map lowC
noncomputable def isLet (l : List Nat) : Prop := ∃ j, j < 15 ∧ (l = [97 + j] ∨ l = [65 + j])
noncomputable def isAbc (l : List Nat) : Prop := ∃ j, j < 3 ∧ l = [97 + j]
/-- the word's signs say d again and again -/
noncomputable def per (w : List Nat) (d : Nat) : Bool := (List.range w.length).all fun k => w[k]? == w[k % d]?
noncomputable def stepP (w : List Nat) : Nat := ((divs w.length).find? (per w)).getD w.length
theorem upper_ok : ∀ j, j < 15 → Txt.upper (S [97 + j]) = S [65 + j] := by decide +kernel
theorem lets_at : ∀ j, j < 15 → (cs "abcdefghijklmno")[j]? = some (97 + j) := by decide +kernel
theorem lets_len : (cs "abcdefghijklmno").length = 15 := by decide
/-- the table after k signs -/
noncomputable def tabP (w : List Nat) (d k : Nat) : Hdrs := (List.range (min k d)).map fun j => ([65 + j], [w.getD j 0])
theorem lowL_great {j : Nat} (h : j < 15) : lowL [65 + j] = [97 + j] := by unfold lowL lowC; rw [List.map_cons, if_pos (by omega)]; show [65 + j + 32] = _; congr 1; omega
theorem lowL_small {j : Nat} (h : j < 15) : lowL [97 + j] = [97 + j] := by unfold lowL lowC; rw [List.map_cons, if_neg (by omega)]; rfl
theorem tab_find {w : List Nat} {d k j : Nat} (hd : d ≤ 15) (hj : j < 15) : (tabP w d k).find? (fun h => lowL h.1 == [97 + j]) = if j < min k d then some ([65 + j], [w.getD j 0]) else none := by
  unfold tabP
  split
  · rename_i h
    rw [List.find?_map]
    have : (List.range (min k d)).find? ((fun h : List Nat × List Nat => lowL h.1 == [97 + j]) ∘ fun j => ([65 + j], [w.getD j 0])) = some j := by
      rw [List.find?_eq_some_iff_getElem]
      refine ⟨by show (lowL [65 + j] == [97 + j]) = true; rw [lowL_great hj]; simp, j, by rw [List.length_range]; exact h, by simp, fun i hi => ?_⟩
      rw [List.getElem_range]
      show (!(lowL [65 + i] == [97 + j])) = true
      rw [lowL_great (by omega)]
      simp; omega
    rw [this]; rfl
  · rename_i h
    rw [List.find?_eq_none]
    intro x hx
    obtain ⟨i, hi, rfl⟩ := List.mem_map.mp hx
    rw [List.mem_range] at hi
    show ¬ (lowL [65 + i] == [97 + j]) = true
    rw [lowL_great (by omega)]
    simp; omega
theorem tab_small {w : List Nat} {d k : Nat} (hd : d ≤ 15) (h : k < d) : setP lowL (tabP w d k) [65 + k] [w.getD k 0] = ([w.getD k 0], tabP w d (k + 1)) := by
  unfold setP
  rw [lowL_great (by omega), tab_find hd (by omega), if_neg (by omega)]
  unfold tabP
  rw [show min k d = k by omega, show min (k + 1) d = k + 1 by omega, List.range_succ, List.map_append]; rfl
theorem tab_great {w : List Nat} {d k : Nat} (hd : d ≤ 15) (h : ¬ k < d) (h0 : 0 < d) : setP lowL (tabP w d k) [97 + k % d] [w.getD k 0] = ([w.getD (k % d) 0], tabP w d (k + 1)) := by
  have hm := Nat.mod_lt k h0
  unfold setP
  rw [lowL_small (by omega), tab_find hd (by omega), if_pos (by omega)]
  unfold tabP
  rw [show min k d = d by omega, show min (k + 1) d = d by omega]
theorem tab_N {w : List Nat} {d k : Nat} (hd : d ≤ 15) : ∀ h ∈ tabP w d k, isLet h.1 := fun h hh => by
  unfold tabP at hh
  obtain ⟨j, hj, rfl⟩ := List.mem_map.mp hh
  rw [List.mem_range] at hj
  exact ⟨j, by omega, .inr rfl⟩
noncomputable abbrev nsST : Names := [("word", .local), ("size", .cell), ("heap", .local), ("step", .local), ("table", .local), ("alike", .local), ("k", .local), ("name", .local)]
noncomputable abbrev glST : Rho := [("len", .con (.builtin "len")), ("range", .con (.type "range")), ("heapify", .ref 227), ("heappop", .ref 220), ("Headers", .ref 171)]
structure HeapK (C : Cx) (p : Params) : Prop where
  sd : FnAt C 234 (fdOf p 234)
  su : FnAt C 241 (fdOf p 241)
  hp : FnAt C 220 (fdOf p 220)
  hf : FnAt C 227 (fdOf p 227)
  gl : Sub glH C.gl
set_option maxHeartbeats 8000000 in
theorem step_spec {C : Cx} {p : Params} {n : Nat} {cN cV : Array Nat} (K : HdrK C p cN cV) (HK : HeapK C p) (O : NamesOk cN cV isLet isAbc lowL) (hd : C.K.lookup 111 = some (tupO [.none] 0)) (hd2 : C.K.lookup 56 = some (tupO [.none] 0)) (hf : FnAt C 251 (fdOf p 251)) (hg : Sub glST C.gl)
    {w : List Nat} (hw : ∀ c ∈ w, isAbc [c]) (hz : w.length ≤ 30) (hz0 : 0 < w.length) :
    FnSpec C (n + 5) (.ref 251) [.str w] [] [] (fun r σ' => r = .int (stepP w)) := by
  refine FnSpec.of (body := ?bd) ["word"] [.str w] nsST ["size"] glST (sc := ?sc) hf ?hb ?hsc ?hgl ?hbi ?hcl ?hok hg rfl ?_ ?_
  case hb => with_unfolding_all rfl
  case hsc => with_unfolding_all rfl
  case hgl => with_unfolding_all rfl
  case hbi => with_unfolding_all rfl
  case hcl => with_unfolding_all rfl
  case hok => kernel_rfl
  · intro im s vs kvs hk hv hkw
    obtain ⟨v, rfl, h1⟩ := one_v hv
    have : kvs = [] := by have := hkw.1; simpa using this
    subst this
    have e : bindArgs (fdOf p 251) ⟨[v], []⟩ = pure ((["word"].map Str.ofString).zip [v]) := by kernel_rfl
    refine ⟨[v], hv, ?_⟩
    intro M A E Q h
    rw [e]
    exact wpAny_pure h
  · intro env κ
    show Ex _ _ [("len", .con (.builtin "len")), ("range", .con (.type "range")), ("heapify", .ref 227), ("heappop", .ref 220), ("Headers", .ref 171), ("word", .str w)] _ _
    refine Ex.cons <| Ex1.asg <| Ev.call (by walk_at "zm") <| EvL.cons <| Ev.name (by walk_at "zm") <| EvL.nil <| CallP.lenS (by omega) <| As.nameC (by walk_at "zm") (by walk_at "zs") ?_
    refine Ex.cons <| Ex1.asgCompM (hy := ?hy) (hsw := ?hsw) (hsc := ?hsc) <| Ev.call (by walk_at "zm") <| EvL.cons <| Ev.int <| EvL.cons <| Ev.name (by walk_at "zm") <| EvL.nil <| CallP.range2 ⟨[], [], [], _, [("step", .local)], [], [("size", .int w.length)], [], ItSrc.rng (n := w.length - 1) ?hs ?hn, fun _ h => h, .inr rfl, List.nodup_nil, ?hck, ?hrc, (fun _ h => nomatch h), ?_⟩
    case hy => walk_at "zm"
    case hsw => kernel_rfl
    case hsc => kernel_rfl
    case hck => kernel_rfl
    case hrc => exact Sub.cons (by walk_at "zm") .nil
    case hs => exact small1 (by omega) (by omega) (by omega) (by omega)
    case hn => exact rangeSizeN (by omega)
    intro env' κ'
    refine compItems.inv compInner_mono (fun k acc ρ σ => σ = [] ∧ Sub [("size", .int w.length)] ρ ∧ acc = ((List.range' 1 k).filter fun d => w.length % d == 0).map intP) _ 0 ?_ ?_ ?_
    · rintro k q acc ρ σ hq ⟨rfl, hs, rfl⟩
      obtain ⟨hk, rfl⟩ := rints_get hq
      refine Con.rho2 ["size"] hs ?_
      refine As.nameN (j := ((k + 1 : Nat) : Int)) (by omega) (by walk_at "zm") (by walk_at "zs") ?_
      refine Ts.compare <| Ev.binop <| Ev.name (by walk_at "zm") <| Ev.name (by walk_at "zm") <| Op2.fmod (by omega) <| Ev.int <| Op2.eq <| TrueOf.bool ?_
      have e1 : (((w.length : Int) % ((k + 1 : Nat) : Int)) == 0) = (w.length % (k + 1) == 0) := by
        rw [Bool.eq_iff_iff, beq_iff_eq, beq_iff_eq]
        constructor
        · intro h; have : ((w.length % (k + 1) : Nat) : Int) = 0 := by push_cast; push_cast at h; exact h
          exact_mod_cast this
        · intro h; have : ((w.length % (k + 1) : Nat) : Int) = 0 := by rw [h]; rfl
          push_cast at this ⊢; exact this
      rw [e1]
      have hk0 : 0 + k = k := by omega
      have hk1 : 0 + k + 1 = k + 1 := by omega
      refine ite_b (fun hl => ?_) (fun hl => ?_)
      · show compInner _ _ _ _ _ _ _
        refine Ev.name (by walk_at "zm") ⟨?_, rfl, .cons (by walk_at "zm") .nil, ?_⟩
        · rw [List.length_map]
          have := List.length_filter_le (fun d => w.length % d == 0) (List.range' 1 (0 + k))
          rw [List.length_range'] at this
          omega
        · rw [hk1, hk0, range1_succ, List.filter_append, List.map_append, List.filter_cons, if_pos hl]; rfl
      · refine ⟨rfl, .cons (by walk_at "zm") .nil, ?_⟩
        rw [hk1, hk0, range1_succ, List.filter_append, List.map_append, List.filter_cons, if_neg (by rw [hl]; decide)]; simp
    · exact ⟨rfl, .cons (by walk_at "zm") .nil, rfl⟩
    · rintro acc ρ σ ⟨rfl, hs, rfl⟩ H
      rw [rints_len]
      refine As.name (by walk_at "zm") (by walk_at "zs") ?_
      have hdv : ((List.range' 1 (0 + (w.length - 1))).filter fun d => w.length % d == 0) = divs w.length := by rw [Nat.zero_add]; rfl
      rw [hdv]
      have hdl : (divs w.length).length ≤ 30 := by
        unfold divs
        have := List.length_filter_le (fun d => w.length % d == 0) (List.range' 1 (w.length - 1))
        rw [List.length_range'] at this
        omega
      have hdI : ∀ x ∈ (divs w.length).map intP, isI x := fun x hx => by obtain ⟨d, _, rfl⟩ := List.mem_map.mp hx; exact ⟨_, rfl⟩
      refine Ex.cons <| Ex1.expr <| Ev.call (by walk_at "zm") <| EvL.cons <| Ev.name (by walk_at "zm") <| EvL.nil <| CallP.of (φ := []) ((heapify_spec (n := n) HK.hf HK.su HK.sd HK.gl ltI_ok ltI_ok (by rw [List.length_map]; omega) hdI).more (by show n + 3 ≤ n + 4; omega)) (fun _ h => h) (.inr rfl) ?_
      rintro r σ' ⟨rfl, rfl⟩
      rw [List.length_map]
      refine ⟨rfl, ?_⟩
      have hpd := pops_divs (n := w.length) (by omega)
      have hstart : (∀ x ∈ heapifyP ltI ((divs w.length).length / 2) ((divs w.length).map intP), isI x) ∧ (heapifyP ltI ((divs w.length).length / 2) ((divs w.length).map intP)).length ≤ 30 := by
        refine ⟨?_, by rw [heapifyP_len, List.length_map]; exact hdl⟩
        have key : ∀ (k : Nat) (l : List PV), k ≤ l.length → (∀ x ∈ l, isI x) → ∀ x ∈ heapifyP ltI k l, isI x := by
          intro k
          induction k with
          | zero => intro l _ h; exact h
          | succ k ih => intro l hk h; exact ih _ (by rw [siftUp_len]; omega) (siftUp_all (by omega) h)
        exact key _ _ (by rw [List.length_map]; omega) hdI
      generalize heapifyP ltI ((divs w.length).length / 2) ((divs w.length).map intP) = H0 at hpd hstart ⊢
      refine Ex.cons (Ex1.while (fun k ρ σ => ∃ (l : List PV) (rem : List Nat) (f : Nat), k = l.length ∧ σ = [(H, LO.list l)] ∧ Sub [("range", .con (.type "range")), ("heappop", .ref 220), ("Headers", .ref 171), ("word", .str w), ("size", .int w.length), ("heap", .ref H)] ρ ∧ (∀ x ∈ l, isI x) ∧ l.length ≤ 30 ∧ l.length ≤ f ∧ popsP f l = rem.map intP ∧ (∀ d ∈ rem, d ∈ divs w.length) ∧ (rem.find? (per w)).getD w.length = stepP w) ?_ H0.length ?_)
      · rintro k ρ σ ⟨l, rem, f, rfl, rfl, hs, hI, hl30, hlf, hpops, hrem, hres⟩
        refine Tr.rho2 ["range", "heappop", "Headers", "word", "size", "heap"] hs ?_
        refine Ts.compare <| Ev.name (by walk_at "zm") <| Ev.list <| EvL.nil ⟨by simp, Op2.neEmpty (by walk_at "zm") <| TrueOf.bool ?_⟩
        cases hle : l.isEmpty with
        | true =>
          have : l = [] := List.isEmpty_iff.mp hle
          subst this
          show Ex _ _ _ _ _
          have hr : rem = [] := by
            cases f with
            | zero => simpa [popsP] using hpops.symm
            | succ f => simpa [popsP] using hpops.symm
          subst hr
          refine Ex.cons <| Ex1.ret <| Ev.name (by walk_at "zm") ?_
          show PV.int _ = PV.int _
          rw [← hres]; rfl
        | false =>
          have hlen : 0 < l.length := by cases l with | nil => simp at hle | cons a r => simp
          obtain ⟨f, rfl⟩ : ∃ f', f = f' + 1 := ⟨f - 1, by omega⟩
          obtain ⟨d, rem, rfl⟩ : ∃ d r, rem = d :: r := by
            cases rem with
            | nil => simp [popsP, hle] at hpops
            | cons d r => exact ⟨d, r, rfl⟩
          have hpp : (heappopP ltI l).1 = intP d ∧ popsP f (heappopP ltI l).2 = rem.map intP := by
            unfold popsP at hpops
            rw [hle] at hpops
            simpa using hpops
          obtain ⟨a1, a2, a3⟩ := heappop_all (lt := ltI) hlen hI
          show Ex _ _ _ _ _
          refine Ex.cons <| Ex1.asg <| Ev.call (by walk_at "zm") <| EvL.cons <| Ev.name (by walk_at "zm") <| EvL.nil <| CallP.of (φ := []) ((heappop_spec (n := n) HK.hp HK.su HK.sd HK.gl ltI_ok ltI_ok hlen (by omega) hI).more (by show n + 3 ≤ n + 4; omega)) (fun _ h => h) (.inr rfl) ?_
          rintro r σ' ⟨rfl, rfl⟩
          rw [hpp.1]
          refine As.name (by walk_at "zm") (by walk_at "zs") ?_
          generalize hl2 : (heappopP ltI l).2 = l2 at hpp a2 a3 ⊢
          have hdm := hrem d (.head _)
          have hd1 : 1 ≤ d ∧ d ≤ 15 ∧ d < w.length := by
            unfold divs at hdm
            rw [List.mem_filter, List.mem_range'_1] at hdm
            obtain ⟨⟨h1, h2⟩, h3⟩ := hdm
            have h3 : w.length % d = 0 := by simpa using h3
            obtain ⟨c, hc⟩ := Nat.dvd_of_mod_eq_zero h3
            have : 2 ≤ c := by
              rcases c with _ | _ | c
              · omega
              · omega
              · omega
            have : d * 2 ≤ d * c := Nat.mul_le_mul_left d this
            omega
          refine Ex.cons <| Ex1.asgSwap (by walk_at "zm") (by walk_at "zm") (ok := ?ok) <| Ev.tuple <| EvL.cons <| Ev.call (by walk_at "zm") <| EvL.nil <| CallP.of (φ := [(H, .list (([] : List PV) ++ l2))]) ((new_spec (n := n) K hd2).more (by show n + 2 ≤ n + 4; omega)) (by simp) (.inr (by simp)) ?_
          case ok => kernel_rfl
          rintro r σ' ⟨D, rfl, rfl⟩
          refine EvL.cons <| Ev.int <| EvL.nil ⟨by simp, _, _, _, _, rfl, (by walk_at "zs"), (by walk_at "zs"), ?_⟩
          have hsub : ∀ (a : Nat), Sub [("range", PV.con (Value.type "range")), ("heappop", PV.ref 220), ("Headers", PV.ref 171), ("word", PV.str w), ("size", PV.int w.length), ("heap", PV.ref H)] [("range", PV.con (Value.type "range")), ("heappop", PV.ref 220), ("Headers", PV.ref 171), ("word", PV.str w), ("size", PV.int w.length), ("heap", PV.ref H), ("step", intP d), ("alike", .int (a : Int))] := fun a => .cons (by walk_at "zm") (.cons (by walk_at "zm") (.cons (by walk_at "zm") (.cons (by walk_at "zm") (.cons (by walk_at "zm") (.cons (by walk_at "zm") .nil)))))
          have hsub2 : ∀ (a : Nat) (r : Rho), Sub [("range", PV.con (Value.type "range")), ("heappop", PV.ref 220), ("Headers", PV.ref 171), ("word", PV.str w), ("size", PV.int w.length), ("heap", PV.ref H), ("step", intP d), ("alike", .int (a : Int))] (("range", PV.con (Value.type "range")) :: ("heappop", PV.ref 220) :: ("Headers", PV.ref 171) :: ("word", PV.str w) :: ("size", PV.int w.length) :: ("heap", PV.ref H) :: ("step", intP d) :: ("table", hdO D) :: ("alike", .int (a : Int)) :: r) := fun a r => .cons (by walk_at "zm") (.cons (by walk_at "zm") (.cons (by walk_at "zm") (.cons (by walk_at "zm") (.cons (by walk_at "zm") (.cons (by walk_at "zm") (.cons (by walk_at "zm") (.cons (by walk_at "zm") .nil)))))))
          refine Ex.cons (Tr.mono (Q := fun fl ρ₂ σ₂ => fl = .next ∧ ∃ (a : Nat) (t : List PV), σ₂ = [(H, LO.list l2), (D, LO.list t)] ∧ Sub [("range", PV.con (Value.type "range")), ("heappop", PV.ref 220), ("Headers", PV.ref 171), ("word", PV.str w), ("size", PV.int w.length), ("heap", PV.ref H), ("step", intP d), ("alike", .int (a : Int))] ρ₂ ∧ ((a = w.length ∧ per w d = true) ∨ (a < w.length ∧ per w d = false))) ?_ ?_)
          · refine Ex1.for <| Ev.call (by walk_at "zm") <| EvL.cons <| Ev.name (by walk_at "zm") <| EvL.nil <| CallP.range1 ⟨_, [], [(H, LO.list l2), (D, LO.list [])], _, ItSrc.rng (n := w.length) (small1 (by omega) (by omega) (by omega) (by omega)) ?hn, fun _ h => h, .inr rfl, List.nodup_nil, ?_⟩
            case hn => have := rangeSize1 0 w.length; rw [Int.zero_add] at this; exact this
            refine ForT.inv (fun k ρ σ => σ = [(H, LO.list l2), (D, LO.list ((tabP w d k).map hdrP))] ∧ Sub [("range", PV.con (Value.type "range")), ("heappop", PV.ref 220), ("Headers", PV.ref 171), ("word", PV.str w), ("size", PV.int w.length), ("heap", PV.ref H), ("step", intP d), ("table", hdO D), ("alike", .int (k : Int))] ρ ∧ k ≤ w.length ∧ ∀ j, j < k → w[j]? = w[j % d]?) _ 0 ?_ ?_ ?_
            · rintro k q ρ σ hq ⟨rfl, hs, hk0, heq⟩
              obtain ⟨hk, rfl⟩ := rints_get hq
              rw [Nat.zero_add] at hs heq ⊢
              refine Con.rho2 ["range", "heappop", "Headers", "word", "size", "heap", "step", "table", "alike"] hs ?_
              refine As.nameN (j := (k : Int)) (by omega) (by walk_at "zm") (by walk_at "zs") ?_
              have hmod : ((k : Int) % (d : Int)) = ((k % d : Nat) : Int) := by push_cast; rfl
              have hml : k % d < d := Nat.mod_lt k (by omega)
              have hwk : w[k]? = some (w.getD k 0) := by rw [List.getD_eq_getElem?_getD, List.getElem?_eq_getElem hk]; rfl
              have hwm : w[k % d]? = some (w.getD (k % d) 0) := by rw [List.getD_eq_getElem?_getD, List.getElem?_eq_getElem (by omega)]; rfl
              refine Ex.cons <| Ex1.asg <| Ev.sub <| Ev.str <| Ev.binop <| Ev.name (by walk_at "zm") <| Ev.name (by walk_at "zm") <| Op2.fmod (by omega) ?_
              rw [hmod]
              refine Op2.itemS (c := 97 + k % d) (by omega) (by rw [lets_len]; omega) (by rw [lets_len]; omega) (by rw [lets_len]; unfold pyIx; rw [if_neg (by omega), Int.toNat_natCast]; exact lets_at _ (by omega)) ?_
              refine As.name (by walk_at "zm") (by walk_at "zs") ?_
              refine Ex.cons <| Ex1.if <| Ts.compare <| Ev.meth <| Ev.name (by walk_at "zm") ⟨_, _, MethP.obj K.cls K.fset K.tset (by decide), EvL.cons <| Ev.ifexp <| Ts.compare <| Ev.name (by walk_at "zm") <| Ev.name (by walk_at "zm") <| Op2.lt <| TrueOf.bool ?_⟩
              refine ite_b (fun ht => ?_) (fun ht => ?_)
              · have ht : k < d := by have := of_decide_eq_true ht; omega
                have hkm : k % d = k := Nat.mod_eq_of_lt ht
                refine Ev.meth <| Ev.name (by walk_at "zm") ⟨_, _, MethP.str F.slot_str_upper F.type_str_upper, EvL.nil <| CallP.upper (upper_ok _ (by omega)) (by simp) ?_⟩
                rw [hkm]
                refine EvL.cons <| Ev.sub <| Ev.name (by walk_at "zm") <| Ev.name (by walk_at "zm") <| Op2.itemS (c := w.getD k 0) (by omega) (by omega) (by omega) (by unfold pyIx; rw [if_neg (by omega), Int.toNat_natCast]; exact hwk) <| EvL.nil <| CallP.of (φ := [(H, LO.list l2)]) ((set_spec (n := n) K O hd (x := [65 + k]) ⟨k, by omega, .inr rfl⟩ (hw _ (List.mem_of_getElem? hwk)) (tab_N (by omega)) (by unfold tabP; rw [List.length_map, List.length_range]; omega)).more (by show n + 3 ≤ n + 4; omega)) (fun _ h => h) (.inr rfl) ?_
                rintro r σ' ⟨rfl, rfl⟩
                rw [tab_small (by omega) ht]
                refine Ev.sub <| Ev.name (by walk_at "zm") <| Ev.name (by walk_at "zm") <| Op2.itemS (c := w.getD k 0) (by omega) (by omega) (by omega) (by unfold pyIx; rw [if_neg (by omega), Int.toNat_natCast]; exact hwk) <| Op2.neS <| TrueOf.bool ?_
                refine ite_b (fun hn => absurd hn (by simp)) (fun _ => ?_)
                refine Ex.nil ?_
                show Ex _ _ _ _ _
                refine Ex.cons <| Ex1.aug (by walk_at "zm") <| Ev.int <| Op2.iadd (c := ((k + 1 : Nat) : Int)) (by omega) <| store_con (by walk_at "zm") (by walk_at "zs") ?_
                refine Ex.nil ⟨rfl, .cons (by walk_at "zm") (.cons (by walk_at "zm") (.cons (by walk_at "zm") (.cons (by walk_at "zm") (.cons (by walk_at "zm") (.cons (by walk_at "zm") (.cons (by walk_at "zm") (.cons (by walk_at "zm") (.cons (by walk_at "zm") .nil)))))))), by omega, fun j hj => ?_⟩
                by_cases hjk : j = k
                · subst hjk; rw [hkm]
                · exact heq j (by omega)
              · have ht : ¬ k < d := by have := of_decide_eq_false ht; omega
                refine Ev.name (by walk_at "zm") ?_
                refine EvL.cons <| Ev.sub <| Ev.name (by walk_at "zm") <| Ev.name (by walk_at "zm") <| Op2.itemS (c := w.getD k 0) (by omega) (by omega) (by omega) (by unfold pyIx; rw [if_neg (by omega), Int.toNat_natCast]; exact hwk) <| EvL.nil <| CallP.of (φ := [(H, LO.list l2)]) ((set_spec (n := n) K O hd (x := [97 + k % d]) ⟨k % d, by omega, .inl rfl⟩ (hw _ (List.mem_of_getElem? hwk)) (tab_N (by omega)) (by unfold tabP; rw [List.length_map, List.length_range]; omega)).more (by show n + 3 ≤ n + 4; omega)) (fun _ h => h) (.inr rfl) ?_
                rintro r σ' ⟨rfl, rfl⟩
                rw [tab_great (by omega) ht (by omega)]
                refine Ev.sub <| Ev.name (by walk_at "zm") <| Ev.name (by walk_at "zm") <| Op2.itemS (c := w.getD k 0) (by omega) (by omega) (by omega) (by unfold pyIx; rw [if_neg (by omega), Int.toNat_natCast]; exact hwk) <| Op2.neS <| TrueOf.bool ?_
                refine ite_b (fun hn => ?_) (fun hn => ?_)
                · refine Ex.cons <| Ex1.brk ?_
                  refine ⟨rfl, k, _, rfl, ?_, .inr ⟨hk, ?_⟩⟩
                  · exact .cons (by walk_at "zm") (.cons (by walk_at "zm") (.cons (by walk_at "zm") (.cons (by walk_at "zm") (.cons (by walk_at "zm") (.cons (by walk_at "zm") (.cons (by walk_at "zm") (.cons (by walk_at "zm") .nil)))))))
                  · cases hp : per w d with
                    | false => rfl
                    | true =>
                      unfold per at hp
                      rw [List.all_eq_true] at hp
                      have := hp k (List.mem_range.mpr hk)
                      rw [hwk, hwm] at this
                      have e : w.getD k 0 = w.getD (k % d) 0 := by simpa using this
                      rw [e] at hn
                      simp at hn
                · refine Ex.nil ?_
                  show Ex _ _ _ _ _
                  refine Ex.cons <| Ex1.aug (by walk_at "zm") <| Ev.int <| Op2.iadd (c := ((k + 1 : Nat) : Int)) (by omega) <| store_con (by walk_at "zm") (by walk_at "zs") ?_
                  refine Ex.nil ⟨rfl, .cons (by walk_at "zm") (.cons (by walk_at "zm") (.cons (by walk_at "zm") (.cons (by walk_at "zm") (.cons (by walk_at "zm") (.cons (by walk_at "zm") (.cons (by walk_at "zm") (.cons (by walk_at "zm") (.cons (by walk_at "zm") .nil)))))))), by omega, fun j hj => ?_⟩
                  by_cases hjk : j = k
                  · subst hjk; rw [hwk, hwm]
                    have : w.getD (j % d) 0 = w.getD j 0 := by simpa using hn
                    rw [this]
                  · exact heq j (by omega)
            · exact ⟨rfl, .cons (by walk_at "zm") (.cons (by walk_at "zm") (.cons (by walk_at "zm") (.cons (by walk_at "zm") (.cons (by walk_at "zm") (.cons (by walk_at "zm") (.cons (by walk_at "zm") (.cons (by walk_at "zm") (.cons (by walk_at "zm") .nil)))))))), Nat.zero_le _, fun j h => absurd h (Nat.not_lt_zero j)⟩
            · rintro ρ σ ⟨rfl, hs, hk0, heq⟩
              rw [rints_len, Nat.zero_add] at hs heq ⊢
              refine ⟨rfl, w.length, _, rfl, fun p hp => hs p (hsub2 _ _ p hp), .inl ⟨rfl, ?_⟩⟩
              · unfold per; rw [List.all_eq_true]; intro k hk; rw [List.mem_range] at hk; rw [heq k hk]; simp
          · rintro fl ρ₂ σ₂ ⟨rfl, a, t, rfl, hs₂, hfin⟩
            show Ex _ _ _ _ _
            refine Tr.rho2 ["range", "heappop", "Headers", "word", "size", "heap", "step", "alike"] hs₂ ?_
            refine Tr.led (σ' := [(H, LO.list l2)]) (by simp) (by simp) ?_
            refine Ex.cons <| Ex1.if <| Ts.compare <| Ev.name (by walk_at "zm") <| Ev.name (by walk_at "zm") <| Op2.eq <| TrueOf.bool ?_
            refine ite_b (fun ht => ?_) (fun ht => ?_)
            · have ha : a = w.length := by have := of_decide_eq_true ht; omega
              have hper : per w d = true := by rcases hfin with ⟨_, h⟩ | ⟨h, _⟩; exact h; omega
              refine Ex.cons <| Ex1.ret <| Ev.name (by walk_at "zm") ?_
              show intP d = PV.int _
              rw [← hres, List.find?_cons, hper]; rfl
            · have ha : a ≠ w.length := by have := of_decide_eq_false ht; omega
              have hper : per w d = false := by rcases hfin with ⟨h, _⟩ | ⟨_, h⟩; exact absurd h ha; exact h
              refine Ex.nil ?_
              refine Ex.nil ⟨l2.length, by omega, l2, rem, f, rfl, rfl, hsub a, a2, by omega, by omega, hpp.2, fun x hx => hrem x (.tail _ hx), ?_⟩
              rw [← hres, List.find?_cons, hper]
      · exact ⟨H0, divs w.length, 30, rfl, rfl, .cons (by walk_at "zm") (.cons (by walk_at "zm") (.cons (by walk_at "zm") (.cons (by walk_at "zm") (.cons (by walk_at "zm") (.cons (by walk_at "zm") .nil))))), hstart.1, hstart.2, hstart.2, hpd, fun _ h => h, rfl⟩
end Mine
end
section
open PySem PySem.W PyProof.Rows PySem.Calls
set_option Elab.async false
set_option maxRecDepth 100000
namespace Mine
open Builtin.Str in
theorem occ_one {x y : Str} {k lim : Nat} (hl : 1 ≤ lim) (hk : k + y.length ≤ x.length) (h : ∀ i, i + y.length ≤ x.length → (subAt x y i = true ↔ i = k)) : occurrences x y 0 x.length lim = [k] := by
  rw [StrLaws.occ_eq]
  have H1 : ∀ (l : List Nat), k ∉ l → ∀ (st : Array Nat × Nat), (forIn (m := Id) l st (StrLaws.occBody x y x.length lim)).run.fst = st.fst := by
    intro l
    induction l with
    | nil => intro _ st; rfl
    | cons i r ih =>
      intro hn st
      have hi : ¬ (((st.fst.size < lim ∧ st.snd ≤ i) ∧ i + y.length ≤ x.length) ∧ subAt x y i = true) := fun c => hn (by rw [(h i c.1.2).mp c.2]; exact .head _)
      simp only [List.forIn_cons, StrLaws.occBody, if_neg hi]
      exact ih (fun m => hn (.tail _ m)) _
  have H2 : ∀ (l : List Nat), k ∈ l → l.Nodup → (forIn (m := Id) l ((#[] : Array Nat), 0) (StrLaws.occBody x y x.length lim)).run.fst = #[k] := by
    intro l
    induction l with
    | nil => intro hm; cases hm
    | cons i r ih =>
      intro hm hd
      rw [List.nodup_cons] at hd
      by_cases e : i = k
      · subst e
        have hi : ((((#[] : Array Nat).size < lim ∧ 0 ≤ i) ∧ i + y.length ≤ x.length) ∧ subAt x y i = true) := ⟨⟨⟨by simp; omega, Nat.zero_le _⟩, hk⟩, (h i hk).mpr rfl⟩
        simp only [List.forIn_cons, StrLaws.occBody, if_pos hi]
        exact H1 r hd.1 _
      · have hi : ¬ ((((#[] : Array Nat).size < lim ∧ 0 ≤ i) ∧ i + y.length ≤ x.length) ∧ subAt x y i = true) := fun c => e ((h i c.1.2).mp c.2)
        simp only [List.forIn_cons, StrLaws.occBody, if_neg hi]
        exact ih (by rcases List.mem_cons.mp hm with h | h; exact absurd h.symm e; exact h) hd.2
  rw [H2 _ (by rw [List.mem_range'_1]; omega) (List.nodup_range' ..)]
theorem sub_at {a b t : List Nat} {h : Nat} (ha : h ∉ a) (hb : h ∉ t ++ b) : ∀ i, (Builtin.Str.subAt (S (a ++ (h :: t) ++ b)) (S (h :: t)) i = true ↔ i = a.length) := fun i => by
  rw [StrLaws.subAt_eq]
  show (((a ++ (h :: t) ++ b).drop i).take (S (h :: t)).length == (h :: t)) = true ↔ _
  rw [show (S (h :: t)).length = t.length + 1 from S_len _, beq_iff_eq]
  constructor
  · intro e
    have e0 : (((a ++ (h :: t) ++ b).drop i).take (t.length + 1))[0]? = some h := by rw [e]; rfl
    rw [List.getElem?_take_of_lt (by omega), List.getElem?_drop, Nat.add_zero, List.append_assoc] at e0
    by_cases h1 : i < a.length
    · rw [List.getElem?_append_left h1] at e0; exact absurd (List.mem_of_getElem? e0) ha
    · rw [List.getElem?_append_right (by omega)] at e0
      by_cases h2 : i = a.length
      · exact h2
      · obtain ⟨j, hj⟩ : ∃ j, i - a.length = j + 1 := ⟨i - a.length - 1, by omega⟩
        rw [hj, List.cons_append, List.getElem?_cons_succ] at e0
        exact absurd (List.mem_of_getElem? e0) hb
  · rintro rfl
    rw [List.append_assoc, List.drop_left]
    exact List.take_left' rfl
theorem occ_once {a b t : List Nat} {h lim : Nat} (hl : 1 ≤ lim) (ha : h ∉ a) (hb : h ∉ t ++ b) : Builtin.Str.occurrences (S (a ++ (h :: t) ++ b)) (S (h :: t)) 0 (S (a ++ (h :: t) ++ b)).length lim = [a.length] :=
  occ_one hl (by rw [S_len, S_len, List.length_append, List.length_append]; omega) fun i _ => sub_at ha hb i
theorem count_once {a b t : List Nat} {h : Nat} (ha : h ∉ a) (hb : h ∉ t ++ b) : Txt.count (S (a ++ (h :: t) ++ b)) (S (h :: t)) = 1 := by
  unfold Txt.count
  rw [occ_once (by omega) ha hb]; rfl
theorem sub_split {a b c : List Nat} : Builtin.Str.strSub (S (a ++ c ++ b)) 0 a.length = S a ∧ Builtin.Str.strSub (S (a ++ c ++ b)) (a.length + c.length) (a ++ c ++ b).length = S b := by
  have e : ∀ x y : Str, x.cps.toList = y.cps.toList → x = y := fun ⟨x⟩ ⟨y⟩ h => by congr 1; exact Array.toList_inj.mp h
  refine ⟨e _ _ ?_, e _ _ ?_⟩
  · rw [StrLaws.strSub_toList]
    show ((a ++ c ++ b).drop 0).take (a.length - 0) = a
    rw [List.drop_zero, Nat.sub_zero, List.append_assoc, List.take_left]
  · rw [StrLaws.strSub_toList]
    show ((a ++ c ++ b).drop (a.length + c.length)).take _ = b
    rw [← List.length_append, List.drop_left]
    exact List.take_of_length_le (by rw [List.length_append (as := a ++ c)]; omega)
theorem split_once {a b t : List Nat} {h : Nat} (ha : h ∉ a) (hb : h ∉ t ++ b) : Txt.split (S (a ++ (h :: t) ++ b)) (S (h :: t)) = [S a, S b] := by
  have hs := (sub_at ha hb a.length).mpr rfl
  have h1 : (decide ((S (a ++ (h :: t) ++ b)).length < (S (h :: t)).length) || decide (Builtin.Str.strKind (S (a ++ (h :: t) ++ b)) < Builtin.Str.strKind (S (h :: t)))) = false := by
    rw [Bool.or_eq_false_iff, decide_eq_false_iff_not, decide_eq_false_iff_not]
    exact ⟨by rw [S_len, S_len, List.length_append, List.length_append]; omega, Nat.not_lt.mpr (PySem.W.kind_le _ _ hs)⟩
  unfold Txt.split
  rw [h1, occ_once (by omega) ha hb]
  show Builtin.Str.partsBetween _ _ _ = _
  unfold Builtin.Str.partsBetween
  show [Builtin.Str.strSub _ 0 a.length, Builtin.Str.strSub _ (a.length + (S (h :: t)).length) (S (a ++ (h :: t) ++ b)).length] = _
  rw [S_len, S_len, sub_split.1, sub_split.2]
/-- the pattern that _law_place makes, and its text -/
theorem transP_word {q : List Nat} : ∀ (w : List Nat) (acc : Parts) (r : List Nat), (∀ c ∈ w, c ≠ 42 ∧ c ≠ 63) → transP q (w ++ r) acc = transP q r (acc ++ w.map fun c => some [c])
  | [], acc, r, _ => by simp
  | c :: w, acc, r, h => by
    show transP q (c :: (w ++ r)) acc = _
    rw [transP, if_neg (h c (.head _)).1, if_neg (h c (.head _)).2, transP_word w _ r fun d hd => h d (.tail _ hd)]
    simp
theorem spanS_some : ∀ (w : List Nat) (r : Parts), spanS ((w.map fun c => some [c]) ++ none :: r) = (w.map fun c => [c], none :: r)
  | [], r => rfl
  | c :: w, r => by
    show spanS (some [c] :: ((w.map fun c => some [c]) ++ none :: r)) = _
    rw [spanS_cons, spanS_some w r]; rfl
theorem flat_ones (w : List Nat) : (w.map fun c => [c]).flatten = w := by
  induction w with
  | nil => rfl
  | cons c w ih => rw [List.map_cons, List.flatten_cons, ih]; rfl
noncomputable def patW (w : List Nat) : List Nat := cs "?*" ++ w ++ cs "*?"
theorem place_text {w : List Nat} (h0 : 0 < w.length) (h : ∀ c ∈ w, c ≠ 42 ∧ c ≠ 63) : joinP (transP (cs ".") (patW w) []) = cs "(?s:" ++ (cs "." ++ cs "(?>.*?" ++ (w ++ cs ").*.")) ++ cs ")\\Z" := by
  have e : transP (cs ".") (patW w) [] = some (cs ".") :: none :: ((w.map fun c => some [c]) ++ [none, some (cs ".")]) := by
    unfold patW
    have c1 : cs "?*" = [63, 42] := by decide
    have c2 : cs "*?" = [42, 63] := by decide
    rw [c1, c2, List.append_assoc]
    show transP (cs ".") (63 :: 42 :: (w ++ [42, 63])) [] = _
    rw [transP, if_neg (by decide), if_pos rfl, transP, if_pos rfl, if_neg (by decide), transP_word w _ _ h, transP, if_pos rfl, if_neg ?_, transP, if_neg (by decide), if_pos rfl, transP]
    · simp
    · intro hl
      rw [List.getLast?_append, List.getLast?_map] at hl
      cases hw : w.getLast? with
      | none => rw [List.getLast?_eq_none_iff] at hw; subst hw; simp at h0
      | some c => rw [hw] at hl; simp at hl
  rw [e]
  unfold joinP
  rw [spanS_cons, spanS_none]
  have hlen : (some (cs ".") :: none :: ((w.map fun c => some [c]) ++ [none, some (cs ".")])).length = w.length + 2 + 1 + 1 := by simp
  rw [hlen]
  have j1 : joinT (w.length + 2 + 1 + 1) (none :: ((w.map fun c => some [c]) ++ [none, some (cs ".")])) [cs "."] = joinT (w.length + 2 + 1) [none, some (cs ".")] ([cs "."] ++ [cs "(?>.*?" ++ w ++ cs ")"]) := by
    rw [joinT, if_neg (by simp), spanS_some, if_neg (by simp), flat_ones]
  show cs "(?s:" ++ (joinT (w.length + 2 + 1 + 1) (none :: ((w.map fun c => some [c]) ++ [none, some (cs ".")])) [cs "."]).flatten ++ cs ")\\Z" = _
  rw [j1, joinT, if_neg (by simp)]
  show cs "(?s:" ++ ([cs "."] ++ [cs "(?>.*?" ++ w ++ cs ")"] ++ [cs ".*", [cs "."].flatten]).flatten ++ cs ")\\Z" = _
  have c3 : cs ").*." = cs ")" ++ (cs ".*" ++ cs ".") := by decide
  rw [c3]
  simp
end Mine
end
section
open PySem PySem.W PyProof.Rows PySem.Calls
set_option Elab.async false
set_option maxRecDepth 100000
namespace Mine
local macro_rules | `(tactic| walk_at "zm") => `(tactic| repeat (first | exact List.Mem.head _ | apply List.Mem.tail))
local macro_rules | `(tactic| walk_at "zs") => `(tactic| repeat (first | exact SetR.head | exact SetR.nil | (apply SetR.tl; decide)))
theorem clampN {n d k : Nat} (h : k ≤ n) : clampI n d (some (k : Int)) = k := by
  show (if ((k : Int)) < 0 then ((k : Int) + n).toNat else min (k : Int).toNat n) = k
  rw [if_neg (by omega), Int.toNat_natCast]; omega
theorem clampM {n d k : Nat} (h0 : 0 < k) (h : k ≤ n) : clampI n d (some (-(k : Int))) = n - k := by
  show (if (-(k : Int)) < 0 then (-(k : Int) + n).toNat else _) = n - k
  rw [if_pos (by omega)]; omega
theorem sl_mid {α : Type} {a m b : List α} (hb : 0 < b.length) : pySl (a ++ m ++ b) (some (a.length : Int)) (some (-(b.length : Int))) = m := by
  unfold pySl
  have hl : (a ++ m ++ b).length = a.length + m.length + b.length := by rw [List.length_append, List.length_append]
  rw [clampN (by omega), clampM hb (by omega), hl, List.append_assoc, List.drop_left]
  exact List.take_left' (by omega)
theorem sl_head {α : Type} {a m b : List α} : pySl (a ++ m ++ b) none (some (a.length : Int)) = a := by
  unfold pySl
  have hl : (a ++ m ++ b).length = a.length + m.length + b.length := by rw [List.length_append, List.length_append]
  rw [clampN (by omega), List.append_assoc]
  show (List.drop 0 _).take (a.length - 0) = a
  rw [List.drop_zero]
  exact List.take_left' (by omega)
theorem sl_tail {α : Type} {a m b : List α} (hb : 0 < b.length) : pySl (a ++ m ++ b) (some (-(b.length : Int))) none = b := by
  unfold pySl
  have hl : (a ++ m ++ b).length = (a ++ m).length + b.length := by rw [List.length_append]
  rw [clampM hb (by omega), hl, Nat.add_sub_cancel, List.drop_left]
  exact List.take_of_length_le (by show _ ≤ _ + _ - _; omega)
theorem sl_from {α : Type} {l : List α} {k n : Nat} (h : k + n ≤ l.length) : pySl l (some (k : Int)) (some ((k : Int) + (n : Int))) = (l.drop k).take n := by
  unfold pySl
  rw [show ((k : Int) + (n : Int)) = ((k + n : Nat) : Int) by omega, clampN (d := 0) (k := k) (by omega), clampN (k := k + n) h]
  congr 1; omega
/-- least turn of the word that gives the word again; the word's length counts as none -/
noncomputable def turn (w : List Nat) (k : Nat) : Bool := ((w ++ w).drop k).take w.length == w
noncomputable def placeP (w : List Nat) : Int := match (List.range' 1 w.length).find? (turn w) with
  | some k => if k < w.length then (k : Int) else -1
  | none => -1
noncomputable abbrev nsPL : Names := [("word", .local), ("text", .local), ("pieces", .local), ("ahead", .local), ("body", .local), ("behind", .local), ("twice", .local), ("k", .local)]
noncomputable abbrev glPL : Rho := [("translate", .ref 187), ("len", .con (.builtin "len")), ("range", .con (.type "range"))]
theorem aTop : (cs "(?s:").length = 4 ∧ (cs ")\\Z").length = 3 := by decide
set_option maxHeartbeats 8000000 in
theorem place_spec {C : Cx} {p : Params} {n : Nat} {es : List DictEntry} (T : TrK C p es) (hf : FnAt C 258 (fdOf p 258)) (hg : Sub glPL C.gl)
    {w : List Nat} (hw : ∀ c ∈ w, isAbc [c]) (hq : ∀ j, j < 3 → PlainC es (97 + j)) (hz : w.length ≤ 30) (hz0 : 0 < w.length) :
    FnSpec C (n + 4) (.ref 258) [.str w] [] [] (fun r σ' => r = .int (placeP w)) := by
  refine FnSpec.of (body := ?bd) ["word"] [.str w] nsPL [] glPL (sc := ?sc) hf ?hb ?hsc ?hgl ?hbi ?hcl ?hok hg rfl ?_ ?_
  case hb => with_unfolding_all rfl
  case hsc => with_unfolding_all rfl
  case hgl => with_unfolding_all rfl
  case hbi => with_unfolding_all rfl
  case hcl => with_unfolding_all rfl
  case hok => kernel_rfl
  · intro im s vs kvs hk hv hkw
    obtain ⟨v, rfl, h1⟩ := one_v hv
    have : kvs = [] := by have := hkw.1; simpa using this
    subst this
    have e : bindArgs (fdOf p 258) ⟨[v], []⟩ = pure ((["word"].map Str.ofString).zip [v]) := by kernel_rfl
    refine ⟨[v], hv, ?_⟩
    intro M A E Q h
    rw [e]
    exact wpAny_pure h
  · intro env κ
    show Ex _ _ [("translate", .ref 187), ("len", .con (.builtin "len")), ("range", .con (.type "range")), ("word", .str w)] _ _
    have hc : ∀ c ∈ w, ∃ j, j < 3 ∧ c = 97 + j := fun c h => by obtain ⟨j, hj, e⟩ := hw c h; exact ⟨j, hj, by simpa using e⟩
    have hpat : ∀ c ∈ patW w, c = 42 ∨ c = 63 ∨ PlainC es c := fun c h => by
      unfold patW at h
      rcases List.mem_append.mp h with h | h
      · rcases List.mem_append.mp h with h | h
        · have : cs "?*" = [63, 42] := by decide
          rw [this] at h; simp at h; omega
        · obtain ⟨j, hj, rfl⟩ := hc c h; exact .inr (.inr (hq j hj))
      · have : cs "*?" = [42, 63] := by decide
        rw [this] at h; simp at h; omega
    have hpl : (patW w).length = w.length + 4 := by
      unfold patW; rw [List.length_append, List.length_append, show (cs "?*").length = 2 by decide, show (cs "*?").length = 2 by decide]; omega
    refine Ex.cons <| Ex1.asg <| Ev.call (by walk_at "zm") <| EvL.cons <| Ev.binop <| Ev.binop <| Ev.str <| Ev.name (by walk_at "zm") <| Op2.addS (by rw [show (cs "?*").length = 2 by decide]; omega) <| Ev.str <| Op2.addS (by rw [List.length_append, show (cs "?*").length = 2 by decide, show (cs "*?").length = 2 by decide]; omega) <| EvL.nil <| CallP.of (φ := []) ((translate_spec (n := n) T (pat := patW w) hpat (by omega)).more (by show n + 3 ≤ n + 3; omega)) (fun _ h => h) (.inr rfl) ?_
    rintro r σ' rfl
    refine As.name (by walk_at "zm") (by walk_at "zs") ?_
    rw [place_text hz0 fun c h => by obtain ⟨j, hj, rfl⟩ := hc c h; omega]
    generalize hM : cs "." ++ cs "(?>.*?" ++ (w ++ cs ").*.") = M
    have hMl : M.length = w.length + 11 := by
      rw [← hM, List.length_append, List.length_append, List.length_append, show (cs ".").length = 1 by decide, show (cs "(?>.*?").length = 6 by decide, show (cs ").*.").length = 4 by decide]; omega
    have hXl : (cs "(?s:" ++ M ++ cs ")\\Z").length = w.length + 18 := by rw [List.length_append, List.length_append, aTop.1, aTop.2, hMl]; omega
    have s1 : pySl (cs "(?s:" ++ M ++ cs ")\\Z") (some (4 : Int)) (some (-(3 : Int))) = M := sl_mid (by decide)
    have s2 : pySl (cs "(?s:" ++ M ++ cs ")\\Z") none (some (4 : Int)) = cs "(?s:" := sl_head
    have s3 : pySl (cs "(?s:" ++ M ++ cs ")\\Z") (some (-(3 : Int))) none = cs ")\\Z" := sl_tail (by decide)
    have n40 : ∀ c ∈ w, c ≠ 40 ∧ c ≠ 41 ∧ c ≠ 46 := fun c h => by obtain ⟨j, hj, rfl⟩ := hc c h; omega
    have sp : Txt.split (S M) (S (cs "(?>.*?")) = [S (cs "."), S (w ++ cs ").*.")] := by
      rw [← hM]
      refine split_once (h := 40) (t := cs "?>.*?") (by decide) fun h => ?_
      rcases List.mem_append.mp h with h | h
      · exact absurd h (by decide)
      · rcases List.mem_append.mp h with h | h
        · exact (n40 _ h).1 rfl
        · exact absurd h (by decide)
    generalize hX : cs "(?s:" ++ M ++ cs ")\\Z" = X at hXl s1 s2 s3 ⊢
    refine Ex.cons <| Ex1.asg <| Ev.meth <| Ev.slice <| Ev.name (by walk_at "zm") <| Ev.int ⟨_, rfl, Ev.unary <| Ev.int <| Op1.neg ⟨_, rfl, SliceP.str (by omega) ?_⟩⟩
    rw [s1]
    refine ⟨_, _, MethP.str F.slot_str_split F.type_str_split, EvL.cons <| Ev.str <| EvL.nil <| CallP.split (ls := [cs ".", w ++ cs ").*."]) sp (by decide) (by omega) <| As.name (by walk_at "zm") (by walk_at "zs") ?_⟩
    have e3 : cs ").*." = [41] ++ cs ".*." := by decide
    have e4 : cs ")" = [41] := by decide
    have b41 : 41 ∉ w := fun h => (n40 _ h).2.1 rfl
    have hcount : Txt.count (S (w ++ cs ").*.")) (S (cs ")")) = 1 := by
      rw [e3, e4, ← List.append_assoc]; exact count_once b41 (by decide)
    have sp2 : Txt.split (S (w ++ cs ").*.")) (S (cs ")")) = [S w, S (cs ".*.")] := by
      rw [e3, e4, ← List.append_assoc]; exact split_once b41 (by decide)
    have wl : (w ++ cs ").*.").length = w.length + 4 := by rw [List.length_append, show (cs ").*.").length = 4 by decide]
    show Ex _ _ _ _ _
    refine Ex.cons <| Ex1.if <| Ts.bool <| TsAll.or <| Ts.compare <| Ev.binop <| Ev.slice <| Ev.name (by walk_at "zm") <| Ev.int ⟨_, rfl, SliceP.str (by omega) ?_⟩
    rw [s2]
    refine Ev.slice <| Ev.name (by walk_at "zm") <| Ev.unary <| Ev.int <| Op1.neg ⟨_, rfl, SliceP.str (by omega) ?_⟩
    rw [s3]
    refine Op2.addS (by decide) <| Ev.str <| Op2.neS <| TrueOf.bool ?_
    refine ite_b (fun h => absurd h (by decide)) (fun _ => ?_)
    refine TsAll.or <| Ts.compare <| Ev.call (by walk_at "zm") <| EvL.cons <| Ev.name (by walk_at "zm") <| EvL.nil <| CallP.lenL (by simp) <| Ev.int <| Op2.ne <| TrueOf.bool ?_
    refine ite_b (fun h => absurd h (by simp)) (fun _ => ?_)
    refine TsAll.or <| Ts.compare <| Ev.meth <| Ev.sub <| Ev.name (by walk_at "zm") <| Ev.int <| Op2.itemL (p := .str (w ++ cs ").*.")) (by simp) (by simp) (by simp) rfl ⟨_, _, MethP.str F.slot_str_count F.type_str_count, EvL.cons <| Ev.str <| EvL.nil <| CallP.count hcount <| Ev.int <| Op2.ne <| TrueOf.bool ?_⟩
    refine ite_b (fun h => absurd h (by decide)) (fun _ => ?_)
    refine TsAll.nilOr ?_
    show Ex _ _ _ _ _
    refine Ex.nil ?_
    show Ex _ _ _ _ _
    refine Ex.cons <| Ex1.asg <| Ev.sub <| Ev.name (by walk_at "zm") <| Ev.int <| Op2.itemL (p := .str (cs ".")) (by simp) (by simp) (by simp) rfl <| As.name (by walk_at "zm") (by walk_at "zs") ?_
    refine Ex.cons <| Ex1.asgTup (Ev.meth <| Ev.sub <| Ev.name (by walk_at "zm") <| Ev.int <| Op2.itemL (p := .str (w ++ cs ").*.")) (by simp) (by simp) (by simp) rfl ⟨_, _, MethP.str F.slot_str_split F.type_str_split, EvL.cons <| Ev.str <| EvL.nil <| CallP.split (ls := [w, cs ".*."]) sp2 (by decide) (by omega) <| As.lst (As.name (by walk_at "zm") (by walk_at "zs") <| As.name (by walk_at "zm") (by walk_at "zs") ?_) rfl rfl⟩) (fun _ _ _ _ => rfl)
    show Ex _ _ _ _ _
    have s4 : pySl (cs ".*.") (some (2 : Int)) none = cs "." := by decide
    refine Ex.cons <| Ex1.if <| Ts.bool <| TsAll.or <| Ts.compare <| Ev.meth <| Ev.name (by walk_at "zm") ⟨_, _, MethP.str F.slot_str_strip F.type_str_strip, EvL.cons <| Ev.str <| EvL.nil <| CallP.stripC (m := []) (by decide +kernel) (by decide) <| Ev.str <| Op2.neS <| TrueOf.bool ?_⟩
    refine ite_b (fun h => absurd h (by decide)) (fun _ => ?_)
    refine TsAll.or <| Ts.compare <| Ev.slice <| Ev.name (by walk_at "zm") <| Ev.int ⟨_, rfl, SliceP.str (by decide) <| Ev.str <| Op2.neS <| TrueOf.bool ?_⟩
    refine ite_b (fun h => absurd h (by decide)) (fun _ => ?_)
    refine TsAll.or <| Ts.compare <| Ev.meth <| Ev.slice <| Ev.name (by walk_at "zm") <| Ev.int ⟨_, rfl, SliceP.str (by decide) ?_⟩
    rw [s4]
    refine ⟨_, _, MethP.str F.slot_str_strip F.type_str_strip, EvL.cons <| Ev.str <| EvL.nil <| CallP.stripC (m := []) (by decide +kernel) (by decide) <| Ev.str <| Op2.neS <| TrueOf.bool ?_⟩
    refine ite_b (fun h => absurd h (by decide)) (fun _ => ?_)
    refine TsAll.nilOr ?_
    show Ex _ _ _ _ _
    refine Ex.nil ?_
    show Ex _ _ _ _ _
    refine Ex.cons <| Ex1.asg <| Ev.binop <| Ev.name (by walk_at "zm") <| Ev.name (by walk_at "zm") <| Op2.addS (by omega) <| As.name (by walk_at "zm") (by walk_at "zs") ?_
    refine Ex.cons <| Ex1.for <| Ev.call (by walk_at "zm") <| EvL.cons <| Ev.call (by walk_at "zm") <| EvL.cons <| Ev.name (by walk_at "zm") <| EvL.nil <| CallP.lenS (by decide) ?_
    rw [show (((cs ".").length : Nat) : Int) = 1 by decide]
    refine EvL.cons <| Ev.binop <| Ev.call (by walk_at "zm") <| EvL.cons <| Ev.name (by walk_at "zm") <| EvL.nil <| CallP.lenS (by omega) <| Ev.int <| Op2.add <| EvL.nil <| CallP.range2 ⟨_, [], _, _, ItSrc.rng (n := w.length) (small1 (by omega) (by omega) (by omega) (by omega)) (rangeSizeN (by omega)), fun _ h => h, .inr rfl, List.nodup_nil, ?_⟩
    refine ForT.inv (fun i ρ σ => Sub [("len", PV.con (.builtin "len")), ("word", .str w), ("body", .str w), ("behind", .str (cs ".*.")), ("twice", .str (w ++ w))] ρ ∧ ∀ j, j < i → turn w (1 + j) = false) _ 0 ?_ ?_ ?_
    · rintro i q ρ σ hq ⟨hs, hno⟩
      obtain ⟨hi, rfl⟩ := rints_get hq
      rw [Nat.zero_add] at hno ⊢
      refine Con.rho2 ["len", "word", "body", "behind", "twice"] hs ?_
      refine As.nameN (j := ((i + 1 : Nat) : Int)) (by omega) (by walk_at "zm") (by walk_at "zs") ?_
      have hww : (w ++ w).length = w.length + w.length := List.length_append
      refine Ex.cons <| Ex1.if <| Ts.compare <| Ev.slice <| Ev.name (by walk_at "zm") <| Ev.name (by walk_at "zm") ⟨_, rfl, Ev.binop <| Ev.name (by walk_at "zm") <| Ev.call (by walk_at "zm") <| EvL.cons <| Ev.name (by walk_at "zm") <| EvL.nil <| CallP.lenS (by omega) <| Op2.add ⟨_, rfl, SliceP.str (by omega) ?_⟩⟩
      rw [sl_from (k := i + 1) (n := w.length) (by omega)]
      refine Ev.name (by walk_at "zm") <| Op2.eqS <| TrueOf.bool ?_
      refine ite_b (fun ht => ?_) (fun ht => ?_)
      · have hf : (List.range' 1 w.length).find? (turn w) = some (i + 1) := by
          rw [List.find?_eq_some_iff_getElem]
          refine ⟨ht, i, by rw [List.length_range']; exact hi, by rw [List.getElem_range']; omega, fun j hj => ?_⟩
          rw [List.getElem_range', Nat.one_mul, hno j hj]; rfl
        refine Ex.cons <| Ex1.ret <| Ev.ifexp <| Ts.compare <| Ev.binop <| Ev.binop <| Ev.binop <| Ev.name (by walk_at "zm") <| Ev.call (by walk_at "zm") <| EvL.cons <| Ev.name (by walk_at "zm") <| EvL.nil <| CallP.lenS (by omega) <| Op2.add <| Ev.call (by walk_at "zm") <| EvL.cons <| Ev.name (by walk_at "zm") <| EvL.nil <| CallP.lenS (by decide) <| Op2.add <| Ev.int <| Op2.sub <| Ev.call (by walk_at "zm") <| EvL.cons <| Ev.name (by walk_at "zm") <| EvL.nil <| CallP.lenS (by omega) <| Op2.le <| TrueOf.bool ?_
        have l3 : (cs ".*.").length = 3 := by decide
        refine ite_b (fun hc => ?_) (fun hc => ?_)
        · have hc := of_decide_eq_true hc
          rw [l3, hww] at hc
          refine Ev.name (by walk_at "zm") ?_
          show PV.int _ = PV.int (placeP w)
          unfold placeP; rw [hf]; dsimp only; rw [if_pos (by omega)]
        · have hc := of_decide_eq_false hc
          rw [l3, hww] at hc
          refine Ev.unary <| Ev.int <| Op1.neg ?_
          show PV.int _ = PV.int (placeP w)
          unfold placeP; rw [hf]; dsimp only; rw [if_neg (by omega)]
      · refine Ex.nil ?_
        refine Ex.nil ⟨.cons (by walk_at "zm") (.cons (by walk_at "zm") (.cons (by walk_at "zm") (.cons (by walk_at "zm") (.cons (by walk_at "zm") .nil)))), fun j hj => ?_⟩
        by_cases hji : j = i
        · subst hji; rw [Nat.add_comm]; exact ht
        · exact hno j (by omega)
    · exact ⟨.cons (by walk_at "zm") (.cons (by walk_at "zm") (.cons (by walk_at "zm") (.cons (by walk_at "zm") (.cons (by walk_at "zm") .nil)))), fun j h => absurd h (Nat.not_lt_zero j)⟩
    · rintro ρ σ ⟨hs, hno⟩
      rw [rints_len, Nat.zero_add] at hno
      show Ex _ _ _ _ _
      have hf : (List.range' 1 w.length).find? (turn w) = none := by
        rw [List.find?_eq_none]
        intro k hk
        rw [List.mem_range'_1] at hk
        have := hno (k - 1) (by omega)
        rw [show 1 + (k - 1) = k by omega] at this
        rw [this]; decide
      refine Ex.cons <| Ex1.ret <| Ev.unary <| Ev.int <| Op1.neg ?_
      show PV.int _ = PV.int (placeP w)
      unfold placeP; rw [hf]
end Mine
end
section
open PySem PySem.W PyProof.Rows PySem.Calls
set_option Elab.async false
set_option maxRecDepth 100000
namespace Mine
local macro_rules | `(tactic| walk_at "zm") => `(tactic| repeat (first | exact List.Mem.head _ | apply List.Mem.tail))
local macro_rules | `(tactic| walk_at "zs") => `(tactic| repeat (first | exact SetR.head | exact SetR.nil | (apply SetR.tl; decide)))
noncomputable def lawBody (p : Params) : List Stmt := match (fdOf p 263).body with
  | .stmts b => b
  | _ => []
/-- the three numbers of a script -/
noncomputable def nums3 (l : List Int) : List Int := (l.take 3 ++ [0, 16, 2]).take 3
noncomputable abbrev nsLA : Names := [("script", .local), ("numbers", .local), ("one", .cell), ("other", .local), ("word", .local), ("due", .local)]
noncomputable abbrev glLA : Rho := [("_law_word", .ref 246), ("_law_step", .ref 251), ("_law_place", .ref 258), ("len", .con (.builtin "len")), ("range", .con (.type "range"))]
/-- the word of the law -/
noncomputable def lawW (m q : Nat) (u v : List Nat) : List Nat := (List.replicate m u).flatten ++ (List.replicate q v).flatten
/-- the first signs of u that give u again and again -/
noncomputable def dues (u : List Nat) : List Nat := (List.range' 1 u.length).filter fun k => (List.replicate (u.length / k) (u.take k)).flatten == u
/-- what the law comes to, with no program in sight -/
noncomputable def PlainLaw : Prop := ∀ (m q : Nat) (u v : List Nat), (m = 2 ∨ m = 3) → (q = 2 ∨ q = 3) → 0 < u.length → u.length ≤ 5 → 0 < v.length → v.length ≤ 5 →
  (u ++ v ≠ v ++ u → stepP (lawW m q u v) = (lawW m q u v).length ∧ placeP (lawW m q u v) = -1) ∧
  (u ++ v = v ++ u → ∃ d r, dues u = d :: r ∧ stepP (lawW m q u v) = d ∧ placeP (lawW m q u v) = (d : Int))
theorem flat_rep (m : Nat) (u : List Nat) : (List.replicate m u).flatten.length = m * u.length := by
  rw [List.length_flatten, List.map_replicate, List.sum_replicate_nat]
theorem word_abc {x : Nat} : ∀ c ∈ wordP x, isAbc [c] := fun c h => by
  unfold wordP at h
  obtain ⟨k, _, rfl⟩ := List.mem_map.mp h
  exact ⟨x / 5 / 3 ^ k % 3, Nat.mod_lt _ (by decide), rfl⟩
set_option maxHeartbeats 8000000 in
theorem law_ex {C : Cx} {p : Params} {n : Nat} {cN cV : Array Nat} {es : List DictEntry} (K : HdrK C p cN cV) (HK : HeapK C p) (O : NamesOk cN cV isLet isAbc lowL) (T : TrK C p es)
    (hd : C.K.lookup 111 = some (tupO [.none] 0)) (hd2 : C.K.lookup 56 = some (tupO [.none] 0)) (f1 : FnAt C 246 (fdOf p 246)) (f2 : FnAt C 251 (fdOf p 251)) (f3 : FnAt C 258 (fdOf p 258))
    (g1 : Sub [("range", .con (.type "range"))] C.gl) (g2 : Sub glST C.gl) (g3 : Sub glPL C.gl) (hq : ∀ j, j < 3 → PlainC es (97 + j)) {env : Env} {κ : List (Str × Addr)} (hk : env.scope.kind = .function) {l : List Int} (hl : l.length ≤ 1000) (plain : PlainLaw) :
    Ex ⟨C, env, κ, nsLA, ["one"], n + 5⟩ (lawBody p) (glLA ++ [("script", .lst (l.map .int))]) [] (fun fl _ _ => fl = .ret (.bool true)) := by
  obtain ⟨b, hb, h⟩ : ∃ b, lawBody p = b ∧ Ex ⟨C, env, κ, nsLA, ["one"], n + 5⟩ b (glLA ++ [("script", .lst (l.map .int))]) [] (fun fl _ _ => fl = .ret (.bool true)) := by
    refine ⟨?b, ?h1, ?_⟩
    case h1 => with_unfolding_all rfl
    show Ex _ _ [("_law_word", .ref 246), ("_law_step", .ref 251), ("_law_place", .ref 258), ("len", .con (.builtin "len")), ("range", .con (.type "range")), ("script", .lst (l.map .int))] _ _
    have s1 : pySl (l.map PV.int) none (some (3 : Int)) = (l.take 3).map PV.int := by
      unfold pySl
      show (List.drop 0 _).take ((clampI (l.map PV.int).length (l.map PV.int).length (some 3)) - 0) = _
      rw [List.drop_zero, List.length_map, List.map_take]
      show (l.map PV.int).take (min 3 l.length - 0) = _
      rw [Nat.sub_zero, ← List.length_map (f := PV.int), List.take_eq_take_iff]; omega
    refine Ex.cons <| Ex1.asg <| Ev.slice <| Ev.binop <| Ev.slice <| Ev.name (by walk_at "zm") <| Ev.int ⟨_, rfl, SliceP.lst (by rw [List.length_map]; omega) ?_⟩
    rw [s1]
    refine Ev.list <| EvL.cons <| Ev.int <| EvL.cons <| Ev.int <| EvL.cons <| Ev.int <| EvL.nil ⟨by simp, CallP.addL (by rw [List.length_map, List.length_take]; show _ + 3 ≤ _; omega) ?_⟩
    obtain ⟨a, b, c, h3⟩ : ∃ a b c, nums3 l = [a, b, c] := by
      have : (nums3 l).length = 3 := by unfold nums3; rw [List.length_take, List.length_append]; show min 3 (_ + 3) = 3; omega
      match nums3 l, this with
      | [a, b, c], _ => exact ⟨a, b, c, rfl⟩
    have s2 : pySl ((l.take 3).map PV.int ++ [PV.int 0, PV.int 16, PV.int 2]) none (some (3 : Int)) = [.int a, .int b, .int c] := by
      have e : (l.take 3).map PV.int ++ [PV.int 0, PV.int 16, PV.int 2] = (l.take 3 ++ [0, 16, 2]).map PV.int := by rw [List.map_append]; rfl
      rw [e]
      show _ = [a, b, c].map PV.int
      rw [← h3]
      unfold nums3 pySl
      show (List.drop 0 _).take ((clampI _ _ (some 3)) - 0) = _
      rw [List.drop_zero, List.map_take]
      congr 1
      rw [List.length_map, List.length_append]
      show min 3 (_ + 3) - 0 = 3
      omega
    refine Ev.int ⟨_, rfl, SliceP.lst (by rw [List.length_append, List.length_map, List.length_take]; show _ + 3 ≤ _; omega) ?_⟩
    rw [s2]
    refine As.name (by walk_at "zm") (by walk_at "zs") ?_
    refine Ex.cons <| Ex1.asgTup ?_ (fun bs im s hS => swappedNone hk (hS.f.kn ("one", .cell) (by walk_at "zm")).1 rfl rfl)
    refine Ev.tuple <| EvL.cons <| Ev.call (by walk_at "zm") <| EvL.cons <| Ev.sub <| Ev.name (by walk_at "zm") <| Ev.int <| Op2.itemL (p := .int a) (by simp) (by simp) (by simp) rfl <| EvL.nil <| CallP.of (φ := []) ((word_spec (n := n) f1 g1).more (by show n + 1 ≤ n + 5; omega)) (fun _ h => h) (.inr rfl) ?_
    rintro r σ' ⟨rfl, rfl⟩
    refine EvL.cons <| Ev.call (by walk_at "zm") <| EvL.cons <| Ev.sub <| Ev.name (by walk_at "zm") <| Ev.int <| Op2.itemL (p := .int b) (by simp) (by simp) (by simp) rfl <| EvL.nil <| CallP.of (φ := []) ((word_spec (n := n) f1 g1).more (by show n + 1 ≤ n + 5; omega)) (fun _ h => h) (.inr rfl) ?_
    rintro r σ' ⟨rfl, rfl⟩
    refine EvL.nil ⟨by simp, As.tup (As.nameC (by walk_at "zm") (by walk_at "zs") <| As.name (by walk_at "zm") (by walk_at "zs") ?_) rfl rfl⟩
    have ua : ∀ c ∈ wordP (a % 1215).toNat, isAbc [c] := word_abc
    have va : ∀ c ∈ wordP (b % 1215).toNat, isAbc [c] := word_abc
    generalize hu : wordP (a % 1215).toNat = u at ua ⊢
    generalize hv : wordP (b % 1215).toNat = v at va ⊢
    have ul : u.length ≤ 5 ∧ 0 < u.length := by rw [← hu]; unfold wordP; rw [List.length_map, List.length_range]; omega
    have vl : v.length ≤ 5 ∧ 0 < v.length := by rw [← hv]; unfold wordP; rw [List.length_map, List.length_range]; omega
    show Ex _ _ _ _ _
    refine Ex.cons <| Ex1.asg <| Ev.binop <| Ev.binop <| Ev.name (by walk_at "zm") <| Ev.binop <| Ev.int <| Ev.binop <| Ev.sub <| Ev.name (by walk_at "zm") <| Ev.int <| Op2.itemL (p := .int c) (by simp) (by simp) (by simp) rfl <| Ev.int <| Op2.fmod (by omega) <| Op2.add <| Op2.mulS 5 3 ul.1 (by omega) (by omega) (by decide) (by decide) ?_
    refine Ev.binop <| Ev.name (by walk_at "zm") <| Ev.binop <| Ev.int <| Ev.binop <| Ev.binop <| Ev.sub <| Ev.name (by walk_at "zm") <| Ev.int <| Op2.itemL (p := .int c) (by simp) (by simp) (by simp) rfl <| Ev.int <| Op2.fdiv (by omega) (by omega) <| Ev.int <| Op2.fmod (by omega) <| Op2.add <| Op2.mulS 5 3 vl.1 (by omega) (by omega) (by decide) (by decide) ?_
    obtain ⟨m, hm, hm2⟩ : ∃ m, (2 + c % 2).toNat = m ∧ (m = 2 ∨ m = 3) := ⟨_, rfl, by omega⟩
    obtain ⟨q, hq', hq2⟩ : ∃ q, (2 + c / 2 % 2).toNat = q ∧ (q = 2 ∨ q = 3) := ⟨_, rfl, by omega⟩
    rw [hm, hq']
    have lm := flat_rep m u
    have lq := flat_rep q v
    have lm2 : m * u.length ≤ 15 := by rcases hm2 with rfl | rfl <;> omega
    have lq2 : q * v.length ≤ 15 := by rcases hq2 with rfl | rfl <;> omega
    have lm3 : 0 < m * u.length := by rcases hm2 with rfl | rfl <;> omega
    refine Op2.addS (by omega) <| As.name (by walk_at "zm") (by walk_at "zs") ?_
    have hW : (List.replicate m u).flatten ++ (List.replicate q v).flatten = lawW m q u v := rfl
    rw [hW]
    have hWl : (lawW m q u v).length ≤ 30 ∧ 0 < (lawW m q u v).length := by unfold lawW; rw [List.length_append]; omega
    have hWa : ∀ c ∈ lawW m q u v, isAbc [c] := fun c h => by
      unfold lawW at h
      rcases List.mem_append.mp h with h | h
      · obtain ⟨x, hx, hc⟩ := List.mem_flatten.mp h
        rw [List.mem_replicate] at hx; rw [hx.2] at hc; exact ua c hc
      · obtain ⟨x, hx, hc⟩ := List.mem_flatten.mp h
        rw [List.mem_replicate] at hx; rw [hx.2] at hc; exact va c hc
    have hP := plain m q u v hm2 hq2 ul.2 ul.1 vl.2 vl.1
    generalize lawW m q u v = W at hWl hWa hP ⊢
    show Ex _ _ _ _ _
    refine Ex.cons <| Ex1.if <| Ts.compare <| Ev.binop <| Ev.name (by walk_at "zm") <| Ev.name (by walk_at "zm") <| Op2.addS (by omega) <| Ev.binop <| Ev.name (by walk_at "zm") <| Ev.name (by walk_at "zm") <| Op2.addS (by omega) <| Op2.neS <| TrueOf.bool ?_
    have stepS := step_spec (n := n) K HK O hd hd2 f2 g2 hWa hWl.1 hWl.2
    have placeS := place_spec (n := n) T f3 g3 hWa hq hWl.1 hWl.2
    refine ite_b (fun ht => ?_) (fun ht => ?_)
    · have hne : u ++ v ≠ v ++ u := by simpa using ht
      obtain ⟨p1, p2⟩ := hP.1 hne
      refine Ex.cons <| Ex1.ret <| Ev.and <| Ev.compare <| Ev.call (by walk_at "zm") <| EvL.cons <| Ev.name (by walk_at "zm") <| EvL.nil <| CallP.of (φ := []) stepS (fun _ h => nomatch h) (.inl List.nodup_nil) ?_
      rintro r0 σ' rfl
      rw [p1]
      refine Ev.call (by walk_at "zm") <| EvL.cons <| Ev.name (by walk_at "zm") <| EvL.nil <| CallP.lenS (by omega) <| Op2.eq <| TrueOf.bool ?_
      refine ite_b (fun _ => ?_) (fun h => absurd h (by simp))
      refine Ev.boolOne <| Ev.compare <| Ev.call (by walk_at "zm") <| EvL.cons <| Ev.name (by walk_at "zm") <| EvL.nil <| CallP.of (φ := []) (placeS.more (by show n + 4 ≤ n + 5; omega)) (fun _ h => nomatch h) (.inl List.nodup_nil) ?_
      rintro r1 σ' rfl
      rw [p2]
      refine Ev.unary <| Ev.int <| Op1.neg <| Op2.eq ?_
      rfl
    · have heq : u ++ v = v ++ u := by simpa using ht
      obtain ⟨d, r, p0, p1, p2⟩ := hP.2 heq
      refine Ex.nil ?_
      show Ex _ _ _ _ _
      refine Ex.cons <| Ex1.asg <| Ev.sub <| Ev.comp (hsc := ?hsc) <| Ev.call (by walk_at "zm") <| EvL.cons <| Ev.int <| EvL.cons <| Ev.binop <| Ev.call (by walk_at "zm") <| EvL.cons <| Ev.name (by walk_at "zm") <| EvL.nil <| CallP.lenS (by omega) <| Ev.int <| Op2.add <| EvL.nil <| CallP.range2 ⟨[], [], [], _, [("k", .local)], [], [("one", .str u)], [("len", .con (.builtin "len"))], ItSrc.rng (n := u.length) ?hs ?hn, fun _ h => h, .inr rfl, List.nodup_nil, ?hck, ?hrc, ?hgc, ?_⟩
      case hgc => exact fun p hp => by obtain rfl := List.mem_singleton.mp hp; exact g3 _ (by walk_at "zm")
      case hsc => kernel_rfl
      case hck => kernel_rfl
      case hrc => exact Sub.cons (by walk_at "zm") .nil
      case hs => exact small1 (by omega) (by omega) (by omega) (by omega)
      case hn => exact rangeSizeN (by omega)
      intro env' κ'
      refine compItems.inv compInner_mono (fun k acc ρ σ => σ = [] ∧ Sub [("one", .str u), ("len", .con (.builtin "len"))] ρ ∧ acc = ((List.range' 1 k).filter fun k => (List.replicate (u.length / k) (u.take k)).flatten == u).map intP) _ 0 ?_ ?_ ?_
      · rintro k x acc ρ σ hx ⟨rfl, hs, rfl⟩
        obtain ⟨hk, rfl⟩ := rints_get hx
        refine Con.rho2 ["one", "len"] hs ?_
        refine As.nameN (j := ((k + 1 : Nat) : Int)) (by omega) (by walk_at "zm") (by walk_at "zs") ?_
        have t1 : pySl u none (some ((k + 1 : Nat) : Int)) = u.take (k + 1) := by
          unfold pySl
          rw [clampN (by omega)]
          show (List.drop 0 _).take (k + 1 - 0) = _
          rw [List.drop_zero, Nat.sub_zero]
        refine Ts.compare <| Ev.binop <| Ev.slice <| Ev.name (by walk_at "zm") <| Ev.name (by walk_at "zm") ⟨_, rfl, SliceP.str (by omega) ?_⟩
        rw [t1]
        have t2 : ((u.length : Int) / ((k + 1 : Nat) : Int)) = ((u.length / (k + 1) : Nat) : Int) := by push_cast; rfl
        refine Ev.binop <| Ev.call (by walk_at "zm") <| EvL.cons <| Ev.name (by walk_at "zm") <| EvL.nil <| CallP.lenS (by omega) <| Ev.name (by walk_at "zm") <| Op2.fdiv (by omega) (by omega) ?_
        rw [t2]
        have t3 : u.length / (k + 1) ≤ 5 := Nat.le_trans (Nat.div_le_self _ _) ul.1
        refine Op2.mulS 5 5 (by rw [List.length_take]; omega) (by exact_mod_cast t3) (Int.le_trans (by decide) (Int.natCast_nonneg _)) (by decide) (by decide) ?_
        rw [Int.toNat_natCast]
        refine Ev.name (by walk_at "zm") <| Op2.eqS <| TrueOf.bool ?_
        have hk0 : 0 + k = k := by omega
        have hk1 : 0 + k + 1 = k + 1 := by omega
        refine ite_b (fun hl => ?_) (fun hl => ?_)
        · show compInner _ _ _ _ _ _ _
          refine Ev.name (by walk_at "zm") ⟨?_, rfl, .cons (by walk_at "zm") (.cons (by walk_at "zm") .nil), ?_⟩
          · rw [List.length_map]
            have := List.length_filter_le (fun k => (List.replicate (u.length / k) (u.take k)).flatten == u) (List.range' 1 (0 + k))
            rw [List.length_range'] at this
            omega
          · rw [hk1, hk0, range1_succ, List.filter_append, List.map_append, List.filter_cons, if_pos hl]; rfl
        · refine ⟨rfl, .cons (by walk_at "zm") (.cons (by walk_at "zm") .nil), ?_⟩
          rw [hk1, hk0, range1_succ, List.filter_append, List.map_append, List.filter_cons, if_neg (by rw [hl]; decide)]; simp
      · exact ⟨rfl, .cons (by walk_at "zm") (.cons (by walk_at "zm") .nil), rfl⟩
      · rintro acc ρ σ ⟨rfl, hs, rfl⟩
        rw [rints_len, Nat.zero_add]
        have hdl : (dues u).length ≤ 5 := by
          unfold dues
          have := List.length_filter_le (fun k => (List.replicate (u.length / k) (u.take k)).flatten == u) (List.range' 1 u.length)
          rw [List.length_range'] at this
          omega
        rw [p0] at hdl
        have hdu : ((List.range' 1 u.length).filter fun k => (List.replicate (u.length / k) (u.take k)).flatten == u) = d :: r := p0
        rw [hdu]
        rw [List.length_cons] at hdl
        refine Ev.int <| Op2.itemL (p := intP d) (by rw [List.length_map, List.length_cons]; omega) (by rw [List.length_map, List.length_cons]; omega) (by rw [List.length_map, List.length_cons]; omega) rfl ?_
        refine As.name (by walk_at "zm") (by walk_at "zs") ?_
        show Ex _ _ _ _ _
        refine Ex.cons <| Ex1.ret <| Ev.and <| Ev.compare <| Ev.call (by walk_at "zm") <| EvL.cons <| Ev.name (by walk_at "zm") <| EvL.nil <| CallP.of (φ := []) stepS (fun _ h => nomatch h) (.inl List.nodup_nil) ?_
        rintro r0 σ' rfl
        rw [p1]
        refine Ev.name (by walk_at "zm") <| Op2.eq <| TrueOf.bool ?_
        refine ite_b (fun _ => ?_) (fun h => absurd h (by simp))
        refine Ev.boolOne <| Ev.compare <| Ev.call (by walk_at "zm") <| EvL.cons <| Ev.name (by walk_at "zm") <| EvL.nil <| CallP.of (φ := []) (placeS.more (by show n + 4 ≤ n + 5; omega)) (fun _ h => nomatch h) (.inl List.nodup_nil) ?_
        rintro r1 σ' rfl
        rw [p2]
        refine Ev.name (by walk_at "zm") <| Op2.eq ?_
        show Fl.ret (.bool ((d : Int) == (d : Int))) = _
        rw [beq_self_eq_true]
  rw [hb]; exact h
end Mine
end
section
set_option Elab.async false
set_option maxRecDepth 100000
namespace Mine
/-- a word read round and round -/
noncomputable def infW (w : List Nat) (i : Nat) : Nat := w.getD (i % w.length) 0
noncomputable def Per (f : Nat → Nat) (d : Nat) : Prop := ∀ i, f (i + d) = f i
theorem Per.mul {f : Nat → Nat} {d : Nat} (h : Per f d) : ∀ k i, f (i + d * k) = f i
  | 0, i => rfl
  | k + 1, i => by rw [Nat.mul_succ, ← Nat.add_assoc, h]; exact h.mul k i
theorem Per.mod {f : Nat → Nat} {d : Nat} (h : Per f d) (i : Nat) : f i = f (i % d) := by
  have := h.mul (i / d) (i % d)
  rw [Nat.mod_add_div] at this; exact this
theorem Per.dvd {f : Nat → Nat} {d e : Nat} (h : Per f d) (k : d ∣ e) : Per f e := by
  obtain ⟨c, rfl⟩ := k
  exact h.mul c
theorem Per.gcd {f : Nat → Nat} {a b : Nat} : Per f a → Per f b → Per f (Nat.gcd a b) := by
  induction a, b using Nat.gcd.induction with
  | H0 n => intro _ h; rw [Nat.gcd_zero_left]; exact h
  | H1 m n hm ih =>
    intro ha hb
    rw [Nat.gcd_rec]
    refine ih (fun i => ?_) ha
    have h1 := ha.mul (n / m) (i + n % m)
    have h2 := Nat.mod_add_div n m
    rw [Nat.add_assoc, h2, hb i] at h1
    exact h1.symm
theorem infW_len (w : List Nat) : Per (infW w) w.length := fun i => by unfold infW; rw [Nat.add_mod_right]
theorem infW_lt {w : List Nat} {i : Nat} (h : i < w.length) : w[i]? = some (infW w i) := by
  unfold infW; rw [Nat.mod_eq_of_lt h, List.getD_eq_getElem?_getD, List.getElem?_eq_getElem h]; rfl
theorem per_iff {w : List Nat} {d : Nat} (h0 : 0 < d) (hd : d ∣ w.length) (hl : 0 < w.length) : per w d = true ↔ Per (infW w) d := by
  unfold per
  rw [List.all_eq_true]
  constructor
  · intro h
    have h' : ∀ k, k < w.length → infW w k = infW w (k % d) := fun k hk => by
      have e := h k (List.mem_range.mpr hk)
      rw [beq_iff_eq, infW_lt hk, infW_lt (Nat.lt_of_le_of_lt (Nat.mod_le _ _) hk)] at e
      exact Option.some.inj e
    have h2 : ∀ i, infW w i = infW w (i % d) := fun i => by
      rw [(infW_len w).mod i, h' _ (Nat.mod_lt _ hl), Nat.mod_mod_of_dvd _ hd]
    intro i
    rw [h2 (i + d), Nat.add_mod_right, ← h2]
  · intro h k hk
    rw [List.mem_range] at hk
    rw [beq_iff_eq, infW_lt hk, infW_lt (Nat.lt_of_le_of_lt (Nat.mod_le _ _) hk), h.mod k]
theorem infW_two {w : List Nat} {i : Nat} (h : i < w.length + w.length) : (w ++ w)[i]? = some (infW w i) := by
  by_cases h1 : i < w.length
  · rw [List.getElem?_append_left h1]; exact infW_lt h1
  · rw [List.getElem?_append_right (by omega), infW_lt (by omega)]
    have := infW_len w (i - w.length)
    rw [show i - w.length + w.length = i by omega] at this
    rw [this]
theorem turn_iff {w : List Nat} {k : Nat} (hk : k ≤ w.length) (hl : 0 < w.length) : turn w k = true ↔ Per (infW w) k := by
  unfold turn
  rw [beq_iff_eq]
  constructor
  · intro h
    have h' : ∀ i, i < w.length → infW w (i + k) = infW w i := fun i hi => by
      have e : (((w ++ w).drop k).take w.length)[i]? = w[i]? := by rw [h]
      rw [List.getElem?_take_of_lt hi, List.getElem?_drop, infW_two (by omega), infW_lt hi, Nat.add_comm k i] at e
      exact Option.some.inj e
    intro i
    have e1 := (infW_len w).mod i
    have e2 := (infW_len w).mul (i / w.length) (i % w.length + k)
    rw [e1, ← h' _ (Nat.mod_lt _ hl), ← e2]
    congr 1
    have := Nat.mod_add_div i w.length
    omega
  · intro h
    apply List.ext_getElem?
    intro i
    by_cases hi : i < w.length
    · rw [List.getElem?_take_of_lt hi, List.getElem?_drop, infW_two (by omega), infW_lt hi, Nat.add_comm k i, h]
    · rw [List.getElem?_eq_none (by rw [List.length_take]; omega), List.getElem?_eq_none (by omega)]
/-- what the step is -/
theorem stepP_spec {w : List Nat} (hl : 0 < w.length) : 0 < stepP w ∧ stepP w ∣ w.length ∧ Per (infW w) (stepP w) ∧ ∀ d, 0 < d → d ∣ w.length → Per (infW w) d → stepP w ≤ d := by
  unfold stepP
  cases h : (divs w.length).find? (per w) with
  | none =>
    refine ⟨hl, Nat.dvd_refl _, infW_len w, fun d h0 hd hp => ?_⟩
    show w.length ≤ d
    by_cases hlt : d < w.length
    · rw [List.find?_eq_none] at h
      refine absurd ((per_iff h0 hd hl).mpr hp) (h d ?_)
      unfold divs
      rw [List.mem_filter, List.mem_range'_1, beq_iff_eq]
      exact ⟨by omega, Nat.mod_eq_zero_of_dvd hd⟩
    · omega
  | some s =>
    show 0 < s ∧ s ∣ w.length ∧ Per (infW w) s ∧ ∀ d, 0 < d → d ∣ w.length → Per (infW w) d → s ≤ d
    have hm := List.mem_of_find?_eq_some h
    have hp := List.find?_some h
    unfold divs at hm
    rw [List.mem_filter, List.mem_range'_1, beq_iff_eq] at hm
    have hs := Nat.dvd_of_mod_eq_zero hm.2
    refine ⟨by omega, hs, (per_iff (by omega) hs hl).mp hp, fun d h0 hd hpd => ?_⟩
    apply Classical.byContradiction
    intro hlt
    have hlt : d < s := by omega
    have hpw : (divs w.length).Pairwise (· < ·) := by
      unfold divs
      exact List.Pairwise.filter _ (List.pairwise_lt_range' (s := 1) (n := w.length - 1))
    have hmd : d ∈ divs w.length := by
      unfold divs
      rw [List.mem_filter, List.mem_range'_1, beq_iff_eq]
      exact ⟨by omega, Nat.mod_eq_zero_of_dvd hd⟩
    rw [List.find?_eq_some_iff_append] at h
    obtain ⟨_, as, bs, e, hn⟩ := h
    rw [e] at hmd hpw
    rw [List.pairwise_append, List.pairwise_cons] at hpw
    rcases List.mem_append.mp hmd with x | x
    · have := hn d x
      rw [(per_iff h0 hd hl).mpr hpd] at this; exact absurd this (by decide)
    · rcases List.mem_cons.mp x with x | x
      · omega
      · have := hpw.2.1.1 d x; omega
theorem stepP_eq {w : List Nat} {s : Nat} (hl : 0 < w.length) (h0 : 0 < s) (hs : s ∣ w.length) (hp : Per (infW w) s) (hmin : ∀ d, 0 < d → d ∣ w.length → Per (infW w) d → s ≤ d) : stepP w = s := by
  obtain ⟨a, b, c, d⟩ := stepP_spec hl
  exact Nat.le_antisymm (d s h0 hs hp) (hmin _ a b c)
/-- the place is the step, if it is less than the length -/
theorem placeP_eq {w : List Nat} (hl : 0 < w.length) : placeP w = if stepP w < w.length then (stepP w : Int) else -1 := by
  obtain ⟨h0, hd, hp, hmin⟩ := stepP_spec hl
  have hle := Nat.le_of_dvd hl hd
  have hf : (List.range' 1 w.length).find? (turn w) = some (stepP w) := by
    rw [List.find?_eq_some_iff_getElem]
    refine ⟨(turn_iff hle hl).mpr hp, stepP w - 1, by rw [List.length_range']; omega, by rw [List.getElem_range']; omega, fun j hj => ?_⟩
    rw [List.getElem_range', Nat.one_mul]
    cases ht : turn w (1 + j) with
    | false => rfl
    | true =>
      have hg := ((turn_iff (by omega) hl).mp ht).gcd (infW_len w)
      have := hmin _ (Nat.gcd_pos_of_pos_right _ hl) (Nat.gcd_dvd_right _ _) hg
      have := Nat.gcd_le_left w.length (show 0 < 1 + j by omega)
      omega
  unfold placeP
  rw [hf]
theorem rep_get {x : List Nat} : ∀ {n i : Nat}, i < n * x.length → (List.replicate n x).flatten[i]? = x[i % x.length]?
  | 0, i, h => by omega
  | n + 1, i, h => by
    rw [List.replicate_succ, List.flatten_cons]
    by_cases h1 : i < x.length
    · rw [List.getElem?_append_left h1, Nat.mod_eq_of_lt h1]
    · rw [List.getElem?_append_right (by omega), rep_get (by rw [Nat.succ_mul] at h; omega), ← Nat.mod_eq_sub_mod (by omega)]
theorem due_iff {u : List Nat} {k : Nat} (h0 : 0 < k) (hk : k ≤ u.length) : ((List.replicate (u.length / k) (u.take k)).flatten == u) = true ↔ k ∣ u.length ∧ Per (infW u) k := by
  have tl : (u.take k).length = k := by rw [List.length_take]; omega
  have el : ∀ i, i < u.length / k * k → i < u.length → (List.replicate (u.length / k) (u.take k)).flatten[i]? = some (infW u (i % k)) := fun i hi h2 => by
    rw [rep_get (by rw [tl]; exact hi), tl, List.getElem?_take_of_lt (Nat.mod_lt _ h0), infW_lt (Nat.lt_of_le_of_lt (Nat.mod_le _ _) h2)]
  rw [beq_iff_eq]
  constructor
  · intro h
    have hd : k ∣ u.length := by
      have : (List.replicate (u.length / k) (u.take k)).flatten.length = u.length := by rw [h]
      rw [flat_rep, tl] at this
      exact ⟨u.length / k, by rw [Nat.mul_comm]; exact this.symm⟩
    refine ⟨hd, (per_iff h0 hd (by omega)).mp ?_⟩
    unfold per
    rw [List.all_eq_true]
    intro i hi
    rw [List.mem_range] at hi
    have := el i (by rw [Nat.div_mul_cancel hd]; exact hi) hi
    rw [h] at this
    rw [beq_iff_eq, this, infW_lt (Nat.lt_of_le_of_lt (Nat.mod_le _ _) hi)]
  · rintro ⟨hd, hp⟩
    apply List.ext_getElem?
    intro i
    by_cases hi : i < u.length
    · rw [el i (by rw [Nat.div_mul_cancel hd]; exact hi) hi, infW_lt hi, ← hp.mod]
    · rw [List.getElem?_eq_none (by rw [flat_rep, tl, Nat.div_mul_cancel hd]; omega), List.getElem?_eq_none (by omega)]
theorem dues_spec {u : List Nat} (hl : 0 < u.length) : ∃ d r, dues u = d :: r ∧ 0 < d ∧ d ∣ u.length ∧ Per (infW u) d ∧ ∀ e, 0 < e → e ∣ u.length → Per (infW u) e → d ≤ e := by
  have hm : ∀ e, e ∈ dues u ↔ 0 < e ∧ e ∣ u.length ∧ Per (infW u) e := fun e => by
    unfold dues
    rw [List.mem_filter, List.mem_range'_1]
    constructor
    · rintro ⟨h1, h2⟩; exact ⟨by omega, (due_iff (by omega) (by omega)).mp h2⟩
    · rintro ⟨h1, h2, h3⟩
      have := Nat.le_of_dvd hl h2
      exact ⟨by omega, (due_iff h1 this).mpr ⟨h2, h3⟩⟩
  have hpw : (dues u).Pairwise (· < ·) := by
    unfold dues
    exact List.Pairwise.filter _ (List.pairwise_lt_range' (s := 1) (n := u.length))
  cases h : dues u with
  | nil =>
    have := (hm u.length).mpr ⟨hl, Nat.dvd_refl _, infW_len u⟩
    rw [h] at this; cases this
  | cons d r =>
    obtain ⟨h1, h2, h3⟩ := (hm d).mp (by rw [h]; exact .head _)
    refine ⟨d, r, rfl, h1, h2, h3, fun e a b c => ?_⟩
    have := (hm e).mpr ⟨a, b, c⟩
    rw [h] at this hpw
    rw [List.pairwise_cons] at hpw
    rcases List.mem_cons.mp this with x | x
    · omega
    · exact Nat.le_of_lt (hpw.1 e x)
/-- which sign of u ++ v stands at a place of the long word -/
noncomputable def idxW (a b m i : Nat) : Nat := if i < m * a then i % a else a + (i - m * a) % b
theorem lawW_len {m q : Nat} {u v : List Nat} : (lawW m q u v).length = m * u.length + q * v.length := by unfold lawW; rw [List.length_append, flat_rep, flat_rep]
theorem lawW_at {m q : Nat} {u v : List Nat} {i : Nat} (h : i < m * u.length + q * v.length) : (lawW m q u v)[i]? = (u ++ v)[idxW u.length v.length m i]? := by
  unfold lawW idxW
  split
  · rename_i h1
    have hu : 0 < u.length := Nat.pos_of_ne_zero fun e => by rw [e] at h1; omega
    rw [List.getElem?_append_left (by rw [flat_rep]; exact h1), rep_get h1, List.getElem?_append_left (Nat.mod_lt _ hu)]
  · rename_i h1
    have hv : 0 < v.length := Nat.pos_of_ne_zero fun e => by rw [e] at h; omega
    rw [List.getElem?_append_right (by rw [flat_rep]; omega), flat_rep, rep_get (by omega), List.getElem?_append_right (by omega), Nat.add_sub_cancel_left]
/-- places that must bear the same sign -/
noncomputable def mergeL (l : List Nat) (x y : Nat) : List Nat := let p := l.getD x x; let q := l.getD y y; if p == q then l else l.map fun z => if z == q then p else z
noncomputable def labelsL (a b m d n : Nat) : List Nat := (List.range n).foldl (fun l i => mergeL l (idxW a b m i) (idxW a b m (i % d))) (List.range (a + b))
noncomputable def lsOk (a b m q : Nat) : Bool := (List.range' 1 (m * a + q * b - 1)).all fun d => !((m * a + q * b) % d == 0) || (let l := labelsL a b m d (m * a + q * b); (List.range (a + b)).all fun i => l.getD i i == l.getD (if i < b then a + i else i - b) (if i < b then a + i else i - b))
theorem ls_all22 : ∀ a, a < 5 → ∀ b, b < 5 → lsOk (a + 1) (b + 1) 2 2 = true := by decide +kernel
theorem ls_all23 : ∀ a, a < 5 → ∀ b, b < 5 → lsOk (a + 1) (b + 1) 2 3 = true := by decide +kernel
theorem ls_all32 : ∀ a, a < 5 → ∀ b, b < 5 → lsOk (a + 1) (b + 1) 3 2 = true := by decide +kernel
theorem ls_all33 : ∀ a, a < 5 → ∀ b, b < 5 → lsOk (a + 1) (b + 1) 3 3 = true := by decide +kernel
theorem getD_map' {l : List Nat} {g : Nat → Nat} {i : Nat} : (l.map g).getD i i = if i < l.length then g (l.getD i i) else i := by
  rw [List.getD_eq_getElem?_getD, List.getElem?_map, List.getD_eq_getElem?_getD]
  split
  · rename_i h; rw [List.getElem?_eq_getElem h]; rfl
  · rename_i h; rw [List.getElem?_eq_none (by omega)]; rfl
theorem merge_ok {f : Nat → Nat} {l : List Nat} {x y : Nat} (hl : ∀ i, f (l.getD i i) = f i) (h : f x = f y) : ∀ i, f ((mergeL l x y).getD i i) = f i := fun i => by
  unfold mergeL
  dsimp only
  split
  · exact hl i
  · rw [getD_map']
    split
    · split
      · rename_i e
        rw [beq_iff_eq] at e
        rw [← hl i, e, hl x, hl y, h]
      · exact hl i
    · rfl
theorem labels_ok {f : Nat → Nat} {a b m d n : Nat} (h : ∀ i, i < n → f (idxW a b m i) = f (idxW a b m (i % d))) : ∀ i, f ((labelsL a b m d n).getD i i) = f i := by
  unfold labelsL
  have : ∀ (r : List Nat), (∀ i ∈ r, i < n) → ∀ l : List Nat, (∀ i, f (l.getD i i) = f i) → ∀ i, f ((r.foldl (fun l i => mergeL l (idxW a b m i) (idxW a b m (i % d))) l).getD i i) = f i := by
    intro r
    induction r with
    | nil => intro _ l hl; exact hl
    | cons j r ih =>
      intro hr l hl
      rw [List.foldl_cons]
      exact ih (fun i hi => hr i (.tail _ hi)) _ (merge_ok hl (h j (hr j (.head _))))
  refine this _ (fun i hi => List.mem_range.mp hi) _ fun i => ?_
  rw [List.getD_eq_getElem?_getD]
  by_cases hi : i < a + b
  · rw [List.getElem?_range hi]; rfl
  · rw [List.getElem?_eq_none (by rw [List.length_range]; omega)]; rfl
theorem comm_of {u v : List Nat} (h : ∀ i, i < u.length + v.length → (u ++ v)[i]? = (u ++ v)[if i < v.length then u.length + i else i - v.length]?) : u ++ v = v ++ u := by
  apply List.ext_getElem?
  intro i
  by_cases hi : i < u.length + v.length
  · rw [h i hi]
    split
    · rename_i h1; rw [List.getElem?_append_right (by omega), List.getElem?_append_left h1, Nat.add_sub_cancel_left]
    · rename_i h1; rw [List.getElem?_append_left (by omega), List.getElem?_append_right (by omega)]
  · rw [List.getElem?_eq_none (by rw [List.length_append]; omega), List.getElem?_eq_none (by rw [List.length_append]; omega)]
/-- Lyndon and Schuetzenberger, for small lengths -/
theorem ls_small {m q : Nat} {u v : List Nat} (hok : lsOk u.length v.length m q = true) {d : Nat} (h0 : 0 < d) (hd : d ∣ m * u.length + q * v.length) (hlt : d < m * u.length + q * v.length) (hp : Per (infW (lawW m q u v)) d) : u ++ v = v ++ u := by
  unfold lsOk at hok
  rw [List.all_eq_true] at hok
  have h1 := hok d (by rw [List.mem_range'_1]; omega)
  rw [Bool.or_eq_true, Bool.not_eq_true', beq_eq_false_iff_ne] at h1
  have h2 := h1.resolve_left fun h => h (Nat.mod_eq_zero_of_dvd hd)
  dsimp only at h2
  rw [List.all_eq_true] at h2
  have hidx : ∀ i, i < m * u.length + q * v.length → idxW u.length v.length m i < u.length + v.length := fun i hi => by
    unfold idxW
    split
    · rename_i h
      have := Nat.mod_lt i (show u.length > 0 from Nat.pos_of_ne_zero fun e => by rw [e] at h; omega)
      omega
    · rename_i h
      have := Nat.mod_lt (i - m * u.length) (show v.length > 0 from Nat.pos_of_ne_zero fun e => by rw [e] at hi; omega)
      omega
  have gd : ∀ i, i < u.length + v.length → (u ++ v)[i]? = some ((u ++ v).getD i 0) := fun i hi => by
    rw [List.getD_eq_getElem?_getD, List.getElem?_eq_getElem (by rw [List.length_append]; exact hi)]; rfl
  have lab := labels_ok (f := fun i => (u ++ v).getD i 0) (a := u.length) (b := v.length) (m := m) (d := d) (n := m * u.length + q * v.length) fun i hi => by
    have hi2 : i % d < m * u.length + q * v.length := Nat.lt_of_le_of_lt (Nat.mod_le _ _) hi
    have e1 := lawW_at hi
    have e2 := lawW_at hi2
    rw [infW_lt (by rw [lawW_len]; exact hi), gd _ (hidx _ hi)] at e1
    rw [infW_lt (by rw [lawW_len]; exact hi2), gd _ (hidx _ hi2)] at e2
    have e1 := Option.some.inj e1
    have e2 := Option.some.inj e2
    show (u ++ v).getD _ 0 = (u ++ v).getD _ 0
    rw [← e1, ← e2, hp.mod i]
  refine comm_of fun i hi => ?_
  have h3 := h2 i (List.mem_range.mpr hi)
  rw [beq_iff_eq] at h3
  have l1 := lab i
  have l2 := lab (if i < v.length then u.length + i else i - v.length)
  rw [← h3, l1] at l2
  rw [gd i hi, gd _ (by split <;> omega)]
  exact congrArg some l2
theorem ls_ok {a b m q : Nat} (hm : m = 2 ∨ m = 3) (hq : q = 2 ∨ q = 3) (ha : 0 < a) (ha5 : a ≤ 5) (hb : 0 < b) (hb5 : b ≤ 5) : lsOk a b m q = true := by
  obtain ⟨a, rfl⟩ : ∃ a', a = a' + 1 := ⟨a - 1, by omega⟩
  obtain ⟨b, rfl⟩ : ∃ b', b = b' + 1 := ⟨b - 1, by omega⟩
  rcases hm with rfl | rfl <;> rcases hq with rfl | rfl
  · exact ls_all22 a (by omega) b (by omega)
  · exact ls_all23 a (by omega) b (by omega)
  · exact ls_all32 a (by omega) b (by omega)
  · exact ls_all33 a (by omega) b (by omega)
theorem plain5 : PlainLaw := by
  intro m q u v hm hq hu hu5 hv hv5
  have hl : (lawW m q u v).length = m * u.length + q * v.length := lawW_len
  have hpos : 2 * u.length + 2 * v.length ≤ m * u.length + q * v.length := Nat.add_le_add (Nat.mul_le_mul_right _ (by omega)) (Nat.mul_le_mul_right _ (by omega))
  have hl0 : 0 < (lawW m q u v).length := by omega
  refine ⟨fun hne => ?_, fun he => ?_⟩
  · have hs : stepP (lawW m q u v) = (lawW m q u v).length := by
      obtain ⟨h0, hd, hp, _⟩ := stepP_spec hl0
      have hle := Nat.le_of_dvd hl0 hd
      apply Classical.byContradiction
      intro hn
      exact hne (ls_small (ls_ok hm hq hu hu5 hv hv5) h0 (by rw [← hl]; exact hd) (by omega) hp)
    refine ⟨hs, ?_⟩
    rw [placeP_eq hl0, hs, if_neg (Nat.lt_irrefl _)]
  · obtain ⟨d, r, hdu, h0, hd, hp, hmin⟩ := dues_spec hu
    -- the word u ++ v read round and round
    have hF0 : Per (infW (u ++ v)) (u.length + v.length) := by
      have := infW_len (u ++ v); rwa [List.length_append] at this
    have hFa : Per (infW (u ++ v)) u.length := by
      refine (turn_iff (by rw [List.length_append]; omega) (by rw [List.length_append]; omega)).mp ?_
      unfold turn
      rw [beq_iff_eq]
      have e1 : ((u ++ v) ++ (u ++ v)).drop u.length = (u ++ v) ++ v := by
        rw [List.append_assoc, List.drop_left, ← List.append_assoc, ← he]
      rw [e1]
      exact List.take_left' rfl
    have hFb : Per (infW (u ++ v)) v.length := fun i => by
      have := hF0 i
      rw [Nat.add_comm u.length, ← Nat.add_assoc, hFa] at this; exact this
    have hFg := hFa.gcd hFb
    have uF : ∀ i, infW u i = infW (u ++ v) i := fun i => by
      have h1 := Nat.mod_lt i hu
      rw [(infW_len u).mod i, hFa.mod i]
      have e1 := infW_lt h1
      have e2 := infW_lt (w := u ++ v) (i := i % u.length) (by rw [List.length_append]; omega)
      rw [List.getElem?_append_left h1, e1] at e2
      exact Option.some.inj e2
    have hFd : Per (infW (u ++ v)) d := fun i => by rw [← uF, ← uF]; exact hp i
    have hg0 : 0 < Nat.gcd u.length v.length := Nat.gcd_pos_of_pos_left _ hu
    have hdg : d ∣ Nat.gcd u.length v.length := by
      have hle := hmin (Nat.gcd d (Nat.gcd u.length v.length)) (Nat.gcd_pos_of_pos_left _ h0) (Nat.dvd_trans (Nat.gcd_dvd_left _ _) hd) (hp.gcd fun i => by rw [uF, uF]; exact hFg i)
      have hle2 := Nat.gcd_le_left (Nat.gcd u.length v.length) h0
      have he : Nat.gcd d (Nat.gcd u.length v.length) = d := Nat.le_antisymm hle2 hle
      rw [← he]; exact Nat.gcd_dvd_right _ _
    have hdL : d ∣ (lawW m q u v).length := by
      rw [hl]
      exact Nat.dvd_add (Nat.dvd_trans hd (Nat.dvd_mul_left _ _)) (Nat.dvd_trans (Nat.dvd_trans hdg (Nat.gcd_dvd_right _ _)) (Nat.dvd_mul_left _ _))
    have wF : ∀ i, infW (lawW m q u v) i = infW (u ++ v) i := fun i => by
      have hdF : Per (infW (u ++ v)) (lawW m q u v).length := hFd.dvd hdL
      have h1 := Nat.mod_lt i hl0
      rw [(infW_len _).mod i, hdF.mod i]
      generalize i % (lawW m q u v).length = j at h1
      have e1 := infW_lt h1
      rw [hl] at h1
      rw [lawW_at h1] at e1
      have hx : idxW u.length v.length m j < u.length + v.length := by
        unfold idxW
        split
        · have := Nat.mod_lt j hu; omega
        · have := Nat.mod_lt (j - m * u.length) hv; omega
      rw [infW_lt (by rw [List.length_append]; exact hx)] at e1
      rw [← Option.some.inj e1]
      unfold idxW
      split
      · exact (hFa.mod j).symm
      · rename_i h2
        rw [Nat.add_comm, hFa, ← hFb.mod]
        have := hFa.mul m (j - m * u.length)
        rw [Nat.mul_comm u.length m, Nat.sub_add_cancel (by omega)] at this
        exact this.symm
    have hs : stepP (lawW m q u v) = d := by
      refine stepP_eq hl0 h0 hdL (fun i => by rw [wF, wF]; exact hFd i) fun e e0 heL hep => ?_
      have hle := hmin (Nat.gcd e d) (Nat.gcd_pos_of_pos_left _ e0) (Nat.dvd_trans (Nat.gcd_dvd_right _ _) hd) (Per.gcd (fun i => by rw [uF, uF, ← wF, ← wF]; exact hep i) hp)
      exact Nat.le_trans hle (Nat.gcd_le_left _ e0)
    refine ⟨d, r, hdu, hs, ?_⟩
    have := Nat.le_of_dvd hu hd
    rw [placeP_eq hl0, hs, if_pos (by omega)]
end Mine
end
open PySem PySem.W PyProof.Rows PySem.Calls Builtin Builtin.Re
set_option Elab.async false
set_option maxRecDepth 100000
namespace Mine
local macro_rules | `(tactic| walk_at "zm") => `(tactic| repeat (first | exact List.Mem.head _ | apply List.Mem.tail))
/-- a pattern's code, read off -/
noncomputable def reCa (K : Frag) (a : Addr) : Addr := match K.lookup a with
  | some ⟨_, _, .fields fs, _⟩ => (match fs.getD 5 .none with | .ref ca => ca | _ => 0)
  | _ => 0
noncomputable def reCode (K : Frag) (a : Addr) : Array Nat := match K.lookup (reCa K a) with
  | some ⟨_, _, .seq items _, _⟩ => (items.map reRawOf).map (·.toNat)
  | _ => #[]
noncomputable def isPat (v : Value) : Bool := match v with | .type t => t == "re.Pattern" | _ => false
noncomputable def isRefV (v : Value) (c : Addr) : Bool := match v with | .ref a => a == c | _ => false
noncomputable def reOk (K : Frag) (a : Addr) : Bool := (match K.lookup a with
  | some ⟨c, d, .fields fs, _⟩ => isPat c && d.isNone && (reRawNat (fs.getD 6 .none) == 0) && isRefV (fs.getD 5 .none) (reCa K a) && (reRawNat (fs.getD 2 .none) == 0)
  | _ => false) && (match K.lookup (reCa K a) with | some ⟨_, _, .seq _ _, _⟩ => true | _ => false)
theorem ReAt.of {K : Frag} {a : Addr} (h : reOk K a = true) : ReAt K a (reCode K a) := by
  unfold reOk at h
  rw [Bool.and_eq_true] at h
  obtain ⟨h1, h2⟩ := h
  split at h1
  · rename_i c d fs sl e
    split at h2
    · rename_i c' d' items n sl' e'
      simp only [Bool.and_eq_true, beq_iff_eq] at h1
      obtain ⟨⟨⟨⟨a1, a2⟩, a3⟩, a4⟩, a5⟩ := h1
      refine ⟨_, fs, reCa K a, _, items, n, e, ?_, ?_, rfl, a3, ?_, a5, e', rfl, ?_⟩
      · unfold isPat at a1; split at a1
        · rw [beq_iff_eq] at a1; rw [a1]
        · cases a1
      · cases d with
        | none => rfl
        | some _ => cases a2
      · unfold isRefV at a4; split at a4
        · rename_i q; rw [beq_iff_eq] at a4; rw [q, a4]
        · cases a4
      · unfold reCode; rw [e']
    · cases h2
  · cases h1
/-- a table's entries, read off -/
noncomputable def tabEs (K : Frag) (d : Addr) : List DictEntry := match K.lookup d with
  | some ⟨_, _, .dict es _, _⟩ => es.toList
  | _ => []
noncomputable def tabOk (K : Frag) (d : Addr) : Bool := (match K.lookup d with
  | some ⟨.type t, none, .dict _ _, sl⟩ => t == "dict" && sl.isEmpty
  | _ => false) && !(d == sysModules)
theorem TabK.of {K : Frag} {d : Addr} (h : tabOk K d = true) : ∃ n, TabK K d (tabEs K d) n := by
  unfold tabOk at h
  rw [Bool.and_eq_true, Bool.not_eq_true'] at h
  obtain ⟨h1, h2⟩ := h
  split at h1
  · rename_i t es n sl e
    rw [Bool.and_eq_true, beq_iff_eq] at h1
    obtain ⟨rfl, a2⟩ := h1
    have hs : sl = #[] := Array.isEmpty_iff.mp a2
    subst hs
    refine ⟨n, ?_, h2⟩
    unfold tabEs
    rw [e]
  · cases h1
noncomputable abbrev gl5 : Rho := [("type", .con (.type "type")), ("str", .con (.type "str")), ("list", .con (.type "list")), ("_name_disallowed_re", .con (.ref 43)), ("_value_disallowed_re", .con (.ref 48)),
  ("_siftup", .ref 241), ("_siftdown", .ref 234), ("len", .con (.builtin "len")), ("range", .con (.type "range")), ("reversed", .con (.type "reversed")), ("isinstance", .con (.builtin "isinstance")), ("_special_chars_map", .con (.ref 189)), ("escape", .ref 199),
  ("object", .con (.type "object")), ("_translate", .ref 206), ("_join_translated_parts", .ref 213), ("heapify", .ref 227), ("heappop", .ref 220), ("Headers", .ref 171), ("translate", .ref 187), ("_law_word", .ref 246), ("_law_step", .ref 251), ("_law_place", .ref 258)]
section
variable {p : Params} {oB oS : Obj} {C : Cx} {mg mb : Str → Option Value}
theorem gl5_ok (hK : C.K = (0, oB) :: (2, oS) :: Kp p) (T : TopC C.K mg mb) : ∀ q ∈ gl5, GlobP C q.1 q.2 := by
  have k : ∀ {x : String} {q : PV} {v : Value}, nsIn ((0, oB) :: (2, oS) :: Kp p) mainGlobals (Str.ofString x) = some (some v) → (∀ im, VR im q v) → plainB (Str.ofString x) = true → GlobP C x q := fun e => GlobP.K T (hK ▸ e)
  have b : ∀ {x : String} {q : PV} {v : Value}, nsIn ((0, oB) :: (2, oS) :: Kp p) mainGlobals (Str.ofString x) = some none → bootBuiltins (Str.ofString x) = some v → (∀ im, VR im q v) → (plainB (Str.ofString x) && Str.ofString x != Str.ofString "__name__") = true → GlobP C x q := fun e => GlobP.B T (hK ▸ e)
  simp only [List.forall_mem_cons]
  refine ⟨?_, ?_, ?_, ?_, ?_, ?_, ?_, ?_, ?_, ?_, ?_, ?_, ?_, ?_, ?_, ?_, ?_, ?_, ?_, ?_, ?_, ?_, ?_, fun _ h => nomatch h⟩
  · exact b (by kernel_rfl) (by kernel_rfl) (fun _ => VR.con) (by decide +kernel)
  · exact b (by kernel_rfl) (by kernel_rfl) (fun _ => VR.con) (by decide +kernel)
  · exact b (by kernel_rfl) (by kernel_rfl) (fun _ => VR.con) (by decide +kernel)
  · exact k (by kernel_rfl) (fun _ => VR.con) (by decide +kernel)
  · exact k (by kernel_rfl) (fun _ => VR.con) (by decide +kernel)
  · exact k (by kernel_rfl) (fun _ => VR.ref) (by decide +kernel)
  · exact k (by kernel_rfl) (fun _ => VR.ref) (by decide +kernel)
  · exact b (by kernel_rfl) (by kernel_rfl) (fun _ => VR.con) (by decide +kernel)
  · exact b (by kernel_rfl) (by kernel_rfl) (fun _ => VR.con) (by decide +kernel)
  · exact b (by kernel_rfl) (by kernel_rfl) (fun _ => VR.con) (by decide +kernel)
  · exact b (by kernel_rfl) (by kernel_rfl) (fun _ => VR.con) (by decide +kernel)
  · exact k (by kernel_rfl) (fun _ => VR.con) (by decide +kernel)
  · exact k (by kernel_rfl) (fun _ => VR.ref) (by decide +kernel)
  · exact b (by kernel_rfl) (by kernel_rfl) (fun _ => VR.con) (by decide +kernel)
  · exact k (by kernel_rfl) (fun _ => VR.ref) (by decide +kernel)
  · exact k (by kernel_rfl) (fun _ => VR.ref) (by decide +kernel)
  · exact k (by kernel_rfl) (fun _ => VR.ref) (by decide +kernel)
  · exact k (by kernel_rfl) (fun _ => VR.ref) (by decide +kernel)
  · exact k (by kernel_rfl) (fun _ => VR.ref) (by decide +kernel)
  · exact k (by kernel_rfl) (fun _ => VR.ref) (by decide +kernel)
  · exact k (by kernel_rfl) (fun _ => VR.ref) (by decide +kernel)
  · exact k (by kernel_rfl) (fun _ => VR.ref) (by decide +kernel)
  · exact k (by kernel_rfl) (fun _ => VR.ref) (by decide +kernel)
set_option maxHeartbeats 8000000 in
theorem hdrK5 (hK : C.K = (0, oB) :: (2, oS) :: Kp p) (T : TopC C.K mg mb) (hg : Sub gl5 C.gl) : HdrK C p (reCode C.K 43) (reCode C.K 48) := by
  have fn : ∀ {a : Addr} {fd : FuncData}, fdAt ((0, oB) :: (2, oS) :: Kp p) a = some fd → codeIn ((0, oB) :: (2, oS) :: Kp p) fd.code fd.qualname = true → FnAt C a fd := fun e c => FnAt.K T (hK ▸ e) (hK ▸ c)
  constructor
  · rw [hK]; exact clsOk_iff (by kernel_rfl)
  · rw [hK]; kernel_rfl
  · rw [hK]; kernel_rfl
  · rw [hK]; kernel_rfl
  · rw [hK]; kernel_rfl
  · rw [hK]; kernel_rfl
  · rw [hK]; kernel_rfl
  · rw [hK]; kernel_rfl
  · rw [hK]; kernel_rfl
  · rw [hK]; kernel_rfl
  · rw [hK]; kernel_rfl
  · rw [hK]; kernel_rfl
  · exact .of (by rw [hK]; kernel_rfl)
  · exact .of (by rw [hK]; kernel_rfl)
  · exact fn (by kernel_rfl) (by kernel_rfl)
  · exact fn (by kernel_rfl) (by kernel_rfl)
  · exact fn (by kernel_rfl) (by kernel_rfl)
  · exact fn (by kernel_rfl) (by kernel_rfl)
  · exact .cons (hg _ (by walk_at "zm")) (.cons (hg _ (by walk_at "zm")) (.cons (hg _ (by walk_at "zm")) (.cons (hg _ (by walk_at "zm")) (.cons (hg _ (by walk_at "zm")) .nil))))
theorem fn5 (hK : C.K = (0, oB) :: (2, oS) :: Kp p) (T : TopC C.K mg mb) {a : Addr} (e : fdAt ((0, oB) :: (2, oS) :: Kp p) a = some (fdOf p a)) (c : codeIn ((0, oB) :: (2, oS) :: Kp p) (fdOf p a).code (fdOf p a).qualname = true) : FnAt C a (fdOf p a) := FnAt.K T (hK ▸ e) (hK ▸ c)
theorem heapK5 (hK : C.K = (0, oB) :: (2, oS) :: Kp p) (T : TopC C.K mg mb) (hg : Sub gl5 C.gl) : HeapK C p :=
  ⟨fn5 hK T (by kernel_rfl) (by kernel_rfl), fn5 hK T (by kernel_rfl) (by kernel_rfl), fn5 hK T (by kernel_rfl) (by kernel_rfl), fn5 hK T (by kernel_rfl) (by kernel_rfl),
    .cons (hg _ (by walk_at "zm")) (.cons (hg _ (by walk_at "zm")) (.cons (hg _ (by walk_at "zm")) (.cons (hg _ (by walk_at "zm")) (.cons (hg _ (by walk_at "zm")) .nil))))⟩
theorem trK5 (hK : C.K = (0, oB) :: (2, oS) :: Kp p) (T : TopC C.K mg mb) (hg : Sub gl5 C.gl) : TrK C p (tabEs C.K 189) :=
  ⟨TabK.of (by rw [hK]; kernel_rfl), by rw [hK]; kernel_rfl, fn5 hK T (by kernel_rfl) (by kernel_rfl), fn5 hK T (by kernel_rfl) (by kernel_rfl), fn5 hK T (by kernel_rfl) (by kernel_rfl), fn5 hK T (by kernel_rfl) (by kernel_rfl),
    .cons (hg _ (by walk_at "zm")) (.cons (hg _ (by walk_at "zm")) (.cons (hg _ (by walk_at "zm")) (.cons (hg _ (by walk_at "zm")) (.cons (hg _ (by walk_at "zm")) (.cons (hg _ (by walk_at "zm")) (.cons (hg _ (by walk_at "zm")) (.cons (hg _ (by walk_at "zm")) .nil)))))))⟩
noncomputable def namesB (cN : Array Nat) (cV : Array Nat) : Bool :=
  ((List.range 15).all fun j => missB cN [97 + j] && missB cN [65 + j]) && (List.range 3).all fun j => missB cV [97 + j]
theorem lower_small : ∀ j, j < 15 → Txt.lower (S [97 + j]) = S [97 + j] := by decide +kernel
theorem lower_great : ∀ j, j < 15 → Txt.lower (S [65 + j]) = S [97 + j] := by decide +kernel
theorem one_le (c : Nat) : [c].length ≤ 1000 := by simp
theorem names_of {cN cV : Array Nat} (h : namesB cN cV = true) : NamesOk cN cV isLet isAbc lowL := by
  unfold namesB at h
  rw [Bool.and_eq_true, List.all_eq_true, List.all_eq_true] at h
  obtain ⟨h1, h2⟩ := h
  refine ⟨fun k hk => ?_, fun v hv => ?_⟩
  · obtain ⟨j, hj, hk⟩ := hk
    have hm := h1 j (List.mem_range.mpr hj)
    rw [Bool.and_eq_true] at hm
    rcases hk with rfl | rfl
    · rw [lowL_small hj]
      exact ⟨lower_small j hj, one_le _, one_le _, hm.1, hm.1⟩
    · rw [lowL_great hj]
      exact ⟨lower_great j hj, one_le _, one_le _, hm.2, hm.1⟩
  · obtain ⟨j, hj, rfl⟩ := hv
    exact ⟨one_le _, h2 j (List.mem_range.mpr hj)⟩
theorem names5 (hK : C.K = (0, oB) :: (2, oS) :: Kp p) : NamesOk (reCode C.K 43) (reCode C.K 48) isLet isAbc lowL := names_of (by rw [hK]; kernel_rfl)
theorem plain_tab (hK : C.K = (0, oB) :: (2, oS) :: Kp p) : ∀ j, j < 3 → PlainC (tabEs C.K 189) (97 + j) := by
  rw [hK]
  intro j hj
  rcases (show j = 0 ∨ j = 1 ∨ j = 2 by omega) with rfl | rfl | rfl
  · exact ⟨by decide, by kernel_rfl, by decide, by decide, by decide⟩
  · exact ⟨by decide, by kernel_rfl, by decide, by decide, by decide⟩
  · exact ⟨by decide, by kernel_rfl, by decide, by decide, by decide⟩
set_option maxHeartbeats 8000000 in
theorem law_spec5 {n : Nat} (hK : C.K = (0, oB) :: (2, oS) :: Kp p) (T : TopC C.K mg mb) (hg : Sub gl5 C.gl) {l : List Int} (hl : l.length ≤ 1000) : FnSpec C (n + 6) (.ref 263) [.lst (l.map .int)] [] [] (fun r _ => r = .bool true) := by
  refine FnSpec.of (body := lawBody p) ["script"] [.lst (l.map .int)] nsLA ["one"] glLA (sc := ?sc) (fn5 hK T (by kernel_rfl) (by kernel_rfl)) ?hb ?hsc ?hgl ?hbi ?hcl ?hok ?hg rfl ?_ ?_
  case hb => with_unfolding_all rfl
  case hsc => with_unfolding_all rfl
  case hgl => with_unfolding_all rfl
  case hbi => with_unfolding_all rfl
  case hcl => with_unfolding_all rfl
  case hok => kernel_rfl
  case hg => exact Sub.cons (hg _ (by walk_at "zm")) (.cons (hg _ (by walk_at "zm")) (.cons (hg _ (by walk_at "zm")) (.cons (hg _ (by walk_at "zm")) (.cons (hg _ (by walk_at "zm")) .nil))))
  · intro im s vs kvs hk hv hkw
    obtain ⟨v, rfl, h1⟩ := one_v hv
    have : kvs = [] := by have := hkw.1; simpa using this
    subst this
    have e : bindArgs (fdOf p 263) ⟨[v], []⟩ = pure ((["script"].map Str.ofString).zip [v]) := by kernel_rfl
    refine ⟨[v], hv, ?_⟩
    intro M A E Q h
    rw [e]
    exact wpAny_pure h
  · intro env κ A bs im s hA hS
    have sub : ∀ {r : Rho}, (∀ q ∈ r, q ∈ gl5) → Sub r C.gl := fun h q hq => hg q (h q hq)
    refine Tr.mono (law_ex (hdrK5 hK T hg) (heapK5 hK T hg) (names5 hK) (trK5 hK T hg) (by rw [hK]; kernel_rfl) (by rw [hK]; kernel_rfl) (fn5 hK T (by kernel_rfl) (by kernel_rfl)) (fn5 hK T (by kernel_rfl) (by kernel_rfl)) (fn5 hK T (by kernel_rfl) (by kernel_rfl))
      (sub (Sub.cons (by walk_at "zm") .nil)) (sub (Sub.cons (by walk_at "zm") (.cons (by walk_at "zm") (.cons (by walk_at "zm") (.cons (by walk_at "zm") (Sub.cons (by walk_at "zm") .nil))))))
      (sub (Sub.cons (by walk_at "zm") (.cons (by walk_at "zm") (Sub.cons (by walk_at "zm") .nil)))) (plain_tab hK) hS.f.kind hl plain5) ?_ A bs im s hA hS
    rintro fl ρ' σ' rfl
    rfl
end
end Mine
set_option maxHeartbeats 8000000 in
theorem PySem.Challenge.cw_kt0061_05_holds : PySem.Challenge.rw_kt0061_05.Holds :=
  Mine.hd (by
  w_strict (
  intro d kwd hdef w s₀ s₁ mg mb G Y fa o pm cd doc dV kV ho hd hcd hD hmg hg args vals as hpre hlay hrd hwl hlo
  have X := km_in_of Y
  refine Ground.open G ?_
  intro T B D TE TW
  obtain ⟨oB, oS, TC, XI⟩ := Mine.topC_of X T (by kernel_rfl)
  have hfa : fa = 263 := by
    have e := mg_of (n := Str.ofString "law") (v := .ref 263) X T.g (by kernel_rfl)
    have e2 : mg (Str.ofString "law") = some (.ref fa) := by rw [defOf_name hdef] at hmg; exact hmg
    rw [e] at e2
    cases e2; rfl
  subst hfa
  clear hd hD hcd
  wrow_args hpre hlay hrd hwl hlo
  all_goals (
    first | refine callC_kw (enter_call ?_) | refine enter_call ?_
    (rename (Well _ _ _ _) => w1)
    (rename (¬ _) => hc)
    refine Mine.join_law (gl := Mine.gl5) (n := 6) XI (Mine.law_spec5 (n := 0) rfl TC (fun _ h => h) (by omega)) (Mine.gl5_ok rfl TC) w1 (by decide) ?_
    intro s' hk hos hge
    exact GoodW.toG ⟨.inl ⟨_, .bool true, [], rfl, fun _ => rfl, .bool true, by kernel_rfl, unshared_nil⟩, hk, hos, hge.trans hg⟩)))
