import PyProof.Rows.All
import Wide.All
import OpenK.AllK
import Wide.FinOn
import PySem.Challenge.RW_un0026_01
open PySem PySem.W PyProof.Rows
set_option Elab.async false
set_option compiler.extract_closed false
set_option pp.deepTerms false
set_option pp.deepTerms.threshold 2
set_option pp.maxSteps 400
namespace Mine
def stQ (i : Nat) : Stmt := match PySem.Challenge.pw_un0026_01.main.body[i]? with | some s => s | none => .Pass ⟨0, 0, 0, 0⟩
def pwQ : Program := { PySem.Challenge.pw_un0026_01 with main := { PySem.Challenge.pw_un0026_01.main with body := [stQ 0, stQ 1, stQ 2, stQ 3, stQ 4, stQ 5, stQ 6, stQ 7, stQ 8, stQ 9, stQ 10, stQ 11, stQ 12, stQ 13, stQ 14, stQ 15, stQ 16, stQ 17, stQ 18, stQ 19, stQ 20, stQ 21, stQ 22, stQ 23, stQ 24, stQ 25, stQ 26, stQ 27, stQ 28, stQ 29, stQ 30, stQ 31, stQ 32, stQ 33, stQ 34, stQ 35, stQ 36, stQ 37, stQ 38, stQ 39, stQ 40, stQ 41, stQ 42, stQ 43, stQ 44, stQ 45, stQ 46, stQ 47, stQ 48, stQ 49, stQ 50, stQ 51, stQ 52, stQ 53, stQ 54, stQ 55, stQ 56, stQ 57, stQ 58, stQ 59, stQ 60, stQ 61, stQ 62, stQ 63, stQ 64, stQ 65, stQ 66, stQ 67, stQ 68, stQ 69, stQ 70, stQ 71, stQ 72, stQ 73] } }
def rwQ : OpenLaw := { PySem.Challenge.rw_un0026_01 with prog := pwQ }
set_option maxRecDepth 100000 in
theorem rwQ_eq : rwQ = PySem.Challenge.rw_un0026_01 := by rfl
set_option maxRecDepth 100000
noncomputable def stNm (s : Stmt) : Str := match s with
  | .FunctionDef n _ _ _ _ _ _ _ _ _ => n
  | .ClassDef n _ _ _ _ _ _ _ _ _ _ => n
  | .Assign (.Name n _ :: _) _ _ => n
  | _ => default
noncomputable def stVal (s : Stmt) (t : Tok) : Value := match s with
  | .Assign _ (.Constant (.int n) _ _) _ => .int n t
  | .Assign _ (.Constant (.str x) _ _) _ => .str x t
  | _ => default
noncomputable def enK (P : Params) (n : Str) (t : Tok) (v : Value) : DictEntry := { hash := PyData.keyHash P n, key := .str n t, val := v }
noncomputable def enC (P : Params) (x : Nat × Nat × Nat) : DictEntry := enK P (stNm (stQ x.1)) x.2.1 (stVal (stQ x.1) x.2.2)
noncomputable def enF (P : Params) (x : Nat × Nat × Nat) : DictEntry := enK P (stNm (stQ x.1)) x.2.1 (.ref x.2.2)
noncomputable def stKeys (s : Stmt) : List (Expr × Expr) := match s with
  | .Assign _ (.Dict ks vs _) _ => (ks.filterMap id).zip vs
  | _ => []
noncomputable def exStr (e : Expr) : Str := match e with | .Constant (.str x) _ _ => x | .Name x _ => x | _ => default
noncomputable def fnQ (i : Nat) (mod : Value) (code : Addr) : Obj := match stQ i with
  | .FunctionDef n a b _ _ _ sc _ _ _ => { cls := .type "function", data := .func { name := n, qualname := n, params := a, body := .stmts b, scope := sc, globals := 3, closure := [], defaults := .none, kwdefaults := .none, pyModule := mod, code := .ref code } }
  | _ => default
noncomputable def dict3 (P : Params) : Obj := { cls := .type "dict", data := .dict (([enK P "__name__" 165 (stVal (stQ 67) 538), enK P "__doc__" 166 .none, enK P "__package__" 167 .none, enK P "__loader__" 168 (.builtin "__main__.__loader__#opaque"), enK P "__spec__" 169 .none, enK P "__annotations__" 170 (.ref 6), enK P "__builtins__" 171 (.ref 4), enK P "__file__" 173 (.str "/claim/cut.py" 172), enK P "__cached__" 174 .none] ++ ([(1, 190, 189)] : List (Nat × Nat × Nat)).map (enC P) ++ ([(2, 207, 21), (3, 221, 28), (4, 232, 35), (5, 243, 42), (6, 258, 49), (7, 268, 56), (9, 290, 66), (10, 306, 79), (11, 317, 88)] : List (Nat × Nat × Nat)).map (enF P) ++ ([(13, 321, 320), (14, 323, 322), (15, 325, 324), (16, 327, 326), (17, 329, 328), (18, 331, 330), (19, 333, 332), (20, 335, 334), (21, 337, 336), (22, 339, 338), (23, 341, 340), (24, 343, 342), (25, 345, 344), (26, 347, 346), (27, 349, 348), (28, 351, 350), (29, 353, 352), (30, 355, 354), (31, 357, 356), (32, 359, 358), (33, 361, 360), (34, 363, 362), (35, 365, 364), (36, 367, 366), (37, 369, 368), (38, 371, 370), (39, 373, 372), (40, 375, 374), (41, 377, 376), (42, 379, 378), (43, 381, 380), (44, 383, 382), (45, 385, 384), (46, 387, 386), (47, 389, 388), (48, 391, 390), (49, 393, 392), (50, 395, 394), (51, 397, 396), (52, 399, 398), (53, 401, 400), (54, 403, 402), (55, 405, 404), (56, 407, 406), (57, 409, 408), (58, 411, 410), (59, 413, 412), (60, 415, 414), (61, 417, 416), (62, 419, 418)] : List (Nat × Nat × Nat)).map (enC P) ++ ([(63, 516, 89), (64, 523, 98), (65, 530, 105), (66, 537, 112), (68, 548, 119), (69, 565, 126), (70, 576, 133), (71, 587, 140), (72, 593, 145), (73, 599, 150)] : List (Nat × Nat × Nat)).map (enF P)).toArray) 79 }
noncomputable def tokK : List (Nat × Int × Nat) := [(420, 54, 416), (422, 28, 364), (424, 24, 356), (426, 40, 388), (428, 19, 346), (430, 41, 390), (432, 7, 322), (434, 8, 324), (436, 16, 340), (438, 35, 378), (440, 46, 400), (442, 38, 384), (444, 14, 336), (446, 36, 380), (448, 12, 332), (450, 15, 338), (452, 37, 382), (454, 51, 410), (456, 23, 354), (458, 52, 412), (460, 17, 342), (462, 47, 402), (464, 48, 404), (466, 39, 386), (468, 11, 330), (470, 53, 414), (472, 13, 334), (474, 20, 348), (476, 33, 374), (478, 44, 396), (480, 29, 366), (482, 22, 352), (484, 27, 362), (486, 21, 350), (488, 30, 368), (489, 34, 376), (490, 45, 398), (491, 49, 406), (492, 50, 408), (493, 9, 326), (494, 10, 328), (495, 32, 372), (496, 43, 394), (497, 25, 358), (498, 18, 344), (499, 42, 392), (500, 26, 360), (501, 31, 370)]
noncomputable def dict89 (P : Params) : Obj := { cls := .type "dict", data := .dict (((stKeys (stQ 63)).zip tokK).map (fun x => enK P (exStr x.1.1) x.2.1 (.int x.2.2.1 x.2.2.2))).toArray 48 }
noncomputable def fnK (i t j c : Nat) : Obj := fnQ i (stVal (stQ j) t) c
noncomputable def cdK (i t line argc a t2 c : Nat) (two : Bool) : Obj := { cls := .type "code", data := .fields #[.str (stNm (stQ i)) t, .str (stNm (stQ i)) (t + 1), .str "/claim/cut.py" (t + 2), .int line 0, .int argc 0, .int 0 0, .int 0 0, .int 3 0, .ref a, .bool true, .int 181 0, .ref (a + 1), .none, if two then .ref (a + 2) else .none, if two then .ref (a + 3) else .none, .ref (c - 1), .int t2 0, .int line 0, .str "/claim/cut.py" (t2 + 1)] }
noncomputable def Kq (P : Params) : Frag := (nat_lit 3, dict3 P) :: (nat_lit 20, cdK 2 191 3 3 15 205 20 true) :: (nat_lit 21, fnK 2 187 0 20) :: (nat_lit 27, cdK 3 208 19 6 22 219 27 true) :: (nat_lit 28, fnK 3 187 0 27) :: (nat_lit 34, cdK 4 222 29 2 29 230 34 true) :: (nat_lit 35, fnK 4 187 0 34) :: (nat_lit 41, cdK 5 233 45 2 36 241 41 true) :: (nat_lit 42, fnK 5 187 0 41) :: (nat_lit 48, cdK 6 244 54 2 43 256 48 true) :: (nat_lit 49, fnK 6 187 0 48) :: (nat_lit 55, cdK 7 259 65 2 50 266 55 true) :: (nat_lit 56, fnK 7 187 0 55) :: (nat_lit 87, cdK 11 307 81 1 82 315 87 true) :: (nat_lit 88, fnK 11 269 8 87) :: (nat_lit 89, dict89 P) :: (nat_lit 97, cdK 64 517 150 1 92 521 97 true) :: (nat_lit 98, fnK 64 318 12 97) :: (nat_lit 104, cdK 65 524 152 1 99 528 104 true) :: (nat_lit 105, fnK 65 318 12 104) :: (nat_lit 111, cdK 66 531 154 1 106 535 111 true) :: (nat_lit 112, fnK 66 318 12 111) :: (nat_lit 118, cdK 68 540 157 1 113 546 118 true) :: (nat_lit 119, fnK 68 538 67 118) :: (nat_lit 125, cdK 69 549 162 1 120 563 125 true) :: (nat_lit 126, fnK 69 538 67 125) :: (nat_lit 132, cdK 70 566 178 1 127 574 132 true) :: (nat_lit 133, fnK 70 538 67 132) :: (nat_lit 139, cdK 71 577 190 1 134 585 139 true) :: (nat_lit 140, fnK 71 538 67 139) :: (nat_lit 144, cdK 72 588 205 2 141 591 144 false) :: (nat_lit 145, fnK 72 538 67 144) :: (nat_lit 149, cdK 73 594 212 1 146 597 149 false) :: (nat_lit 150, fnK 73 538 67 149) :: []
noncomputable def KqA : List Addr := [nat_lit 3, nat_lit 20, nat_lit 21, nat_lit 27, nat_lit 28, nat_lit 34, nat_lit 35, nat_lit 41, nat_lit 42, nat_lit 48, nat_lit 49, nat_lit 55, nat_lit 56, nat_lit 87, nat_lit 88, nat_lit 89, nat_lit 97, nat_lit 98, nat_lit 104, nat_lit 105, nat_lit 111, nat_lit 112, nat_lit 118, nat_lit 119, nat_lit 125, nat_lit 126, nat_lit 132, nat_lit 133, nat_lit 139, nat_lit 140, nat_lit 144, nat_lit 145, nat_lit 149, nat_lit 150]
noncomputable def qV : Program := { pwQ with main := { pwQ.main with body := [stQ 1, stQ 2, stQ 3, stQ 4, stQ 5, stQ 6, stQ 7, stQ 9, stQ 10, stQ 11, stQ 13, stQ 14, stQ 15, stQ 16, stQ 17, stQ 18, stQ 19, stQ 20, stQ 21, stQ 22, stQ 23, stQ 24, stQ 25, stQ 26, stQ 27, stQ 28, stQ 29, stQ 30, stQ 31, stQ 32, stQ 33, stQ 34, stQ 35, stQ 36, stQ 37, stQ 38, stQ 39, stQ 40, stQ 41, stQ 42, stQ 43, stQ 44, stQ 45, stQ 46, stQ 47, stQ 48, stQ 49, stQ 50, stQ 51, stQ 52, stQ 53, stQ 54, stQ 55, stQ 56, stQ 57, stQ 58, stQ 59, stQ 60, stQ 61, stQ 62, stQ 63, stQ 64, stQ 65, stQ 66, stQ 68, stQ 69, stQ 70, stQ 71, stQ 72, stQ 73] } }
noncomputable abbrev HQ := kmHook Kq KqA (fun _ => by kernel_rfl) [37, 30]
noncomputable abbrev XtQ (s : Shared) : Bool := xlAt qV [] s && recOk (RowW.records rwQ.row.toRowW) s
noncomputable def H0 (P : Params) : Heap := ((fencedOpening treeTable pwQ ⟨fun _ _ => 0, P⟩ 4926).map (·.heap)).getD default
noncomputable def h0 (P : Params) (i : Nat) : Obj := ((H0 P).objs[i]?).getD default
noncomputable def kq (P : Params) (i : Nat) : Obj := ((Kq P).lookup i).getD default
noncomputable def tabK (vs : Array Value) : Obj := { cls := .none, data := .fields vs }
noncomputable def tupK (vs : List Value) : Obj := { cls := .type "tuple", data := .seq vs.toArray 0 }
noncomputable def tupS (t : Nat) (ss : List Str) : Obj := { cls := .type "tuple", data := .seq (ss.zipIdx.map fun x => Value.str x.1 (t + x.2)).toArray 0 }
noncomputable def cfK (i : Nat) : Obj := match stQ i with
  | .FunctionDef n a b _ _ _ sc _ _ _ => { cls := .none, data := .func { name := n, qualname := n, params := a, body := .stmts b, scope := sc, globals := 0, closure := [], defaults := .none, kwdefaults := .none } }
  | _ => default
noncomputable def ob0 (P : Params) : List Obj := [h0 P 0, h0 P 1, ({ cls := .none, data := .dict #[enK P "type.__subclasses__.Exception.0" 287 (.int 66 0), enK P "type.__subclasses__.Exception.n" 288 (.int 1 0)] 2 }), kq P 3, h0 P 4, h0 P 5, h0 P 6, h0 P 7, h0 P 8, h0 P 9, h0 P 10, (tupK []), (tabK #[.int 3 0, .int 0 0, .ref 20, .int 19 0, .int 0 0, .ref 27, .int 29 0, .int 0 0, .ref 34, .int 45 0, .int 0 0, .ref 41, .int 54 0, .int 0 0, .ref 48, .int 65 0, .int 0 0, .ref 55, .int 77 0, .int 0 0, .ref 62, .int 79 0, .int 0 0, .ref 75, .int 81 0, .int 0 0, .ref 87, .int 150 0, .int 0 0, .ref 97, .int 152 0, .int 0 0, .ref 104, .int 154 0, .int 0 0, .ref 111, .int 157 0, .int 0 0, .ref 118, .int 162 0, .int 0 0, .ref 125, .int 178 0, .int 0 0, .ref 132, .int 190 0, .int 0 0, .ref 139, .int 205 0, .int 0 0, .ref 144, .int 212 0, .int 0 0, .ref 149]), ({ cls := .type "code", data := .fields #[.str "<module>" 182, .str "<module>" 183, .str "/claim/cut.py" 184, .int 1 0, .int 0 0, .int 0 0, .int 0 0, .int 0 0, .ref 11, .bool false, .int 181 0, .ref 12, .none, .none, .none, .none, .int 185 0, .int 1 0, .str "/claim/cut.py" 186] }), ({ cls := .type "frame", data := .plain, slots := #[some (.ref 13), some (.ref 3), some (.ref 3), none, some (.str "__main__" 164), none, some (.ref 0)] }), (tupK []), (tabK #[]), (tupS 194 ["a", "b", "n", "pad", "half_n", "mask", "b1", "b2", "q1", "r", "q2"]), (tupK []), (cfK 2), kq P 20, kq P 21, (tupK []), (tabK #[]), (tupS 211 ["a12", "a3", "b", "b1", "b2", "n", "q", "r"]), (tupK []), (cfK 3), kq P 27, kq P 28, (tupK [])]
noncomputable def ob1 (P : Params) : List Obj := [(tabK #[]), (tupS 225 ["a", "n"]), (tupS 227 ["n", "a_digits", "inner"]), (cfK 4), kq P 34, kq P 35, (tupK []), (tabK #[]), (tupS 236 ["digits", "n"]), (tupS 238 ["digits", "n", "inner"]), (cfK 5), kq P 41, kq P 42, (tupK []), (tabK #[]), (tupS 247 ["a", "b", "n", "a_digits", "r", "q_digits", "a_digit", "q_digit", "q"]), (tupK []), (cfK 6), kq P 48, kq P 49, (tupK []), (tabK #[]), (tupS 262 ["a", "b", "q", "r"]), (tupK []), (cfK 7), kq P 55, kq P 56, (tupK [.type "Exception"]), ({ cls := .type "builtin_function_or_method", data := .fields #[.builtin "type.__prepare__", .type "type"] }), ({ cls := .type "dict", data := .dict #[enK P "__module__" 278 (.str "cpy313.ftplib" 269), enK P "__qualname__" 280 (.str "Error" 279), enK P "__firstlineno__" 282 (.int 77 281), enK P "__static_attributes__" 283 (.ref 64)] 4 })]
noncomputable def ob2 (P : Params) : List Obj := [(tupK []), (tabK #[]), ({ cls := .type "code", data := .fields #[.str "Error" 273, .str "Error" 274, .str "/claim/cut.py" 275, .int 77 0, .int 0 0, .int 0 0, .int 0 0, .int 0 0, .ref 60, .bool false, .int 181 0, .ref 61, .none, .none, .none, .none, .int 276 0, .int 77 0, .str "/claim/cut.py" 277] }), ({ cls := .type "frame", data := .plain, slots := #[some (.ref 62), some (.ref 3), some (.ref 59), none, some (.str "cpy313.ftplib" 269), none, some (.ref 0)] }), (tupK []), ({ cls := .type "dict", data := .dict #[enK P "__module__" 278 (.str "cpy313.ftplib" 269), enK P "__firstlineno__" 282 (.int 77 281), enK P "__static_attributes__" 283 (.ref 64), enK P "__weakref__" 285 (.ref 67), enK P "__doc__" 286 (.none)] 3 }), ({ cls := .type "type", data := .cls { name := "Error", bases := [.type "Exception"], mro := [.ref 66, .type "Exception", .type "BaseException", .type "object"], ns := 65, qualname := "Error", hasDict := true, slotNames := [], subclasses := [.ref 79], abstract := false, collection := none, hasDel := false }, slots := #[some (.ref 57), none, some (.str "Error" 271), some (.str "Error" 279), some (.builtin "Exception.__new__"), some (.bool true)] }), ({ cls := .type "getset_descriptor", data := .fields #[.str "__weakref__" 284, .ref 66, .builtin "ExceptionGroup.__weakref__", .none] }), ({ cls := .type "super", data := .fields #[.ref 66, .ref 66, .ref 66] }), ({ cls := .type "builtin_function_or_method", data := .fields #[.builtin "object.__init_subclass__", .ref 66] }), (tupK [.ref 66]), ({ cls := .type "builtin_function_or_method", data := .fields #[.builtin "type.__prepare__", .type "type"] }), ({ cls := .type "dict", data := .dict #[enK P "__module__" 298 (.str "cpy313.ftplib" 269), enK P "__qualname__" 300 (.str "error_reply" 299), enK P "__firstlineno__" 302 (.int 79 301), enK P "__static_attributes__" 303 (.ref 77)] 4 }), (tupK []), (tabK #[]), ({ cls := .type "code", data := .fields #[.str "error_reply" 293, .str "error_reply" 294, .str "/claim/cut.py" 295, .int 79 0, .int 0 0, .int 0 0, .int 0 0, .int 0 0, .ref 73, .bool false, .int 181 0, .ref 74, .none, .none, .none, .none, .int 296 0, .int 79 0, .str "/claim/cut.py" 297] }), ({ cls := .type "frame", data := .plain, slots := #[some (.ref 75), some (.ref 3), some (.ref 72), none, some (.str "cpy313.ftplib" 269), none, some (.ref 0)] }), (tupK []), ({ cls := .type "dict", data := .dict #[enK P "__module__" 298 (.str "cpy313.ftplib" 269), enK P "__firstlineno__" 302 (.int 79 301), enK P "__static_attributes__" 303 (.ref 77), enK P "__doc__" 304 (.none)] 2 }), ({ cls := .type "type", data := .cls { name := "error_reply", bases := [.ref 66], mro := [.ref 79, .ref 66, .type "Exception", .type "BaseException", .type "object"], ns := 78, qualname := "error_reply", hasDict := true, slotNames := [], subclasses := [], abstract := false, collection := none, hasDel := false }, slots := #[some (.ref 70), none, some (.str "error_reply" 291), some (.str "error_reply" 299), some (.builtin "Exception.__new__"), some (.bool true)] }), ({ cls := .type "super", data := .fields #[.ref 79, .ref 79, .ref 79] }), ({ cls := .type "builtin_function_or_method", data := .fields #[.builtin "object.__init_subclass__", .ref 79] }), (tupK []), (tabK #[]), (tupS 310 ["resp", "dirname", "i", "n", "c"]), (tupK []), (cfK 11), kq P 87, kq P 88, kq P 89]
noncomputable def ob3 (P : Params) : List Obj := [({ cls := .type "dict", data := .dict #[enK P "->" 454 (.int 51 410), enK P "." 456 (.int 23 354), enK P "..." 458 (.int 52 412), enK P "/" 460 (.int 17 342), enK P "//" 462 (.int 47 402), enK P "//=" 464 (.int 48 404), enK P "/=" 466 (.int 39 386), enK P ":" 468 (.int 11 330), enK P ":=" 470 (.int 53 414), enK P ";" 472 (.int 13 334), enK P "<" 474 (.int 20 348), enK P "<<" 476 (.int 33 374), enK P "<<=" 478 (.int 44 396), enK P "<=" 480 (.int 29 366), enK P "=" 482 (.int 22 352), enK P "==" 484 (.int 27 362), enK P ">" 486 (.int 21 350)] 17 }), ({ cls := .type "dict", data := .dict #[enK P ">=" 488 (.int 30 368), enK P ">>" 489 (.int 34 376), enK P ">>=" 490 (.int 45 398), enK P "@" 491 (.int 49 406), enK P "@=" 492 (.int 50 408), enK P "[" 493 (.int 9 326), enK P "]" 494 (.int 10 328), enK P "^" 495 (.int 32 372), enK P "^=" 496 (.int 43 394), enK P "{" 497 (.int 25 358), enK P "|" 498 (.int 18 344), enK P "|=" 499 (.int 42 392), enK P "}" 500 (.int 26 360), enK P "~" 501 (.int 31 370)] 14 }), (tupK []), (tabK #[]), (tupS 520 ["x"]), (tupK []), (cfK 64), kq P 97, kq P 98, (tupK []), (tabK #[]), (tupS 527 ["x"]), (tupK []), (cfK 65), kq P 104, kq P 105, (tupK []), (tabK #[]), (tupS 534 ["x"]), (tupK []), (cfK 66), kq P 111, kq P 112, (tupK []), (tabK #[]), (tupS 543 ["script", "cells", "k"]), (tupK []), (cfK 68), kq P 118, kq P 119]
noncomputable def ob4 (P : Params) : List Obj := [(tupK []), (tabK #[]), (tupS 552 ["cells", "marks", "choices", "parts", "turned", "runs", "factors", "pieces", "k", "mark", "other"]), (tupK []), (cfK 69), kq P 125, kq P 126, (tupK []), (tabK #[]), (tupS 569 ["name", "symbols", "k", "wide", "piece"]), (tupK []), (cfK 70), kq P 132, kq P 133, (tupK []), (tabK #[]), (tupS 580 ["symbols", "runs", "numbers", "count", "number"]), (tupK []), (cfK 71), kq P 139, kq P 140, (tupK []), (tabK #[]), (cfK 72), kq P 144, kq P 145, (tupK []), (tabK #[]), (cfK 73), kq P 149]
noncomputable def ob5 (P : Params) : List Obj := [kq P 150]
noncomputable def obsQ (P : Params) : List Obj := ob0 P ++ ob1 P ++ ob2 P ++ ob3 P ++ ob4 P ++ ob5 P
noncomputable def H1 (P : Params) : Heap := { objs := (obsQ P).toArray }
set_option maxRecDepth 100000 in
theorem open0 (w : World) : (fencedOpening treeTable pwQ w 4926).map (fun s => (s.heap, s.gens, s.drawn, s.toks)) = some (H0 w.params, #[], {}, 181) := by kernel_rfl
set_option maxRecDepth 100000 in
theorem size0 (w : World) : ((H0 w.params).isNs mainGlobals && (#[] : Array GenState).size == 0, (H0 w.params).objs.size, (H0 w.params).nsMap mainGlobals "__annotations__") = (true, 11, some (.ref 6)) := by kernel_rfl
noncomputable def ent3 (P : Params) : List DictEntry := match (dict3 P).data with | .dict es _ => es.toList | _ => []
noncomputable def dictM (P : Params) (k : Nat) (v : Value) : Obj := { cls := .type "dict", data := .dict (enK P "__name__" 165 v :: ((ent3 P).take k).drop 1).toArray k }
noncomputable def tabM (P : Params) (m : Nat) : Obj := tabK (match (obsQ P)[12]? with | some o => (match o.data with | .fields vs => (vs.toList.take m).toArray | _ => #[]) | none => #[])
noncomputable def Hm (P : Params) (n k m : Nat) (v : Value) : Heap := { objs := ((((obsQ P).take n).set 3 (dictM P k v)).set 12 (tabM P m)).toArray }
noncomputable def Hp (P : Params) : Heap := { objs := (((((obsQ P).take 15).set 2 { cls := .none, data := .dict #[] 0 }).set 3 (dictM P 9 (.str "__main__" 164))).set 12 (tabM P 0)).toArray }
noncomputable def envQ : Env := { scope := pwQ.main.scope, locals := mainNs, globals := mainNs, cells := [], code := .ref 13, frame := some 14 }
noncomputable def stsA : List Stmt := [stQ 0, stQ 1, stQ 2, stQ 3, stQ 4, stQ 5, stQ 6, stQ 7, stQ 8, stQ 9, stQ 10]
noncomputable def stsB : List Stmt := [stQ 11, stQ 12, stQ 13, stQ 14, stQ 15, stQ 16, stQ 17, stQ 18, stQ 19, stQ 20, stQ 21, stQ 22, stQ 23, stQ 24, stQ 25, stQ 26, stQ 27, stQ 28, stQ 29, stQ 30, stQ 31, stQ 32, stQ 33, stQ 34, stQ 35, stQ 36, stQ 37, stQ 38, stQ 39, stQ 40, stQ 41, stQ 42, stQ 43, stQ 44, stQ 45, stQ 46, stQ 47, stQ 48, stQ 49, stQ 50, stQ 51, stQ 52, stQ 53, stQ 54, stQ 55, stQ 56, stQ 57, stQ 58, stQ 59, stQ 60, stQ 61, stQ 62]
noncomputable def stsC : List Stmt := [stQ 63]
noncomputable def stsD : List Stmt := [stQ 64, stQ 65, stQ 66, stQ 67, stQ 68, stQ 69, stQ 70, stQ 71, stQ 72, stQ 73]
noncomputable def bQ : List Stmt := stsA ++ (stsB ++ (stsC ++ (stsD ++ [])))
noncomputable def cQ : Code := .body bQ envQ
noncomputable abbrev posQ0 : Pos := ⟨0, 0, 0, 0⟩
noncomputable abbrev shQ (H : Heap) (k : Nat) (os : OsState) : Shared := ⟨H, #[], {}, k, os⟩
noncomputable abbrev SegQ (w : World) (n : Nat) (s : Shared) (t : Thread) (s' : Shared) (p' : Pos) : Prop := segRun treeTable pwQ w 11 (some (.ref 6)) 1 n s t = some (.next, s', cQ, p')
noncomputable def hpQ2 (w : World) : Heap := Hm w.params 82 18 24 (stVal (stQ 8) 269)
noncomputable def hpQ3 (w : World) : Heap := Hm w.params 89 69 27 (stVal (stQ 12) 318)
noncomputable def hpQ4 (w : World) : Heap := Hm w.params 92 70 27 (stVal (stQ 12) 318)
set_option maxRecDepth 100000 in
theorem preQ (w : World) (os : OsState) : topGo treeTable pwQ w 11 (some (.ref 6)) 12 (shQ (H0 w.params) 181 os) (topStub pwQ) = some (shQ (Hp w.params) 187 os, ⟨denote treeTable (.body bQ envQ), cQ, posQ0, [topFrame posQ0]⟩) := by kernel_rfl
set_option maxRecDepth 100000 in
theorem blkQ (w : World) (os : OsState) : SegQ w 1 (shQ (Hp w.params) 187 os) (blockOf bQ envQ cQ posQ0 [topFrame posQ0]) (shQ (Hp w.params) 187 os) posQ0 := by kernel_rfl
set_option maxRecDepth 100000 in
theorem segA (w : World) (os : OsState) : SegQ w 647 (shQ (Hp w.params) 187 os) (piecesOf stsA envQ cQ posQ0 [topFrame posQ0]) (shQ (hpQ2 w) 307 os) ⟨79, 0, 80, 8⟩ := by kernel_rfl
set_option maxRecDepth 100000 in
theorem segB (w : World) (os : OsState) : SegQ w 493 (shQ (hpQ2 w) 307 os) (piecesOf stsB envQ cQ ⟨79, 0, 80, 8⟩ [topFrame posQ0]) (shQ (hpQ3 w) 420 os) ⟨148, 0, 148, 9⟩ := by kernel_rfl
noncomputable abbrev SegC (w : World) : Prop := ∀ os : OsState, SegQ w 979 (shQ (hpQ3 w) 420 os) (piecesOf stsC envQ cQ ⟨148, 0, 148, 9⟩ [topFrame posQ0]) (shQ (hpQ4 w) 517 os) ⟨149, 0, 149, 17⟩
set_option maxRecDepth 100000 in
theorem segC0 (w : World) : SegC (w.withFollow "special-get-raises" false) := fun os => by kernel_rfl
set_option maxRecDepth 100000 in
theorem segC1 (w : World) : SegC (w.withFollow "special-get-raises" true) := fun os => by kernel_rfl
set_option maxRecDepth 100000 in
theorem segD (w : World) (os : OsState) : SegQ w 285 (shQ (hpQ4 w) 517 os) (piecesOf stsD envQ cQ ⟨149, 0, 149, 17⟩ [topFrame posQ0]) (shQ (H1 w.params) 600 os) ⟨212, 0, 240, 15⟩ := by kernel_rfl
set_option maxRecDepth 100000 in
theorem finQ (w : World) (os : OsState) : topRun treeTable pwQ w 11 (some (.ref 6)) 2 (shQ (H1 w.params) 600 os) ⟨doneF .next, cQ, ⟨212, 0, 240, 15⟩, [topFrame posQ0]⟩ = some (shQ (H1 w.params) 600 os) := by kernel_rfl
theorem runQ (w : World) (os : OsState) : topRun treeTable pwQ w 11 (some (.ref 6)) (12 + (1 + (647 + (493 + (979 + (285 + 2)))))) (shQ (H0 w.params) 181 os) (topStub pwQ) = some (shQ (H1 w.params) 600 os) :=
  go_top (preQ w os) (piece_block (blkQ w os) (piece_app (segA w os) (piece_app (segB w os) (piece_app (byRow2 "special-get-raises" (P := SegC) segC0 segC1 w os) (piece_app (segD w os) (piece_nil (finQ w os)))))))
set_option maxRecDepth 100000 in
theorem look0 (w : World) (os : OsState) : (staticsOk (importedModules pwQ.main.body) (H0 w.params) (H1 w.params) && namesBound pwQ (H1 w.params) && gensDone ⟨H1 w.params, #[], {}, 600, os⟩ && laidKept (H0 w.params) (H1 w.params)) = true := by kernel_rfl
set_option maxRecDepth 100000 in
theorem look1 (w : World) (os : OsState) : openSeen qV ["EXACT_TOKEN_TYPES"] (importedModules pwQ.main.body) XtQ true ⟨H1 w.params, #[], {}, 600, os⟩ = openGood qV ["EXACT_TOKEN_TYPES"] := by kernel_rfl
set_option maxRecDepth 100000 in
theorem look2 (w : World) (os : OsState) : Hook.obs HQ ⟨H1 w.params, #[], {}, 600, os⟩ = Hook.val HQ w := by kernel_rfl
theorem leftQ : LeftO pwQ qV ["EXACT_TOKEN_TYPES"] XtQ (Hook.obs HQ) (Hook.val HQ) 4926 :=
  LeftO.of_pieces (M := 12 + (1 + (647 + (493 + (979 + (285 + 2)))))) open0 size0 runQ (by decide) fun w => funext fun os => by rw [look0, look1, look2]
set_option maxRecDepth 100000 in
theorem saidA : namesResolve rwQ.row.prog = true := by kernel_rfl
set_option maxRecDepth 100000 in
theorem saidB : noRoadLSs { strict := !(importedModules rwQ.row.prog.main.body).all cThrough.contains, foot := none, bare := (["vars", "dir", "locals"] : List Str).filter (readsOut rwQ.row.prog rwQ.row.prog.main.body) } rwQ.row.prog.main.body = true := by kernel_rfl
set_option maxRecDepth 100000 in
theorem saidC : (namesMeet rwQ.row.prog rwQ.row.prog.main.body fun _ n => attrL n) = true := by kernel_rfl
set_option maxRecDepth 100000 in
theorem said1 : looksOpen rwQ.row.prog = true := by
  unfold looksOpen
  rw [saidA, saidB, saidC]
  kernel_rfl
set_option maxRecDepth 100000 in
theorem said2 : rwQ.row.wellSaid = true := by
  unfold OpenRow.wellSaid OpenRow.partSaid
  rw [said1]
  kernel_rfl
set_option maxRecDepth 100000 in
theorem said3 : rwQ.bound'.all (fun n => !builtinNamed n || rwQ.about == [n] || !rwQ.reads n) = true := by kernel_rfl
set_option maxRecDepth 100000 in
theorem saidQ : rwQ.wellSaid = true := by
  unfold OpenLaw.wellSaid
  rw [said2, said3]
  kernel_rfl
set_option maxRecDepth 100000 in
theorem okQ : (chainsOk qV && opensWell rwQ.row.prog && (frees rwQ.row.toRowW && rwQ.row.within.isEmpty)) = true := by kernel_rfl
set_option maxRecDepth 100000 in
theorem bareQ : rwQ.row.prog.bare := ⟨rfl, rfl, rfl, rfl, rfl, by decide +kernel⟩
set_option maxRecDepth 100000 in
theorem promQ : rwQ.row.toRowW.promised := by w_witness2
set_option maxRecDepth 100000 in
theorem hd {d : DefRec} {kwd : List (Str × PySem.Expr)} (hdef : defOf qV rwQ.row.name = some (d, kwd)) (hp : rwQ.row.prog.theDef rwQ.row.name = some (d.params, d.body, d.scope)) (hk : kwWritten? d.params.kwonlyargs d.params.kw_defaults = some kwd)
    (call : WalkO qV ["EXACT_TOKEN_TYPES"] (XL qV []) (Hook.says HQ) rwQ.row.toRowW d kwd fun f vs => PySem.call f vs) : rwQ.Holds :=
  holds_law saidQ fun said => holds_open leftQ (Hook.of HQ) (Hook.keeps HQ) (fun s e => xl_of s (Bool.and_eq_true_iff.mp e).1) XL.keeps hdef hp hk (fun s e => recFacts_of (Bool.and_eq_true_iff.mp e).2) rfl said okQ bareQ promQ call

noncomputable abbrev LP : Program := rwQ.row.toRowW.prog
noncomputable abbrev Led := List (Addr × Obj)
theorem fillOnce (w : World) : (rwQ = rwQ) ∧ (Kq w.params = Kq w.params) := by
  k_fill
  exact ⟨rfl, rfl⟩
noncomputable abbrev tupObj (vs : Array Value) : Obj := { cls := .type "tuple", data := .seq vs }
/-- a contract of a def of the text, from any caller's frame: what comes back, and the ledger behind it -/
noncomputable abbrev Ct (w : World) (f : Addr) (vs : List Value) (dd uu : Nat) (news : Led) (C : Heap → Prop) (post : Value → Led → Prop) : Prop :=
  ∀ (p : Program) (loose : List Str) (mean : ExcName → Option Value) (mg mb : Str → Option Value)
    (dp un : Nat) (gd : Option (List Code)) (cn : Str) (cs : Scope) (ca : Addr) (ccd : Value) (cl : List (Str × Addr)) (outer : List Env) (A₀ : Around) (base h₀ : Heap) (L : Addr) (m : Str → Option Value) (s : Shared) (Q E : Value → Shared → Prop),
    Below A₀ base outer h₀ → Fr h₀ L s.heap m → (Kq w.params).In h₀ → News h₀ L s.heap news → Top p loose mean mg mb h₀ → cs.kind = .function →
    C base → dp + dd < recursionLimit → un + uu < cLine →
    (∀ v nw h' tk', post v nw → Fr h₀ L h' m → News h₀ L h' nw → Q v { s with heap := h', toks := tk' }) →
    wpAny (model LP w) (ktrTop dp un gd cn cs L ca ccd cl outer) (call (.ref f) vs) Q E s

theorem ctUse {w : World} {f : Addr} {vs : List Value} {dd uu : Nat} {news : Led} {C : Heap → Prop} {post : Value → Led → Prop} (h : Ct w f vs dd uu news C post)
    {p : Program} {loose : List Str} {mean : ExcName → Option Value} {mg mb : Str → Option Value}
    {dp un : Nat} {gd : Option (List Code)} {cn : Str} {cs : Scope} {ca : Addr} {ccd : Value} {cl : List (Str × Addr)} {outer : List Env} {A₀ : Around} {base h₀ : Heap} {L : Addr} {m : Str → Option Value} {s : Shared} {Q E : Value → Shared → Prop}
    (B : Below A₀ base outer h₀) (F : Fr h₀ L s.heap m) (X : (Kq w.params).In h₀) (N : News h₀ L s.heap news) (T : Top p loose mean mg mb h₀) (hk : cs.kind = .function)
    (hC : C base) (hd : dp + dd < recursionLimit) (hu : un + uu < cLine)
    (ret : ∀ v nw h' tk', post v nw → Fr h₀ L h' m → News h₀ L h' nw → Q v { s with heap := h', toks := tk' }) :
    wpAny (model LP w) (ktrTop dp un gd cn cs L ca ccd cl outer) (call (.ref f) vs) Q E s := h _ _ _ _ _ _ _ _ _ _ _ _ _ _ _ _ _ _ _ _ _ _ B F X N T hk hC hd hu ret
noncomputable def SmallDiv (b : Int) : Prop := b.natAbs.log2 < 9000
theorem floordiv_sd {prog : Program} {w : World} {A : Around} {E : Value → Shared → Prop} {s : Shared} {a b : Int} {t u : Tok} {Q : Value → Shared → Prop} (hs : SmallDiv b) (hb : b ≠ 0) (h : Q (.int (a.fdiv b) s.toks) { s with toks := s.toks + 1 }) :
    wpAny (model prog w) A (binaryOp .FloorDiv (.int a t) (.int b u)) Q E s := floordiv_int hb h (Or.inl (PyProof.noPylong_of_log2 hs))
theorem allLt_out {d : Addr} : ∀ {l : Led}, AllLt d l → ∀ p ∈ l, p.1 < d := by
  intro l
  induction l with
  | nil => intro _ p hp; cases hp
  | cons q r ih =>
    intro h p hp
    rcases List.mem_cons.mp hp with e | hp
    · rw [e]; exact h.1
    · exact ih h.2 p hp
theorem allLt_mono {d e : Addr} (he : d ≤ e) {l : Led} (h : AllLt d l) : AllLt e l := allLt_of fun p hp => Nat.lt_of_lt_of_le (allLt_out h p hp) he
theorem allNe0 {d : Addr} {l : Led} (h : AllLt d l) : ∀ p ∈ l, p.1 ≠ d := fun p hp => Nat.ne_of_lt (allLt_out h p hp)
theorem allNe1 {d : Addr} {l : Led} (h : AllLt d l) : ∀ p ∈ l, p.1 ≠ d + 1 := allNe0 (allLt_mono (Nat.le_succ _) h)
theorem allNe2 {d : Addr} {l : Led} (h : AllLt d l) : ∀ p ∈ l, p.1 ≠ d + 1 + 1 := allNe0 (allLt_mono (Nat.le_add_right d 2) h)
theorem allNe3 {d : Addr} {l : Led} (h : AllLt d l) : ∀ p ∈ l, p.1 ≠ d + 1 + 1 + 1 := allNe0 (allLt_mono (Nat.le_add_right d 3) h)
-- AllLt d l of an opaque tail, out of a conjunction in the context
noncomputable def CntOk (x : Int) : Prop := 0 ≤ x ∧ x ≤ 256
theorem mulRep {prog : Program} {w : World} {A : Around} {E : Value → Shared → Prop} {s : Shared} {h₀ : Heap} {L : Addr} {m : Str → Option Value} {news : Led} {l : Addr} {v : Value} {k : Nat} {x : Int} {u : Tok} {Q : Value → Shared → Prop}
   (F : Fr h₀ L s.heap m) (N : News h₀ L s.heap news) (hm : (l, listOf #[v] k) ∈ news) (hc : CntOk x)
   (h : ∀ D h', Fr h₀ L h' m → News h₀ L h' ((D, listOf (List.replicate x.toNat v).toArray 0) :: news) → (∀ p ∈ news, p.1 < D) → Q (.ref D) { s with heap := h' }) : wpAny (model prog w) A (binaryOp .Mult (.ref l) (.int x u)) Q E s := by
  obtain ⟨h1, h2⟩ := hc
  refine KMa.mul (vs := [v]) F N (News.isList N hm) (by omega) (by omega) (by simp; omega) ?_ h
  induction x.toNat with
  | zero => rfl
  | succ n ih => simp [List.replicate_succ, ih]
-- the start of a contract's proof

noncomputable def stN (i : Nat) (b : List Stmt) : Stmt := match b[i]? with | some s => s | none => .Pass ⟨0,0,0,0⟩
noncomputable def nestB (s : Stmt) : List Stmt := match s with | .FunctionDef _ _ b _ _ _ _ _ _ _ => b | _ => []
noncomputable def nestP (s : Stmt) : Arguments := match s with | .FunctionDef _ p _ _ _ _ _ _ _ _ => p | _ => default
noncomputable def nestS (s : Stmt) : Scope := match s with | .FunctionDef _ _ _ _ _ _ sc _ _ _ => sc | _ => default
noncomputable def stPos (s : Stmt) : Pos := match s with | .FunctionDef _ _ _ _ _ _ _ _ _ p => p | _ => default
noncomputable def in35 : Stmt := stN 1 (nestB (stQ 4))
noncomputable def in35B : List Stmt := nestB in35
noncomputable def in35P : Arguments := nestP in35
noncomputable def in35S : Scope := nestS in35
noncomputable def pos35 : Pos := stPos in35
noncomputable def in42 : Stmt := stN 0 (nestB (stQ 5))
noncomputable def in42B : List Stmt := nestB in42
noncomputable def in42P : Arguments := nestP in42
noncomputable def in42S : Scope := nestS in42
noncomputable def pos42 : Pos := stPos in42
theorem bits64 {a : Int} (h : a.natAbs < 2 ^ 64) : Builtin.Int.intBits a ≤ 64 := by
  unfold Builtin.Int.intBits
  split
  · omega
  · have hne : a.natAbs ≠ 0 := by intro e; simp_all
    have := (Nat.log2_lt hne).mpr h
    omega
noncomputable def ShB (n : Int) : Prop := ∀ d : Int, 0 ≤ d → d ≤ 256 → 0 ≤ d * n ∧ d * n ≤ 2 ^ 21
noncomputable def BitsB (x : Int) : Prop := 0 ≤ x ∧ Builtin.Int.intBits x ≤ 2 ^ 21
theorem fdiv_pos_le {x b : Int} (hx : 0 ≤ x) (hb : 0 < b) : 0 ≤ x.fdiv b ∧ x.fdiv b ≤ x := by
  rw [Int.fdiv_eq_ediv_of_nonneg _ (Int.le_of_lt hb)]
  exact ⟨Int.ediv_nonneg hx (Int.le_of_lt hb), Int.ediv_le_self _ hx⟩
theorem pow2_pos (k : Nat) : (0 : Int) < 2 ^ k := Int.pow_pos (by decide)
theorem intBits_mono {a b : Int} (ha : 0 ≤ a) (hab : a ≤ b) : Builtin.Int.intBits a ≤ Builtin.Int.intBits b := by
  unfold Builtin.Int.intBits
  split
  · omega
  · rename_i h
    have ha0 : a ≠ 0 := by simpa using h
    have hb0 : b ≠ 0 := by omega
    rw [if_neg (by simpa using hb0)]
    have h1 : a.natAbs ≤ b.natAbs := by omega
    have h2 : a.natAbs ≠ 0 := by omega
    have : a.natAbs.log2 ≤ b.natAbs.log2 := by
      rw [Nat.le_log2 (by omega)]
      exact Nat.le_trans (Nat.log2_self_le h2) h1
    omega
theorem BitsB.fdiv {x : Int} (k : Nat) (h : BitsB x) : BitsB (x.fdiv (2 ^ k)) := by
  have h2 := fdiv_pos_le h.1 (pow2_pos k)
  exact ⟨h2.1, Nat.le_trans (intBits_mono h2.1 h2.2) h.2⟩
theorem lsz_of {x s : Int} (h : BitsB x) (hs : s ≤ 2 ^ 21) : (Builtin.Int.intBits x : Int) + s ≤ 2 ^ 27 := by
  have := h.2
  omega
theorem rshift1 {prog : Program} {w : World} {A : Around} {E : Value → Shared → Prop} {s : Shared} {a : Int} {t u : Tok} {Q : Value → Shared → Prop} (h : Q (.int (a / 2) s.toks) { s with toks := s.toks + 1 }) :
    wpAny (model prog w) A (binaryOp .RShift (.int a t) (.int 1 u)) Q E s := by
  refine rshift_int (by decide) ?_
  rw [show a.fdiv (2 ^ (1 : Int).toNat) = a / 2 from Int.fdiv_eq_ediv_of_nonneg _ (by decide)]
  exact h
theorem fdiv_low (x k : Nat) : ((x : Int).fdiv (2 ^ k)) = ((x / 2 ^ k : Nat) : Int) := by
  rw [Int.fdiv_eq_ediv_of_nonneg _ (Int.le_of_lt (pow2_pos k)), Int.natCast_ediv, Int.natCast_pow]; rfl
theorem and_low (x k : Nat) : x &&& (x / 2 ^ k * 2 ^ k) = x / 2 ^ k * 2 ^ k := by
  apply Nat.eq_of_testBit_eq
  intro i
  rw [Nat.testBit_and, Nat.testBit_mul_two_pow, Nat.testBit_div_two_pow]
  by_cases h : k ≤ i
  · simp [h]
  · simp [h]
theorem bxor_low (x k : Nat) : Builtin.bitXor (x : Int) (((x : Int).fdiv (2 ^ k)) * 2 ^ k) = ((x % 2 ^ k : Nat) : Int) := by
  rw [fdiv_low, show (((x / 2 ^ k : Nat) : Int) * 2 ^ k) = ((x / 2 ^ k * 2 ^ k : Nat) : Int) by rw [Int.natCast_mul, Int.natCast_pow]; rfl]
  rw [PyProof.Rows.bitXor_and, bitAnd_pp (Int.natCast_nonneg _) (Int.natCast_nonneg _), Int.toNat_natCast, Int.toNat_natCast, and_low]
  have h := Nat.div_add_mod x (2 ^ k)
  rw [Nat.mul_comm] at h
  omega
noncomputable def putD (nb : Nat) (ns : List Int) (x L R : Nat) : List Int := ns.mapIdx fun i v => if L ≤ i ∧ i < R then ((x / 2 ^ (nb * (i - L)) % 2 ^ nb : Nat) : Int) else v
theorem putD_length (nb : Nat) (ns : List Int) (x L R : Nat) : (putD nb ns x L R).length = ns.length := by simp [putD]
theorem shB_of {n : Nat} (h : n ≤ 4096) : ShB n := by
  intro d h0 h1
  have h2 : (d.toNat : Int) = d := Int.toNat_of_nonneg h0
  have h3 : d.toNat * n ≤ 256 * 4096 := Nat.mul_le_mul (by omega) h
  rw [← h2, ← Int.natCast_mul]
  omega
theorem bitsB_nat {x k : Nat} (h : x < 2 ^ k) (hk : k ≤ 2 ^ 21) : BitsB x := by
  refine ⟨Int.natCast_nonneg _, ?_⟩
  unfold Builtin.Int.intBits
  split
  · omega
  · rename_i h0
    have hne : x ≠ 0 := by intro e; simp [e] at h0
    have := (Nat.log2_lt hne).mpr h
    simp only [Int.natAbs_natCast]
    omega
theorem bitsB_of {n x a b l : Nat} (hn : n ≤ 4096) (hl : l ≤ 256) (hb : b ≤ l) (hx : x < 2 ^ (n * (b - a))) : BitsB x := by
  refine bitsB_nat hx ?_
  have : n * (b - a) ≤ 4096 * 256 := Nat.mul_le_mul hn (by omega)
  omega
theorem putD_join {nb : Nat} {ns : List Int} {x L M R : Nat} (h1 : L < M) (h2 : M < R) : putD nb (putD nb ns (x % 2 ^ (nb * (M - L))) L M) (x / 2 ^ (nb * (M - L))) M R = putD nb ns x L R := by
  apply List.ext_getElem?
  intro i
  unfold putD
  rw [List.getElem?_mapIdx, List.getElem?_mapIdx, List.getElem?_mapIdx]
  cases hi : ns[i]? with
  | none => rfl
  | some v =>
    simp only [Option.map_some, Option.some.injEq]
    by_cases c1 : M ≤ i ∧ i < R
    · rw [if_pos c1, if_pos (by omega)]
      rw [Nat.div_div_eq_div_mul, ← Nat.pow_add, ← Nat.mul_add, show (M - L) + (i - M) = i - L by omega]
    · rw [if_neg c1]
      by_cases c2 : L ≤ i ∧ i < M
      · rw [if_pos c2, if_pos (by omega)]
        have e : nb * (M - L) = nb * (i - L) + (nb + nb * (M - i - 1)) := by
          rw [show M - L = (i - L) + (1 + (M - i - 1)) by omega, Nat.mul_add, Nat.mul_add, Nat.mul_one]
        rw [e, Nat.pow_add, Nat.mod_mul_right_div_self, Nat.pow_add, Nat.mod_mul_right_mod]
      · rw [if_neg c2, if_neg (by omega)]
theorem putD_base {nb : Nat} {ns : List Int} {x L R : Nat} (hL : L < ns.length) (hR : R = L + 1) (hx : x < 2 ^ nb) : putD nb ns x L R = ns.set L (x : Int) := by
  subst hR
  apply List.ext_getElem?
  intro i
  unfold putD
  rw [List.getElem?_mapIdx, List.getElem?_set]
  by_cases h : L = i
  · subst h
    rw [if_pos rfl, if_pos hL, List.getElem?_eq_getElem hL]
    simp [Nat.mod_eq_of_lt hx]
  · rw [if_neg h]
    cases hi : ns[i]? with
    | none => rfl
    | some v => simp; omega
theorem ctUseN {w : World} {f : Addr} {vs : List Value} {dd uu : Nat} {news : Led} {C : Heap → Prop} {post : Value → Led → Prop}
    {p : Program} {loose : List Str} {mean : ExcName → Option Value} {mg mb : Str → Option Value}
    {dp un : Nat} {gd : Option (List Code)} {cn : Str} {cs : Scope} {ca : Addr} {ccd : Value} {cl : List (Str × Addr)} {outer : List Env} {A₀ : Around} {base h₀ : Heap} {L : Addr} {m : Str → Option Value} {s : Shared} {Q E : Value → Shared → Prop}
    (N : News h₀ L s.heap news) (h : Ct w f vs dd uu news C post) (B : Below A₀ base outer h₀) (F : Fr h₀ L s.heap m) (X : (Kq w.params).In h₀) (T : Top p loose mean mg mb h₀) (hk : cs.kind = .function)
    (hC : C base) (hd : dp + dd < recursionLimit) (hu : un + uu < cLine)
    (ret : ∀ v nw h' tk', post v nw → Fr h₀ L h' m → News h₀ L h' nw → Q v { s with heap := h', toks := tk' }) :
    wpAny (model LP w) (ktrTop dp un gd cn cs L ca ccd cl outer) (call (.ref f) vs) Q E s := ctUse h B F X N T hk hC hd hu ret
/-- the table of a def's own defs: empty of this one, or it has its code -/
noncomputable def TabCode (pos : Pos) (ps : Array Value) (c' : Addr) : Prop := TriplesOk ps.toList ∧ codeAmong pos ps.toList = some (.ref c')
noncomputable def TabSt (pos : Pos) (qual : Str) (ps : Array Value) (news : Led) : Prop :=
  (TriplesOk ps.toList ∧ codeAmong pos ps.toList = none) ∨ ∃ c' oc vs t, TabCode pos ps c' ∧ (c', oc) ∈ news ∧ oc.data = .fields vs ∧ vs[1]? = some (.str qual t)
theorem triples_snoc {pos : Pos} {c : Value} : ∀ l : List Value, TriplesOk l → TriplesOk (l ++ [rawInt pos.line, rawInt pos.col, c]) := by
  intro l h
  fun_induction TriplesOk l with
  | case1 => exact trivial
  | case2 a t b u x rest ih => exact ih h
  | case3 => exact h.elim
section
variable {M : Model} {A : Around} {E : Value → Shared → Prop} {s : Shared} {h₀ : Heap} {L a c P : Addr} {m mg mb : Str → Option Value} {cn : Str} {cs : Scope} {ccd : Value} {cl : List (Str × Addr)} {news : Led} {g : Obj → Led}
  {p : Program} {loose : List Str} {mean : ExcName → Option Value} {name qual : Str} {params : Arguments} {body : List Stmt} {scope : Scope} {ps : Array Value} {pos : Pos} {firstLine : Nat} {clos : List (Str × Addr)}
theorem nestTab {Q : Value → Shared → Prop} (F : Fr h₀ L s.heap m) (N : News h₀ L s.heap news) (T : Top p loose mean mg mb h₀) (C : CodeHd h₀ c P) (hcd : ccd = .ref c) (U : UpdF P (tabObj ps) news g) {news0 : Led} (St : TabSt pos qual ps news0) (hsub : ∀ p ∈ news0, p ∈ news) {B0 D0 : Addr} {oD : Obj} (hB : AllLt B0 news0) (hD : (D0, oD) ∈ news)
    (hcl : closureFor scope (envX cn cs L a ccd cl) = pure clos)
    (h : ∀ f c' oc vs t ctv doc h' tk ps', Fr h₀ L h' m →
      News h₀ L h' ((f, fnMade name qual params body scope clos doc ((mg "__name__").getD .none) c' ctv) :: (c', oc) :: g (tabObj ps')) →
      oc.data = .fields vs → vs[1]? = some (.str qual t) → TabCode pos ps' c' → (((c', oc) ∈ news0 ∧ @LT.lt Nat _ c' B0) ∨ ((∀ q ∈ news, q.1 < c') ∧ @LT.lt Nat _ D0 c')) → c' < f → (∀ q ∈ news, q.1 < f) → Q (.ref f) { s with heap := h', toks := tk }) :
    wpAny M A (makeFunction name qual params (.stmts body) scope (envX cn cs L a ccd cl) [] [] [] pos firstLine) Q E s := by
  rcases St with ⟨ht, hn⟩ | ⟨c', oc, vs, t, ⟨ht, hc⟩, hm, hd, hv⟩
  · refine nest_K F N T C hcd U ht hn hcl fun f c' oc vs t ctv doc h' tk F' N' hd hv l1 l2 => ?_
    refine h f c' oc vs t ctv doc h' tk _ F' N' hd hv ⟨?_, ?_⟩ (.inr ⟨l1, l1 _ hD⟩) l2 fun q hq => Nat.lt_trans (l1 q hq) l2
    · rw [Array.toList_append]; exact triples_snoc _ ht
    · rw [Array.toList_append]; exact codeAmong_snoc _ ht hn
  · obtain ⟨pre, post, e1, e2, _, _⟩ := U.split
    have hg : g (tabObj ps) = news := by rw [e2, e1]
    refine nestHit_K F N T C hcd (by rw [e1]; exact List.mem_append_right _ (.head _)) ht hc hcl fun f ctv doc h' tk F' N' l1 => ?_
    refine h f c' oc vs t ctv doc h' tk ps F' ?_ hd hv ⟨ht, hc⟩ (.inl ⟨hm, allLt_out hB _ hm⟩) (l1 _ (hsub _ hm)) l1
    rw [hg]
    intro q hq
    rcases List.mem_cons.mp hq with e | hq
    · rw [e]; exact N' _ (.head _)
    · rcases List.mem_cons.mp hq with e | hq
      · rw [e]; exact N' _ (.tail _ (hsub _ hm))
      · exact N' _ (.tail _ hq)
end
theorem tabStMono {pos : Pos} {qual : Str} {ps : Array Value} {news news' : Led} (h : TabSt pos qual ps news) (hs : ∀ p ∈ news, p ∈ news') : TabSt pos qual ps news' :=
  h.imp id fun ⟨c', oc, vs, t, a, b, c, d⟩ => ⟨c', oc, vs, t, a, hs _ b, c, d⟩
/-- one entry of the ledger to its front -/
inductive Pick (D : Addr) (o : Obj) : Led → Led → Prop
  | head {r} : Pick D o ((D, o) :: r) r
  | tail {p r r'} : Pick D o r r' → Pick D o (p :: r) (p :: r')
theorem pickMem {D : Addr} {o : Obj} {l r : Led} (h : Pick D o l r) : ∀ p, p ∈ (D, o) :: r → p ∈ l := by
  induction h with
  | head => exact fun p hp => hp
  | tail _ ih =>
    intro p hp
    rcases List.mem_cons.mp hp with e | hp
    · exact List.mem_cons_of_mem _ (ih p (e ▸ List.mem_cons_self ..))
    · rcases List.mem_cons.mp hp with e | hp
      · rw [e]; exact List.mem_cons_self ..
      · exact List.mem_cons_of_mem _ (ih p (List.mem_cons_of_mem _ hp))
theorem pickNews {h₀ h : Heap} {L D : Addr} {o : Obj} {l r : Led} (k : Pick D o l r) (N : News h₀ L h l) : News h₀ L h ((D, o) :: r) := fun p hp => N p (pickMem k p hp)
section
variable {prog : Program} {w : World} {A : Around} {E : Value → Shared → Prop} {s : Shared} {h₀ : Heap} {L : Addr} {m : Str → Option Value} {news : Led} {l : Addr} {vs : List Value} {k : Nat} {Q : Value → Shared → Prop}
theorem lenLed (N : News h₀ L s.heap news) (hm : (l, listOf vs.toArray k) ∈ news) (hl : vs.length < 2 ^ 62) (h : Q (.int vs.length (s.toks + 1)) { s with toks := s.toks + 1 + 1 }) :
    wpAny (model prog w) A (call (.builtin "len") [.ref l]) Q E s := by
  refine PyProof.Rows.len_list (News.isList N hm) (by rw [List.size_toArray]; omega) ?_
  rw [List.size_toArray]
  exact h
end
theorem intsRep {k : Nat} {t : Tok} : IntsAre (List.replicate k (Value.int 0 t)) (List.replicate k 0) := by
  induction k with
  | zero => exact .nil
  | succ k ih => exact .cons 0 t ih
theorem putD_zero {nb cnt : Nat} : putD nb (List.replicate cnt 0) 0 0 cnt = List.replicate cnt 0 := by
  apply List.ext_getElem?
  intro i
  unfold putD
  rw [List.getElem?_mapIdx]
  cases hi : (List.replicate cnt (0 : Int))[i]? with
  | none => rfl
  | some v =>
    have : v = 0 := by
      have := List.mem_of_getElem? hi
      exact (List.mem_replicate.mp this).2
    subst this
    simp
/-- what a maker of a def leaves in the ledger, the code once alone -/
theorem allLtSub {B0 : Addr} {l l' : Led} (h : AllLt B0 l') (hs : ∀ p ∈ l, p ∈ l') : AllLt B0 l := allLt_of fun p hp => allLt_out h p (hs p hp)
theorem tab_post {pos : Pos} {qual : Str} {P q c' B0 : Addr} {oc : Obj} {vs9 : Array Value} {t9 : Tok} {ps ps' : Array Value} {oq : Obj} {news news0 all : Led} (tc : TabCode pos ps' c') (hd : oc.data = .fields vs9) (hv : vs9[1]? = some (.str qual t9))
    (hin : ((c', oc) ∈ news0 ∧ @LT.lt Nat _ c' B0) ∨ ((∀ q ∈ all, q.1 < c') ∧ @LT.lt Nat _ q c')) (hlt : ∀ p ∈ (P, tabObj ps) :: news, p.1 < q) :
    ∃ ex : Led, TabSt pos qual ps' (ex ++ news0) ∧ (∀ e ∈ ex, e.1 ≠ q ∧ ∀ p ∈ (P, tabObj ps) :: news, p.1 < e.1) ∧
      ∀ p ∈ (q, oq) :: (P, tabObj ps') :: (ex ++ news), p ∈ (q, oq) :: (P, tabObj ps') :: (c', oc) :: news := by
  rcases hin with ⟨hm, _⟩ | ⟨_, h2⟩
  · exact ⟨[], .inr ⟨c', oc, vs9, t9, tc, hm, hd, hv⟩, (fun _ h => nomatch h), fun p hp => (List.mem_cons.mp hp).elim (fun e => e ▸ .head _) fun hp => (List.mem_cons.mp hp).elim (fun e => e ▸ .tail _ (.head _)) fun hp => .tail _ (.tail _ (.tail _ hp))⟩
  · refine ⟨[(c', oc)], .inr ⟨c', oc, vs9, t9, tc, .head _, hd, hv⟩, fun e he => ?_, fun p hp => hp⟩
    rw [List.mem_singleton.mp he]
    exact ⟨Nat.ne_of_gt h2, fun p hp => Nat.lt_trans (hlt p hp) h2⟩
theorem tab_post2 {pos : Pos} {qual : Str} {P c' : Addr} {oc : Obj} {vs9 : Array Value} {t9 : Tok} {ps ps' : Array Value} {news news0 all : Led} {P1 P2 : Prop} (tc : TabCode pos ps' c') (hd : oc.data = .fields vs9) (hv : vs9[1]? = some (.str qual t9))
    (hin : ((c', oc) ∈ news0 ∧ P1) ∨ ((∀ q ∈ all, q.1 < c') ∧ P2)) (hs : ∀ p ∈ (P, tabObj ps) :: news, p ∈ all) :
    ∃ ex : Led, TabSt pos qual ps' (ex ++ news0) ∧ (∀ e ∈ ex, ∀ p ∈ (P, tabObj ps) :: news, p.1 < e.1) ∧
      ∀ p ∈ (P, tabObj ps') :: (ex ++ news), p ∈ (P, tabObj ps') :: (c', oc) :: news := by
  rcases hin with ⟨hm, _⟩ | ⟨h1, _⟩
  · exact ⟨[], .inr ⟨c', oc, vs9, t9, tc, hm, hd, hv⟩, (fun _ h => nomatch h), fun p hp => (List.mem_cons.mp hp).elim (fun e => e ▸ .head _) fun hp => .tail _ (.tail _ hp)⟩
  · refine ⟨[(c', oc)], .inr ⟨c', oc, vs9, t9, tc, .head _, hd, hv⟩, fun e he p hp => ?_, fun p hp => hp⟩
    rw [List.mem_singleton.mp he]
    exact h1 p (hs p hp)
example (w : World) : (rwQ = rwQ) ∧ (Kq w.params = Kq w.params) := by
  k_fill
  exact ⟨rfl, rfl⟩
/-- the number of the digits ds, the least first, to the base 2 ^ n -/
noncomputable def valL (n : Nat) : List Nat → Nat
  | [] => 0
  | d :: r => d + 2 ^ n * valL n r
theorem valL_append (n : Nat) : ∀ a b : List Nat, valL n (a ++ b) = valL n a + 2 ^ (n * a.length) * valL n b
  | [], b => by simp [valL]
  | d :: r, b => by
    rw [List.cons_append, valL, valL, valL_append n r b, Nat.mul_add, List.length_cons, Nat.mul_succ, Nat.add_comm (n * r.length) n, Nat.pow_add, Nat.mul_assoc, Nat.add_assoc]
noncomputable def valD (n : Nat) (ds : List Nat) (L R : Nat) : Nat := valL n ((ds.drop L).take (R - L))
theorem valD_join {n : Nat} {ds : List Nat} {L M R : Nat} (h1 : L ≤ M) (h2 : M ≤ R) (h3 : R ≤ ds.length) : valD n ds M R * 2 ^ (n * (M - L)) + valD n ds L M = valD n ds L R := by
  unfold valD
  have e : (ds.drop L).take (R - L) = (ds.drop L).take (M - L) ++ (ds.drop M).take (R - M) := by
    have : R - L = (M - L) + (R - M) := by omega
    rw [this, List.take_add, List.drop_drop]
    congr 3
    omega
  have hl : ((ds.drop L).take (M - L)).length = M - L := by
    rw [List.length_take, List.length_drop]
    omega
  rw [e, valL_append, hl, Nat.add_comm, Nat.mul_comm]
theorem valD_one {n : Nat} {ds : List Nat} {L : Nat} (h : L < ds.length) : valD n ds L (L + 1) = ds.getD L 0 := by
  unfold valD
  rw [List.drop_eq_getElem_cons h, show L + 1 - L = 1 by omega, List.take_succ_cons, List.take_zero, valL, valL, Nat.mul_zero, Nat.add_zero, List.getD_eq_getElem?_getD, List.getElem?_eq_getElem h]
  rfl
theorem valL_lt {n : Nat} : ∀ {l : List Nat}, (∀ d ∈ l, d < 2 ^ n) → valL n l < 2 ^ (n * l.length)
  | [], _ => by simp [valL]
  | d :: r, h => by
    have h1 := h d (List.mem_cons_self ..)
    have h2 := valL_lt (n := n) (l := r) fun x hx => h x (List.mem_cons_of_mem _ hx)
    rw [valL, List.length_cons, Nat.mul_succ, Nat.add_comm (n * r.length) n, Nat.pow_add]
    have h3 : 2 ^ n * (valL n r + 1) ≤ 2 ^ n * 2 ^ (n * r.length) := Nat.mul_le_mul_left _ h2
    rw [Nat.mul_add, Nat.mul_one] at h3
    omega
theorem valD_lt {n : Nat} {ds : List Nat} {L R : Nat} (h : ∀ d ∈ ds, d < 2 ^ n) (hl : R ≤ ds.length) (hLR : L ≤ R) : valD n ds L R < 2 ^ (n * (R - L)) := by
  have := valL_lt (n := n) (l := (ds.drop L).take (R - L)) fun d hd => h d (List.mem_of_mem_drop (List.mem_of_mem_take hd))
  rw [List.length_take, List.length_drop, Nat.min_eq_left (by omega)] at this
  exact this
section
variable {prog : Program} {w : World} {A : Around} {E : Value → Shared → Prop} {s : Shared} {h₀ : Heap} {L : Addr} {m : Str → Option Value} {news : Led} {l : Addr} {vs : List Value} {k : Nat}
theorem truthyLed {Q : Bool → Shared → Prop} (N : News h₀ L s.heap news) (hm : (l, listOf vs.toArray k) ∈ news) (hl : vs.length < 2 ^ 62) (h : ∀ tk, Q (decide (vs.length ≠ 0)) { s with toks := tk }) :
    wpAny (model prog w) A (truthy (.ref l)) Q E s := by
  refine wpAny_truthy_list (News.isList N hm) (by rw [List.size_toArray]; omega) ?_
  have e : (!vs.toArray.isEmpty) = decide (vs.length ≠ 0) := by cases vs <;> simp
  rw [e]
  exact h _
end
theorem getD_map (ds : List Nat) (i : Nat) : (ds.map Int.ofNat).getD i 0 = ((ds.getD i 0 : Nat) : Int) := by
  rw [List.getD_eq_getElem?_getD, List.getD_eq_getElem?_getD, List.getElem?_map]
  cases ds[i]? <;> rfl
theorem valD_all {n : Nat} {ds : List Nat} : valD n ds 0 ds.length = valL n ds := by
  unfold valD
  rw [List.drop_zero, Nat.sub_zero, List.take_length]
section
variable {prog : Program} {w : World} {A : Around} {E : Value → Shared → Prop} {s : Shared} {env : Env} {h₀ : Heap} {x : Str} {body : List Stmt} {Q : Flow → Shared → Prop}
theorem unrPostMono {L I : Addr} {s₁ s₂ : Shared} {it : Obj} {r r' : (Str → Option Value) → Led → Prop} {f : Flow} (hr : ∀ m n, r m n → r' m n) (h : UnrPost h₀ L s₁ I it r Q f s₂) : UnrPost h₀ L s₁ I it r' Q f s₂ := by
  have k : UnrEnd h₀ L s₁ I it r s₂ → UnrEnd h₀ L s₁ I it r' s₂ := fun ⟨h', tk, m', n', e, a, b, c, d⟩ => ⟨h', tk, m', n', e, a, b, c, hr _ _ d⟩
  cases f with
  | ret v => exact h
  | brk => exact h
  | next => exact k h
  | cont => exact k h
/-- a loop over a reversed list by an invariant over what is still to come, the frame and the ledger -/
theorem revInd {I : Addr} {lp : Addr × Obj} (Inv : List Value → (Str → Option Value) → Led → Prop)
    (step : ∀ v r m news, Inv (v :: r) m news → ∀ (it : Obj) h tk, it.cls = .type "list_reverseiterator" → Fr h₀ env.locals h (fun y => if y = x then some v else m y) → News h₀ env.locals h ((I, it) :: news) →
      wpAny (model prog w) A (execs body env) (UnrPost h₀ env.locals { s with heap := h, toks := tk } I it (fun m' n' => lp ∈ n' ∧ Inv r m' n') Q) E { s with heap := h, toks := tk })
    (fin : ∀ m news, Inv [] m news → ∀ h tk, Fr h₀ env.locals h m → News h₀ env.locals h news → Q .next { s with heap := h, toks := tk }) :
    ∀ r m news, Inv r m news → RevRest prog w A E h₀ env x body Q s I lp r m news := by
  intro r
  induction r with
  | nil => exact fun m news hI => fin m news hI
  | cons v r ih =>
    intro m news hI it h tk hc F N
    exact wpAny_mono (step v r m news hI it h tk hc F N) (fun f s₂ hp => unrPostMono (fun m' n' q => ⟨q.1, ih m' n' q.2⟩) hp) fun _ _ e => e
end
theorem offI_raw {I : Addr} {it : Obj} : ∀ {l : Led}, (∀ p ∈ l, p.1 < I) → OffI I it l
  | [], _ => trivial
  | p :: _, h => ⟨.inl (Nat.ne_of_lt (h p (List.mem_cons_self ..))), offI_raw fun q hq => h q (List.mem_cons_of_mem _ hq)⟩
structure MapMark : Prop where
/-- the digits' number, the greatest first -/
noncomputable def horner (n : Nat) (l : List Nat) : Nat := l.foldl (fun acc d => acc * 2 ^ n + d) 0
theorem horner_snoc (n : Nat) (l : List Nat) (d : Nat) : horner n (l ++ [d]) = horner n l * 2 ^ n + d := by
  unfold horner
  rw [List.foldl_append]
  rfl
theorem horner_valL (n : Nat) : ∀ l : List Nat, valL n l = horner n l.reverse
  | [] => rfl
  | d :: r => by rw [valL, List.reverse_cons, horner_snoc, ← horner_valL n r, Nat.add_comm, Nat.mul_comm]
noncomputable def digs (n a cnt : Nat) : List Nat := (List.range cnt).map fun i => a / 2 ^ (n * i) % 2 ^ n
theorem digs_putD (n a cnt : Nat) : putD n (List.replicate cnt 0) a 0 cnt = (digs n a cnt).map Int.ofNat := by
  apply List.ext_getElem?
  intro i
  unfold putD digs
  rw [List.getElem?_mapIdx, List.getElem?_map, List.getElem?_map, List.getElem?_replicate]
  by_cases h : i < cnt
  · rw [if_pos h, List.getElem?_range h]
    simp [h]
  · rw [if_neg h, List.getElem?_eq_none (by simp; omega)]
    rfl
theorem digs_lt {n a cnt d : Nat} (h : d ∈ digs n a cnt) : d < 2 ^ n := by
  unfold digs at h
  obtain ⟨i, _, rfl⟩ := List.mem_map.mp h
  exact Nat.mod_lt _ (Nat.pow_pos (by decide))
theorem digs_succ (n a cnt : Nat) : digs n a (cnt + 1) = a % 2 ^ n :: digs n (a / 2 ^ n) cnt := by
  unfold digs
  rw [List.range_succ_eq_map, List.map_cons, List.map_map]
  congr 1
  · simp
  · apply List.map_congr_left
    intro i _
    show a / 2 ^ (n * (i + 1)) % 2 ^ n = _
    rw [Nat.mul_succ, Nat.add_comm, Nat.pow_add, Nat.div_div_eq_div_mul]
theorem valL_digs (n : Nat) : ∀ cnt a : Nat, a < 2 ^ (n * cnt) → valL n (digs n a cnt) = a
  | 0, a, h => by
    have : a = 0 := by simpa using h
    subst this
    rfl
  | cnt + 1, a, h => by
    rw [digs_succ, valL, valL_digs n cnt (a / 2 ^ n) ?_]
    · have := Nat.div_add_mod a (2 ^ n)
      omega
    · apply Nat.div_lt_of_lt_mul
      rw [← Nat.pow_add, Nat.add_comm, ← Nat.mul_succ]
      exact h
theorem digs_length (n a cnt : Nat) : (digs n a cnt).length = cnt := by simp [digs]
section
variable {prog : Program} {w : World} {A : Around} {E : Value → Shared → Prop} {s : Shared} {h₀ : Heap} {L D : Addr} {m : Str → Option Value} {news news' : Led} {vs : List Value} {n : Nat} {x : Value} {Q : Value → Shared → Prop}
theorem appendLed (F : Fr h₀ L s.heap m) (N : News h₀ L s.heap news) (U : Upd D (listOf vs.toArray n) (listOf (vs ++ [x]).toArray (n + 1)) news news') (hsz : vs.length ≤ 100000)
    (h : ∀ h', Fr h₀ L h' m → News h₀ L h' news' → Q .none { s with heap := h' }) : wpAny (model prog w) A (call (.builtin "list.append") [.ref D, x]) Q E s :=
  append_K F N (by rw [List.push_toArray]; exact U) h (by rw [List.size_toArray]; exact Nat.le_trans hsz (by decide))
theorem reverseLed (F : Fr h₀ L s.heap m) (N : News h₀ L s.heap news) (U : Upd D (listOf vs.toArray n) (listOf vs.reverse.toArray n) news news') (hsz : vs.length ≤ 100000)
    (h : ∀ h', Fr h₀ L h' m → News h₀ L h' news' → Q .none { s with heap := h' }) : wpAny (model prog w) A (call (.builtin "list.reverse") [.ref D]) Q E s :=
  kl_reverse F N (by simp) U (by simpa using Nat.le_trans hsz (by decide)) h
end
theorem smallDiv_nat {n : Nat} (h : n ≤ 4096) : SmallDiv (n : Int) := by
  unfold SmallDiv
  rw [Int.natAbs_natCast]
  rcases Nat.eq_zero_or_pos n with e | e
  · subst e; decide
  · have : n.log2 < 13 := (Nat.log2_lt (by omega)).mpr (by omega)
    omega
theorem intsCons {v : Value} {r : List Value} {dr : List Nat} (h : IntsAre (v :: r) (dr.map Int.ofNat)) : ∃ d dr' t, dr = d :: dr' ∧ v = .int (d : Nat) t ∧ IntsAre r (dr'.map Int.ofNat) := by
  cases dr with
  | nil => cases h
  | cons d dr' =>
    cases h with
    | cons i t h => exact ⟨d, dr', t, rfl, rfl, h⟩
theorem intsNil {dr : List Nat} (h : IntsAre [] (dr.map Int.ofNat)) : dr = [] := by
  cases dr with
  | nil => rfl
  | cons d dr' => cases h
theorem intsSnoc {vs : List Value} {ns : List Int} {i : Int} {t : Tok} (h : IntsAre vs ns) : IntsAre (vs ++ [.int i t]) (ns ++ [i]) := by
  induction h with
  | nil => exact .cons i t .nil
  | cons j u _ ih => exact .cons j u ih
theorem intsRev {vs : List Value} {ns : List Int} (h : IntsAre vs ns) : IntsAre vs.reverse ns.reverse := by
  induction h with
  | nil => exact .nil
  | cons j u _ ih => rw [List.reverse_cons, List.reverse_cons]; exact intsSnoc ih
theorem intBits_lt {x k : Nat} (h : x < 2 ^ k) : Builtin.Int.intBits (x : Int) ≤ k := by
  unfold Builtin.Int.intBits
  split
  · omega
  · rename_i h0
    have hne : x ≠ 0 := by intro e; simp [e] at h0
    have := (Nat.log2_lt hne).mpr h
    simp only [Int.natAbs_natCast]
    omega
theorem fdivNat (x b : Nat) : ((x : Int).fdiv b) = ((x / b : Nat) : Int) := by
  rw [Int.fdiv_eq_ediv_of_nonneg _ (Int.natCast_nonneg b), Int.natCast_ediv]
theorem fmodNat (x b : Nat) : ((x : Int).fmod b) = ((x % b : Nat) : Int) := by
  rw [Int.fmod_eq_emod_of_nonneg _ (Int.natCast_nonneg b), Int.natCast_emod]
theorem stepVal (rr n d : Nat) : (rr : Int) * 2 ^ ((n : Int)).toNat + (d : Int) = ((rr * 2 ^ n + d : Nat) : Int) := by
  rw [Int.toNat_natCast, Int.natCast_add, Int.natCast_mul, Int.natCast_pow]
  rfl
theorem step_lt {rr n d b : Nat} (h1 : rr < b) (h2 : d < 2 ^ n) : rr * 2 ^ n + d < b * 2 ^ n := by
  have : (rr + 1) * 2 ^ n ≤ b * 2 ^ n := Nat.mul_le_mul_right _ h1
  rw [Nat.add_mul, Nat.one_mul] at this
  omega
theorem smallDiv_bits {b : Nat} (h : Builtin.Int.intBits (b : Int) ≤ 4000) : SmallDiv (b : Int) := by
  unfold SmallDiv
  unfold Builtin.Int.intBits at h
  split at h
  · rename_i h0
    have : b = 0 := by simpa using h0
    subst this
    decide
  · omega
theorem horner_step {n rr d b : Nat} {hi qs : List Nat} (h : horner n hi = horner n qs * b + rr) : horner n (hi ++ [d]) = horner n (qs ++ [(rr * 2 ^ n + d) / b]) * b + (rr * 2 ^ n + d) % b := by
  rw [horner_snoc, horner_snoc, h]
  have h1 := Nat.div_add_mod (rr * 2 ^ n + d) b
  rw [Nat.add_mul, Nat.add_mul, Nat.add_assoc, Nat.add_assoc]
  have h2 : horner n qs * b * 2 ^ n = horner n qs * 2 ^ n * b := by rw [Nat.mul_assoc, Nat.mul_comm b, ← Nat.mul_assoc]
  rw [Nat.mul_comm b] at h1
  omega
theorem horner_end {n rr b a : Nat} {hi qs : List Nat} (h : horner n hi = horner n qs * b + rr) (hr : rr < b) (ha : horner n hi = a) : a / b = horner n qs ∧ a % b = rr := by
  rw [ha] at h
  subst h
  rw [Nat.mul_comm, Nat.mul_add_div (by omega), Nat.mul_add_mod, Nat.div_eq_of_lt hr, Nat.mod_eq_of_lt hr]
  exact ⟨rfl, rfl⟩
theorem newTupLed {M : Model} {A : Around} {E : Value → Shared → Prop} {s : Shared} {h₀ : Heap} {L : Addr} {m : Str → Option Value} {news : Led} {vs : List Value} {Q : Value → Shared → Prop} (F : Fr h₀ L s.heap m) (N : News h₀ L s.heap news) (hsz : vs.length ≤ 100000)
    (h : ∀ q h', Fr h₀ L h' m → News h₀ L h' ((q, tupObj vs.toArray) :: news) → (∀ p ∈ news, p.1 < q) → Q (.ref q) { s with heap := h' }) : wpAny M A (newTuple vs) Q E s :=
  newTuple_N F N (fun h' F' N' => h _ h' F' N' fun p hp => Heap.lt_size (N p hp).1) (Nat.le_trans hsz (by decide))
local macro_rules | `(tactic| walk_at $s:str) => `(tactic| k_extra $s)
local macro_rules | `(tactic| k_all) => `(tactic| k_extra "k_all")
section
example (w : World) : (rwQ = rwQ) ∧ (Kq w.params = Kq w.params) := by
  k_with_none
  k_fill
  (k_with "B" => k_asm)
  (k_with "K" => first | exact rfl | assumption)
  (k_with "C" => first | assumption | trivial)
  (k_with "D" => first | (change dp + 1 + _ < _; omega) | omega | ktr_room)
  (k_with "U" => first | (change un + 3 + _ < _; omega) | omega | ktr_units)
  (k_with "call builtin:divmod" => ((with_reducible show wpAny _ _ (call (Value.builtin _) [Value.int _ _, Value.int _ _]) _ _ _); (rename SmallDiv _ => hSd); refine divmod_N (by assumption) (by assumption) (by assumption) ?_ (Or.inl (PyProof.noPylong_of_log2 hSd)); intro _ _ _))
  (k_with "binaryOp FloorDiv int int" => ((rename SmallDiv _ => hSd); refine floordiv_sd hSd (by first | assumption | omega) ?_))
  (k_with "AllLt" => first | assumption | exact And.right (by assumption) | exact And.right (And.right (by assumption)) | exact And.right (And.right (And.right (by assumption))) | exact And.right (And.right (And.right (And.right (by assumption)))) | exact And.right (And.right (And.right (And.right (And.right (by assumption))))) | exact And.right (And.right (And.right (And.right (And.right (And.right (by assumption)))))) | exact And.right (And.right (And.right (And.right (And.right (And.right (And.right (by assumption)))))))  | exact And.right (And.right (And.right (And.right (And.right (And.right (And.right (And.right (by assumption)))))))))
  (k_with "k_all" => first | with_reducible assumption | exact allNe0 (by walk_at "AllLt") | exact allNe1 (by walk_at "AllLt") | exact allNe2 (by walk_at "AllLt") | exact allNe3 (by walk_at "AllLt") | exact List.forall_mem_nil _ | (refine' List.forall_mem_cons.mpr ⟨?_, ?_⟩; (focus k_ne); k_all))
  (k_with "binaryOp Mult ref int" => (k_here; (rename CntOk _ => hCo); k_dflt (refine' mulRep (by k_asm) (by k_asm) (by k_mem) hCo ?_); k_whole; intro l' h' F' N' l1; (try k_lt l1); (try k_sweep)))
  (k_with "enter" => (refine wpAny_call ?_; k_dflt cell_enter))
  (k_with "enter C" => (refine wpAny_call ?_; k_dflt ((refine' code_defC (by k_asm) (by k_asm) (by k_asm) (by k_asm) (by k_asm) (by exact rfl) (by exact rfl) (by assumption) (by k_is) (by k_is) (by ktr_room) (by exact BindsTo.of_eq rfl) (by exact rfl) (by decide +kernel) ?_ (by exact rfl) (by exact rfl) (by exact rfl)); k_whole; intro g' L' h' tk' cells' FG' F' N' Y' B' X' T' l1; (try k_lt l1); k_cells Y'; (try simp only [List.cons_append, List.nil_append] at N'); (try dsimp only); (try k_lift B'); (try k_fold))))
  (k_with "enter N" => (refine wpAny_call ?_; k_dflt (refine' code_nest (by k_asm) (by k_asm) (by k_asm) (by k_asm) (by k_asm) (by exact rfl) (by exact rfl) (by assumption) (by walk_at "inrest") (codeRec_news (by k_asm) (by walk_at "inrest") (by assumption) (by assumption)) (by ktr_room) (by exact BindsTo.of_eq rfl) (by exact locs rfl) ?_ (by exact rfl) (by exact rfl) (by exact rfl) (by decide); k_whole; intro g' L' h' FG' F' N' B' X' T'; (try dsimp only); (try k_lift B'))))
  (k_with "eval Name" => (k_here; kc_free; k_dflt (refine' nameX_F (by k_asm) (by exact rfl) (by walk_at "inrest") (by with_reducible assumption) ?_ (by exact rfl) (by exact rfl)); k_whole))
  (k_with "inrest" => first | with_reducible assumption | exact List.mem_cons_self .. | assumption | (refine List.mem_cons_of_mem _ ?_; walk_at "inrest"))
  (k_with "FnAt" => (k_dflt (exact FnAt.of (by k_asm) (by walk_at "inrest"))))
  (k_with "callWith ref" => (k_here; kn_here; k_dflt (first
    | (refine' callWith_F (FnAt.of (by k_asm) (by walk_at "inrest")) ?_; k_whole)
    | (refine' callWith_F0 (FnAt.of (by k_asm) (by walk_at "inrest")) ?_; k_whole; try dsimp only [List.nil_append, List.cons_append]))))
  (k_with "mulok" => first | assumption | exact PySem.IntMulOk.of_left (bits64 (by omega)) | exact PySem.IntMulOk.of_right (bits64 (by omega)))
  (k_with "binaryOp Mult int int" => (k_here; k_dflt (refine mul_int ?_ (by walk_at "mulok"))))
  (k_with "setItem ref int" => (k_here; (with_reducible show wpAny _ _ (setItem (Value.ref _) (Value.int _ _) (Value.int _ _)) _ _ _); k_dflt (refine' ksa_set (by k_asm) (by k_asm) (by k_upd) (by with_reducible assumption) (by omega) (by omega) (by omega) ?_); k_whole; intro h' F' N' hi' hl' hs'; (try k_sweep)))
  (k_with "nn" => first | omega | ((rename ShB _ => hShB); exact (hShB _ (by omega) (by omega)).1))
  (k_with "lsz" => ((rename ShB _ => hShB); (rename BitsB _ => hBB); first | exact lsz_of (BitsB.fdiv _ hBB) (hShB _ (by omega) (by omega)).2 | exact lsz_of hBB (hShB _ (by omega) (by omega)).2))
  (k_with "binaryOp RShift int int" => (k_here; k_dflt (refine rshift_int (by walk_at "nn") ?_)))
  (k_with "binaryOp RShift int int" => (k_here; with_reducible refine rshift1 ?_))
  (k_with "binaryOp LShift int int" => (k_here; k_dflt (refine lshift_int (by walk_at "nn") (by walk_at "lsz") ?_)))
  (k_with "truthy ref" => (k_dflt (refine' truthyLed (by k_asm) (by walk_at "inrest") (by walk_at "lenfit") ?_); intro _))
  (k_with "lenfit" => first | omega | ((have hl9 := IntsAre.length (by assumption)); (try simp only [List.length_map, List.length_replicate] at *); omega))
  (k_with "subscriptTail" => (k_here; (with_reducible show wpAny _ _ (subscriptTail _ _ (Value.ref _) (Value.int _ _)) _ _ _); k_dflt (refine' ksa_sub (by k_asm) (by walk_at "inrest") (by with_reducible assumption) (by omega) (by first | omega | (rw [List.length_map]; omega)) (by omega) ?_ (by with_unfolding_all rfl)); intro _))
  (k_with "call builtin:list.append" => (k_here; k_dflt (refine' appendLed (by k_asm) (by k_asm) (by k_upd) (by walk_at "lenfit") ?_; k_whole); intro h' F' N'; (try k_sweep)))
  (k_with "call builtin:list.reverse" => (k_here; k_dflt (refine' reverseLed (by k_asm) (by k_asm) (by k_upd) (by walk_at "lenfit") ?_; k_whole); intro h' F' N'; (try k_sweep)))
  (k_with "call type:reversed" => (k_here; (with_reducible show wpAny _ _ (call (Value.type _) [Value.ref _]) _ _ _); k_dflt (refine' krv_reversed (by k_asm) (by k_asm) (News.isList (by k_asm) (by walk_at "inrest")) ?_); intro D' h' F' N' lrev; have l1 := lrev; (try k_lt l1); (try k_sweep)))
  (k_with "mlook" => first | with_reducible assumption | exact if_pos rfl | exact rfl | (refine (if_neg (by decide)).trans ?_; walk_at "mlook"))
  (k_with "eval Name" => (k_here; (rename MapMark => hMM); k_dflt (refine' nameX_L (by k_asm) (by walk_at "mlook") ?_ (by rfl) (by rfl)); k_whole))
  (k_with "newList" => (k_here; (with_reducible refine' newList_K (by k_asm) (by k_asm) ?_ (by exact Nat.le_of_ble_eq_true rfl)); k_whole; intro l' h' F' N' lnew; have l1 := lnew; (try k_lt l1); (try k_sweep)))
  (k_with "lsz" => ((rename BitsB _ => hBB); exact lsz_of hBB (by omega)))
  (k_with "newTuple" => (k_here; k_dflt (refine' newTupLed (by k_asm) (by k_asm) (by exact Nat.le_of_ble_eq_true rfl) ?_; k_whole); intro q' h' F' N' ltup; have l1 := ltup; (try k_lt l1); (try k_sweep)))
  (k_with "pick" => first | exact Pick.head | (apply Pick.tail; walk_at "pick"))
  (k_with "sub" => (intro q9 hq9; repeat (first | exact hsub0 _ hq9 | exact hq9 | apply List.mem_cons_of_mem)))
  (k_with "call builtin:len" => ((with_reducible show wpAny _ _ (call (Value.builtin "len") [Value.ref _]) _ _ _); k_dflt (refine' lenLed (by k_asm) (by walk_at "inrest") (by first | walk_at "lenfit" | (simp only [List.length_replicate]; omega)) ?_)))
  (k_with "exec FunctionDef" => (k_here; kn_here; k_dflt (refine' nestDef_K (by exact rfl) (by exact rfl) (by exact rfl) ?_); k_dflt (refine' nestTab (by k_asm) (by k_asm) (by k_asm) (by kn_code) (by exact rfl) (by k_updF) (by assumption) (by walk_at "sub") (by walk_at "AllLt") (List.mem_cons_self ..) (by exact rfl) ?_; k_whole); intro f' c' oc' vs' t' ct' dc' h' tk' ps' F' N' d1' d2' tc' hin' l1 l2; have hin2 := hin'.imp And.right And.right; (try dsimp only at N'); (try k_lt2 l1); (try k_lt l2)))
  exact ⟨rfl, rfl⟩
set_option maxRecDepth 100000 in
set_option maxHeartbeats 8000000 in
theorem div2n1n_ct (w : World) (a b n : Int) (t1 t2 t3 : Tok) (news : Led) (hbits : (Builtin.Int.intBits a : Int) - n ≤ 4000) (hb : b ≠ 0) (hsd : SmallDiv b) :
   Ct w 21 [.int a t1, .int b t2, .int n t3] 1 8 news (fun _ => True) fun v nw => ∃ q t1 t2, v = .ref q ∧ nw = (q, tupObj #[.int (a.fdiv b) t1, .int (a.fmod b) t2]) :: news ∧ ∀ p ∈ news, p.1 < q := by
  intro p loose mean mg mb dp un gd cn cs ca ccd cl outer A₀ base h₀ L m s Q E B F X N T hk hC hd hu hret
  walk_at "enter"
  k_steps
  exact hret _ _ _ _ ⟨_, _, _, rfl, rfl, fun p hp => Heap.lt_size ((by assumption : News _ _ _ news) p hp).1⟩ (by k_asm) (by k_asm)

set_option maxRecDepth 100000 in
set_option maxHeartbeats 4000000 in
theorem inner35_ct (w : World) (n : Nat) (hn0 : 0 < n) (hn1 : n ≤ 4096) (f D c' : Addr) (ct1 ct2 ct3 : Addr) (o1 o2 o3 oc : Obj) (vs9 : Array Value) (t9 tn : Tok) (doc pm ctv : Value) (rest : Led)
   (hf : (f, fnMade "inner" "_int2digits.<locals>.inner" in35P in35B in35S [("n", ct3), ("inner", ct2), ("a_digits", ct1)] doc pm c' ctv) ∈ rest)
   (hc' : (c', oc) ∈ rest) (hoc : oc.data = .fields vs9) (hvs : vs9[1]? = some (.str "_int2digits.<locals>.inner" t9))
   (h1 : (ct1, o1) ∈ rest) (hd1 : o1.data = .cell (some (.ref D))) (h2 : (ct2, o2) ∈ rest) (hd2 : o2.data = .cell (some (.ref f))) (h3 : (ct3, o3) ∈ rest) (hd3 : o3.data = .cell (some (.int n tn))) (hoff : ∀ p ∈ rest, p.1 ≠ D) :
   ∀ (k : Nat) (x L0 R0 : Nat) (X L1 R1 : Int) (t1 t2 t3 : Tok) (vs : List Value) (ns : List Int), X = x → L1 = L0 → R1 = R0 → IntsAre vs ns → L0 < R0 → R0 ≤ ns.length → ns.length ≤ 256 → R0 - L0 ≤ 2 ^ k → x < 2 ^ (n * (R0 - L0)) →
   Ct w f [.int X t1, .int L1 t2, .int R1 t3] (k + 2) (8 * k + 16) ((D, listOf vs.toArray 0) :: rest) (fun h => CodeHd h 34 30) fun v nw => v = .none ∧ ∃ vs', IntsAre vs' (putD n ns x L0 R0) ∧ nw = (D, listOf vs'.toArray 0) :: rest := by
  intro k
  induction k with
  | zero =>
    intro x L0 R0 X L1 R1 t1 t2 t3 vs ns hX hL1 hR1 hi hLR hRn hns hk2 hx p loose mean mg mb dp un gd cn cs ca ccd cl outer A₀ base h₀ L m s Q E B F X0 N T hk hC hd hu hret
    have hR : R0 = L0 + 1 := by omega
    subst hX hL1 hR1
    have hRi : (L0 : Int) + 1 = (R0 : Int) := by omega
    (conv at hf in in35P => whnf); (conv at hf in in35B => whnf); (conv at hf in in35S => whnf)
    walk_at "enter N"
    (try k_fold)
    k_steps
    · refine hret _ _ _ _ ⟨rfl, _, ?qh0, rfl⟩ (by k_asm) (by k_asm)
      rw [putD_base (by omega) hR (by rw [hR] at hx; simpa using hx)]
      k_asm
    · exfalso
      omega
  | succ k ih =>
    intro x L0 R0 X L1 R1 t1 t2 t3 vs ns hX hL1 hR1 hi hLR hRn hns hk2 hx p loose mean mg mb dp un gd cn cs ca ccd cl outer A₀ base h₀ L m s Q E B F X0 N T hk hC hd hu hret
    have hsb : ShB n := shB_of hn1
    have hbb : BitsB x := bitsB_of hn1 hns hRn hx
    subst hX hL1 hR1
    (conv at hf in in35P => whnf); (conv at hf in in35B => whnf); (conv at hf in in35S => whnf)
    walk_at "enter N"
    (try k_fold)
    k_steps
    · refine hret _ _ _ _ ⟨rfl, _, ?qh, rfl⟩ (by k_asm) (by k_asm)
      have hR : R0 = L0 + 1 := by omega
      rw [putD_base (by omega) hR (by rw [hR] at hx; simpa using hx)]
      k_asm
    · obtain ⟨M, hM⟩ : ∃ M, M = (L0 + R0) / 2 := ⟨_, rfl⟩
      have hM0 : ((L0 : Int) + (R0 : Int)) / 2 = (M : Int) := by omega
      have hML : L0 < M := by omega
      have hMR : M < R0 := by omega
      have hpk : 2 ^ (k + 1) = 2 * 2 ^ k := by rw [Nat.pow_succ, Nat.mul_comm]
      have hsh : (((M : Int) - (L0 : Int)) * (n : Int)).toNat = n * (M - L0) := by
        rw [show (M : Int) - (L0 : Int) = ((M - L0 : Nat) : Int) by omega, ← Int.natCast_mul, Int.toNat_natCast, Nat.mul_comm]
      k_dflt refine' ctUse (ih (x % 2 ^ (n * (M - L0))) L0 M _ _ _ _ _ _ vs ns ?qae1 rfl ?qae3 hi ?qaa ?qab hns ?qac ?qad) (by k_asm) (by k_asm) (by k_asm) (by k_asm) (by k_asm) (by walk_at "K") (by walk_at "C") (by walk_at "D") (by walk_at "U") ?qaret
      (case qae1 => rw [hM0, hsh]; exact bxor_low _ _)
      (case qae3 => exact hM0)
      (case qaa => exact hML)
      (case qab => omega)
      (case qac => omega)
      (case qad => exact Nat.mod_lt _ (Nat.pow_pos (by decide)))
      intro v nw h1' tk1' hp F1 N1
      obtain ⟨hv, vs1, hi1, hnw⟩ := hp
      subst hv hnw
      (try k_fold)
      k_steps
      k_dflt refine' ctUse (ih (x / 2 ^ (n * (M - L0))) M R0 _ _ _ _ _ _ vs1 _ ?qbe12 ?qbe32 rfl hi1 ?qba2 ?qbb2 ?qbbb2 ?qbc2 ?qbd2) (by k_asm) (by k_asm) (by k_asm) (by k_asm) (by k_asm) (by walk_at "K") (by walk_at "C") (by walk_at "D") (by walk_at "U") ?qbret
      (case qbe12 => rw [hM0, hsh]; exact fdiv_low _ _)
      (case qbe32 => exact hM0)
      (case qba2 => exact hMR)
      (case qbb2 => rw [putD_length]; omega)
      (case qbbb2 => rw [putD_length]; exact hns)
      (case qbc2 => omega)
      (case qbd2 =>
        refine Nat.div_lt_of_lt_mul ?_
        rw [← Nat.pow_add, ← Nat.mul_add]
        rwa [show (M - L0) + (R0 - M) = R0 - L0 by omega])
      intro v nw h2' tk2' hp F2 N2
      obtain ⟨hv, vs2, hi2, hnw⟩ := hp
      subst hv hnw
      (try k_fold)
      k_steps
      refine hret _ _ _ _ ⟨rfl, vs2, ?qh3, rfl⟩ (by k_asm) (by k_asm)
      rw [← putD_join hML hMR]
      exact hi2
end
section
example (w : World) : (rwQ = rwQ) ∧ (Kq w.params = Kq w.params) := by
  k_with_none
  k_fill
  (k_with "B" => k_asm)
  (k_with "K" => first | exact rfl | assumption)
  (k_with "C" => first | assumption | trivial)
  (k_with "D" => first | (change dp + 1 + _ < _; omega) | omega | ktr_room)
  (k_with "U" => first | (change un + 3 + _ < _; omega) | omega | ktr_units)
  (k_with "call builtin:divmod" => ((with_reducible show wpAny _ _ (call (Value.builtin _) [Value.int _ _, Value.int _ _]) _ _ _); (rename SmallDiv _ => hSd); refine divmod_N (by assumption) (by assumption) (by assumption) ?_ (Or.inl (PyProof.noPylong_of_log2 hSd)); intro _ _ _))
  (k_with "binaryOp FloorDiv int int" => ((rename SmallDiv _ => hSd); refine floordiv_sd hSd (by first | assumption | omega) ?_))
  (k_with "AllLt" => first | assumption | exact And.right (by assumption) | exact And.right (And.right (by assumption)) | exact And.right (And.right (And.right (by assumption))) | exact And.right (And.right (And.right (And.right (by assumption)))) | exact And.right (And.right (And.right (And.right (And.right (by assumption))))) | exact And.right (And.right (And.right (And.right (And.right (And.right (by assumption)))))) | exact And.right (And.right (And.right (And.right (And.right (And.right (And.right (by assumption)))))))  | exact And.right (And.right (And.right (And.right (And.right (And.right (And.right (And.right (by assumption)))))))))
  (k_with "k_all" => first | with_reducible assumption | exact allNe0 (by walk_at "AllLt") | exact allNe1 (by walk_at "AllLt") | exact allNe2 (by walk_at "AllLt") | exact allNe3 (by walk_at "AllLt") | exact List.forall_mem_nil _ | (refine' List.forall_mem_cons.mpr ⟨?_, ?_⟩; (focus k_ne); k_all))
  (k_with "binaryOp Mult ref int" => (k_here; (rename CntOk _ => hCo); k_dflt (refine' mulRep (by k_asm) (by k_asm) (by k_mem) hCo ?_); k_whole; intro l' h' F' N' l1; (try k_lt l1); (try k_sweep)))
  (k_with "enter" => (refine wpAny_call ?_; k_dflt cell_enter))
  (k_with "enter C" => (refine wpAny_call ?_; k_dflt ((refine' code_defC (by k_asm) (by k_asm) (by k_asm) (by k_asm) (by k_asm) (by exact rfl) (by exact rfl) (by assumption) (by k_is) (by k_is) (by ktr_room) (by exact BindsTo.of_eq rfl) (by exact rfl) (by decide +kernel) ?_ (by exact rfl) (by exact rfl) (by exact rfl)); k_whole; intro g' L' h' tk' cells' FG' F' N' Y' B' X' T' l1; (try k_lt l1); k_cells Y'; (try simp only [List.cons_append, List.nil_append] at N'); (try dsimp only); (try k_lift B'); (try k_fold))))
  (k_with "enter N" => (refine wpAny_call ?_; k_dflt (refine' code_nest (by k_asm) (by k_asm) (by k_asm) (by k_asm) (by k_asm) (by exact rfl) (by exact rfl) (by assumption) (by walk_at "inrest") (codeRec_news (by k_asm) (by walk_at "inrest") (by assumption) (by assumption)) (by ktr_room) (by exact BindsTo.of_eq rfl) (by exact locs rfl) ?_ (by exact rfl) (by exact rfl) (by exact rfl) (by decide); k_whole; intro g' L' h' FG' F' N' B' X' T'; (try dsimp only); (try k_lift B'))))
  (k_with "eval Name" => (k_here; kc_free; k_dflt (refine' nameX_F (by k_asm) (by exact rfl) (by walk_at "inrest") (by with_reducible assumption) ?_ (by exact rfl) (by exact rfl)); k_whole))
  (k_with "inrest" => first | with_reducible assumption | exact List.mem_cons_self .. | assumption | (refine List.mem_cons_of_mem _ ?_; walk_at "inrest"))
  (k_with "FnAt" => (k_dflt (exact FnAt.of (by k_asm) (by walk_at "inrest"))))
  (k_with "callWith ref" => (k_here; kn_here; k_dflt (first
    | (refine' callWith_F (FnAt.of (by k_asm) (by walk_at "inrest")) ?_; k_whole)
    | (refine' callWith_F0 (FnAt.of (by k_asm) (by walk_at "inrest")) ?_; k_whole; try dsimp only [List.nil_append, List.cons_append]))))
  (k_with "mulok" => first | assumption | exact PySem.IntMulOk.of_left (bits64 (by omega)) | exact PySem.IntMulOk.of_right (bits64 (by omega)))
  (k_with "binaryOp Mult int int" => (k_here; k_dflt (refine mul_int ?_ (by walk_at "mulok"))))
  (k_with "setItem ref int" => (k_here; (with_reducible show wpAny _ _ (setItem (Value.ref _) (Value.int _ _) (Value.int _ _)) _ _ _); k_dflt (refine' ksa_set (by k_asm) (by k_asm) (by k_upd) (by with_reducible assumption) (by omega) (by omega) (by omega) ?_); k_whole; intro h' F' N' hi' hl' hs'; (try k_sweep)))
  (k_with "nn" => first | omega | ((rename ShB _ => hShB); exact (hShB _ (by omega) (by omega)).1))
  (k_with "lsz" => ((rename ShB _ => hShB); (rename BitsB _ => hBB); first | exact lsz_of (BitsB.fdiv _ hBB) (hShB _ (by omega) (by omega)).2 | exact lsz_of hBB (hShB _ (by omega) (by omega)).2))
  (k_with "binaryOp RShift int int" => (k_here; k_dflt (refine rshift_int (by walk_at "nn") ?_)))
  (k_with "binaryOp RShift int int" => (k_here; with_reducible refine rshift1 ?_))
  (k_with "binaryOp LShift int int" => (k_here; k_dflt (refine lshift_int (by walk_at "nn") (by walk_at "lsz") ?_)))
  (k_with "truthy ref" => (k_dflt (refine' truthyLed (by k_asm) (by walk_at "inrest") (by walk_at "lenfit") ?_); intro _))
  (k_with "lenfit" => first | omega | ((have hl9 := IntsAre.length (by assumption)); (try simp only [List.length_map, List.length_replicate] at *); omega))
  (k_with "subscriptTail" => (k_here; (with_reducible show wpAny _ _ (subscriptTail _ _ (Value.ref _) (Value.int _ _)) _ _ _); k_dflt (refine' ksa_sub (by k_asm) (by walk_at "inrest") (by with_reducible assumption) (by omega) (by first | omega | (rw [List.length_map]; omega)) (by omega) ?_ (by with_unfolding_all rfl)); intro _))
  (k_with "call builtin:list.append" => (k_here; k_dflt (refine' appendLed (by k_asm) (by k_asm) (by k_upd) (by walk_at "lenfit") ?_; k_whole); intro h' F' N'; (try k_sweep)))
  (k_with "call builtin:list.reverse" => (k_here; k_dflt (refine' reverseLed (by k_asm) (by k_asm) (by k_upd) (by walk_at "lenfit") ?_; k_whole); intro h' F' N'; (try k_sweep)))
  (k_with "call type:reversed" => (k_here; (with_reducible show wpAny _ _ (call (Value.type _) [Value.ref _]) _ _ _); k_dflt (refine' krv_reversed (by k_asm) (by k_asm) (News.isList (by k_asm) (by walk_at "inrest")) ?_); intro D' h' F' N' lrev; have l1 := lrev; (try k_lt l1); (try k_sweep)))
  (k_with "mlook" => first | with_reducible assumption | exact if_pos rfl | exact rfl | (refine (if_neg (by decide)).trans ?_; walk_at "mlook"))
  (k_with "eval Name" => (k_here; (rename MapMark => hMM); k_dflt (refine' nameX_L (by k_asm) (by walk_at "mlook") ?_ (by rfl) (by rfl)); k_whole))
  (k_with "newList" => (k_here; (with_reducible refine' newList_K (by k_asm) (by k_asm) ?_ (by exact Nat.le_of_ble_eq_true rfl)); k_whole; intro l' h' F' N' lnew; have l1 := lnew; (try k_lt l1); (try k_sweep)))
  (k_with "lsz" => ((rename BitsB _ => hBB); exact lsz_of hBB (by omega)))
  (k_with "newTuple" => (k_here; k_dflt (refine' newTupLed (by k_asm) (by k_asm) (by exact Nat.le_of_ble_eq_true rfl) ?_; k_whole); intro q' h' F' N' ltup; have l1 := ltup; (try k_lt l1); (try k_sweep)))
  (k_with "pick" => first | exact Pick.head | (apply Pick.tail; walk_at "pick"))
  (k_with "sub" => (intro q9 hq9; repeat (first | exact hsub0 _ hq9 | exact hq9 | apply List.mem_cons_of_mem)))
  (k_with "call builtin:len" => ((with_reducible show wpAny _ _ (call (Value.builtin "len") [Value.ref _]) _ _ _); k_dflt (refine' lenLed (by k_asm) (by walk_at "inrest") (by first | walk_at "lenfit" | (simp only [List.length_replicate]; omega)) ?_)))
  (k_with "exec FunctionDef" => (k_here; kn_here; k_dflt (refine' nestDef_K (by exact rfl) (by exact rfl) (by exact rfl) ?_); k_dflt (refine' nestTab (by k_asm) (by k_asm) (by k_asm) (by kn_code) (by exact rfl) (by k_updF) (by assumption) (by walk_at "sub") (by walk_at "AllLt") (List.mem_cons_self ..) (by exact rfl) ?_; k_whole); intro f' c' oc' vs' t' ct' dc' h' tk' ps' F' N' d1' d2' tc' hin' l1 l2; have hin2 := hin'.imp And.right And.right; (try dsimp only at N'); (try k_lt2 l1); (try k_lt l2)))
  exact ⟨rfl, rfl⟩
theorem shiftVal {n a b : Nat} {x : Nat} (hn : n ≤ 4096) (hb : b ≤ 256) (hx : x < 2 ^ (n * (b - a))) : BitsB (x : Int) := bitsB_of hn hb (Nat.le_refl b) hx
set_option maxRecDepth 100000 in
set_option maxHeartbeats 8000000 in
theorem inner42_ct (w : World) (n : Nat) (hn1 : n ≤ 4096) (f D c' : Addr) (ct1 ct2 ct3 : Addr) (o1 o2 o3 oc : Obj) (vs9 : Array Value) (t9 tn : Tok) (doc pm ctv : Value) (ep : Nat) (vs : List Value) (ds : List Nat) (rest : Led)
   (hf : (f, fnMade "inner" "_digits2int.<locals>.inner" in42P in42B in42S [("n", ct3), ("inner", ct2), ("digits", ct1)] doc pm c' ctv) ∈ rest)
   (hc' : (c', oc) ∈ rest) (hoc : oc.data = .fields vs9) (hvs : vs9[1]? = some (.str "_digits2int.<locals>.inner" t9))
   (h1 : (ct1, o1) ∈ rest) (hd1 : o1.data = .cell (some (.ref D))) (h2 : (ct2, o2) ∈ rest) (hd2 : o2.data = .cell (some (.ref f))) (h3 : (ct3, o3) ∈ rest) (hd3 : o3.data = .cell (some (.int n tn)))
   (hm : (D, listOf vs.toArray ep) ∈ rest) (hi : IntsAre vs (ds.map Int.ofNat)) (hds : ∀ d ∈ ds, d < 2 ^ n) (hl : ds.length ≤ 256) :
   ∀ (k : Nat) (L0 R0 : Nat) (L1 R1 : Int) (t2 t3 : Tok), L1 = L0 → R1 = R0 → L0 < R0 → R0 ≤ ds.length → R0 - L0 ≤ 2 ^ k →
   Ct w f [.int L1 t2, .int R1 t3] (k + 2) (8 * k + 16) rest (fun h => CodeHd h 41 37) fun v nw => nw = rest ∧ ∃ t, v = .int (valD n ds L0 R0 : Nat) t := by
  intro k
  induction k with
  | zero =>
    intro L0 R0 L1 R1 t2 t3 hL1 hR1 hLR hRn hk2 p loose mean mg mb dp un gd cn cs ca ccd cl outer A₀ base h₀ L m s Q E B F X0 N T hk hC hd hu hret
    have hR : R0 = L0 + 1 := by omega
    subst hL1 hR1
    (conv at hf in in42P => whnf); (conv at hf in in42B => whnf); (conv at hf in in42S => whnf)
    walk_at "enter N"
    (try k_fold)
    k_steps
    · refine hret _ _ _ _ ⟨rfl, ?qh0⟩ (by k_asm) (by k_asm)
      rw [hR, valD_one (by omega), Int.toNat_natCast, getD_map]
      exact ⟨_, rfl⟩
    · exfalso
      omega
  | succ k ih =>
    intro L0 R0 L1 R1 t2 t3 hL1 hR1 hLR hRn hk2 p loose mean mg mb dp un gd cn cs ca ccd cl outer A₀ base h₀ L m s Q E B F X0 N T hk hC hd hu hret
    have hsb : ShB n := shB_of hn1
    subst hL1 hR1
    (conv at hf in in42P => whnf); (conv at hf in in42B => whnf); (conv at hf in in42S => whnf)
    walk_at "enter N"
    (try k_fold)
    k_steps
    · refine hret _ _ _ _ ⟨rfl, ?qh2⟩ (by k_asm) (by k_asm)
      have hR : R0 = L0 + 1 := by omega
      rw [hR, valD_one (by omega), Int.toNat_natCast, getD_map]
      exact ⟨_, rfl⟩
    · obtain ⟨M, hM⟩ : ∃ M, M = (L0 + R0) / 2 := ⟨_, rfl⟩
      have hM0 : ((L0 : Int) + (R0 : Int)) / 2 = (M : Int) := by omega
      have hML : L0 < M := by omega
      have hMR : M < R0 := by omega
      have hpk : 2 ^ (k + 1) = 2 * 2 ^ k := by rw [Nat.pow_succ, Nat.mul_comm]
      have hsh : (((M : Int) - (L0 : Int)) * (n : Int)).toNat = n * (M - L0) := by
        rw [show (M : Int) - (L0 : Int) = ((M - L0 : Nat) : Int) by omega, ← Int.natCast_mul, Int.toNat_natCast, Nat.mul_comm]
      k_dflt refine' ctUse (ih M R0 _ _ _ _ hM0 rfl hMR hRn (by omega)) (by k_asm) (by k_asm) (by k_asm) (by k_asm) (by k_asm) (by walk_at "K") (by walk_at "C") (by walk_at "D") (by walk_at "U") ?qaret
      intro v nw h1' tk1' hp F1 N1
      obtain ⟨hnw, t1, hv⟩ := hp
      subst hv hnw
      have hbb : BitsB (valD n ds M R0 : Nat) := shiftVal hn1 (by omega) (valD_lt hds hRn (Nat.le_of_lt hMR))
      (try k_fold)
      k_steps
      k_dflt refine' ctUse (ih L0 M _ _ _ _ rfl hM0 hML (by omega) (by omega)) (by k_asm) (by k_asm) (by k_asm) (by k_asm) (by k_asm) (by walk_at "K") (by walk_at "C") (by walk_at "D") (by walk_at "U") ?qbret
      intro v nw h2' tk2' hp F2 N2
      obtain ⟨hnw, t2, hv⟩ := hp
      subst hv hnw
      (try k_fold)
      k_steps
      refine hret _ _ _ _ ⟨rfl, ?qh1⟩ (by k_asm) (by k_asm)
      rw [hM0, hsh, ← valD_join (Nat.le_of_lt hML) (Nat.le_of_lt hMR) hRn]
      exact ⟨_, congrArg (Value.int · _) (by rw [Int.natCast_add, Int.natCast_mul, Int.natCast_pow]; rfl)⟩
set_option maxRecDepth 100000 in
set_option maxHeartbeats 8000000 in
theorem digits2int_ct (w : World) (n : Nat) (D : Addr) (ep : Nat) (vs : List Value) (ds : List Nat) (t2 : Tok) (news news0 : Led) (hsub0 : ∀ p ∈ news0, p ∈ news) (ps : Array Value) (hn1 : n ≤ 4096)  (hoff : ∀ p ∈ news, p.1 ≠ 37) (hm : (D, listOf vs.toArray ep) ∈ news) (hi : IntsAre vs (ds.map Int.ofNat)) (hds : ∀ d ∈ ds, d < 2 ^ n) (hl : ds.length ≤ 256)
    (St : TabSt pos42 "_digits2int.<locals>.inner" ps news0) :
   Ct w 42 [.ref D, .int n t2] 20 200 ((37, tabObj ps) :: news) (fun h => CodeHd h 41 37) fun v nw => ∃ t ps' ex, v = .int (valL n ds : Nat) t ∧ nw = (37, tabObj ps') :: (ex ++ news) ∧
     TabSt pos42 "_digits2int.<locals>.inner" ps' (ex ++ news0) ∧ (∀ e ∈ ex, ∀ p ∈ (37, tabObj ps) :: news, p.1 < e.1) := by
  intro p loose mean mg mb dp un gd cn cs ca ccd cl outer A₀ base h₀ L m s Q E B F X N T hk hC hd hu hret
  have hlv : vs.length = ds.length := by rw [hi.length, List.length_map]
  walk_at "enter C"
  have hA0 : AllLt _ news0 := allLtSub (by walk_at "AllLt") hsub0
  k_steps
  · have hcp : 0 < ds.length := by
      rcases Nat.eq_zero_or_pos ds.length with e | e
      · simp_all
      · exact e
    rename News _ _ _ _ => NN
    k_dflt refine' ctUseN NN (inner42_ct w n hn1 f' D c' _ _ _ _ _ _ _ _ _ _ _ _ _ ep vs ds _ (by with_unfolding_all k_mem) (by k_mem) (by assumption) (by with_unfolding_all assumption) (by k_mem) (by assumption) (by k_mem) (by assumption) (by k_mem) (by assumption) (by walk_at "inrest") hi hds hl
      8 0 ds.length _ _ _ _ rfl (by rw [hlv]) hcp (Nat.le_refl _) (by omega)) (by k_asm) (by k_asm) (by k_asm) (by k_asm) (by walk_at "K") (by walk_at "C") (by walk_at "D") (by walk_at "U") ?qaret
    intro v nw h1' tk1' hp F1 N2
    obtain ⟨hnw, t1, hv⟩ := hp
    subst hv hnw
    (try k_fold)
    k_steps
    obtain ⟨ex, e1, e2, e3⟩ := tab_post2 (news := news) (P := 37) (ps := ps) tc' d1' (by with_unfolding_all assumption) hin' (fun p hp => (List.mem_cons.mp hp).elim (fun e => by rw [e]; walk_at "inrest") fun hp => by walk_at "inrest")
    refine hret _ _ _ _ ⟨_, ps', ex, (by rw [valD_all]), rfl, e1, e2⟩ (by k_asm) (fun p hp => ?_)
    have hp := e3 p hp
    rename News h₀ _ _ _ => NN
    refine NN p ?_
    simp only [List.mem_cons] at hp ⊢
    rcases hp with hp | hp | hp <;> simp only [hp, true_or, or_true]
  · have hnil : ds = [] := List.length_eq_zero_iff.mp (by simp_all)
    obtain ⟨ex, e1, e2, e3⟩ := tab_post2 (news := news) (P := 37) (ps := ps) tc' d1' (by with_unfolding_all assumption) hin' (fun p hp => (List.mem_cons.mp hp).elim (fun e => by rw [e]; walk_at "inrest") fun hp => by walk_at "inrest")
    refine hret _ _ _ _ ⟨_, ps', ex, (by rw [hnil]; rfl), rfl, e1, e2⟩ (by k_asm) (fun p hp => ?_)
    have hp := e3 p hp
    rename News h₀ _ _ _ => NN
    refine NN p ?_
    simp only [List.mem_cons] at hp ⊢
    rcases hp with hp | hp | hp <;> simp only [hp, true_or, or_true]
end
section
example (w : World) : (rwQ = rwQ) ∧ (Kq w.params = Kq w.params) := by
  k_with_none
  k_fill
  (k_with "B" => k_asm)
  (k_with "K" => first | exact rfl | assumption)
  (k_with "C" => first | assumption | trivial)
  (k_with "D" => first | (change dp + 1 + _ < _; omega) | omega | ktr_room)
  (k_with "U" => first | (change un + 3 + _ < _; omega) | omega | ktr_units)
  (k_with "call builtin:divmod" => ((with_reducible show wpAny _ _ (call (Value.builtin _) [Value.int _ _, Value.int _ _]) _ _ _); (rename SmallDiv _ => hSd); refine divmod_N (by assumption) (by assumption) (by assumption) ?_ (Or.inl (PyProof.noPylong_of_log2 hSd)); intro _ _ _))
  (k_with "binaryOp FloorDiv int int" => ((rename SmallDiv _ => hSd); refine floordiv_sd hSd (by first | assumption | omega) ?_))
  (k_with "AllLt" => first | assumption | exact And.right (by assumption) | exact And.right (And.right (by assumption)) | exact And.right (And.right (And.right (by assumption))) | exact And.right (And.right (And.right (And.right (by assumption)))) | exact And.right (And.right (And.right (And.right (And.right (by assumption))))) | exact And.right (And.right (And.right (And.right (And.right (And.right (by assumption)))))) | exact And.right (And.right (And.right (And.right (And.right (And.right (And.right (by assumption)))))))  | exact And.right (And.right (And.right (And.right (And.right (And.right (And.right (And.right (by assumption)))))))))
  (k_with "k_all" => first | with_reducible assumption | exact allNe0 (by walk_at "AllLt") | exact allNe1 (by walk_at "AllLt") | exact allNe2 (by walk_at "AllLt") | exact allNe3 (by walk_at "AllLt") | exact List.forall_mem_nil _ | (refine' List.forall_mem_cons.mpr ⟨?_, ?_⟩; (focus k_ne); k_all))
  (k_with "binaryOp Mult ref int" => (k_here; (rename CntOk _ => hCo); k_dflt (refine' mulRep (by k_asm) (by k_asm) (by k_mem) hCo ?_); k_whole; intro l' h' F' N' l1; (try k_lt l1); (try k_sweep)))
  (k_with "enter" => (refine wpAny_call ?_; k_dflt cell_enter))
  (k_with "enter C" => (refine wpAny_call ?_; k_dflt ((refine' code_defC (by k_asm) (by k_asm) (by k_asm) (by k_asm) (by k_asm) (by exact rfl) (by exact rfl) (by assumption) (by k_is) (by k_is) (by ktr_room) (by exact BindsTo.of_eq rfl) (by exact rfl) (by decide +kernel) ?_ (by exact rfl) (by exact rfl) (by exact rfl)); k_whole; intro g' L' h' tk' cells' FG' F' N' Y' B' X' T' l1; (try k_lt l1); k_cells Y'; (try simp only [List.cons_append, List.nil_append] at N'); (try dsimp only); (try k_lift B'); (try k_fold))))
  (k_with "enter N" => (refine wpAny_call ?_; k_dflt (refine' code_nest (by k_asm) (by k_asm) (by k_asm) (by k_asm) (by k_asm) (by exact rfl) (by exact rfl) (by assumption) (by walk_at "inrest") (codeRec_news (by k_asm) (by walk_at "inrest") (by assumption) (by assumption)) (by ktr_room) (by exact BindsTo.of_eq rfl) (by exact locs rfl) ?_ (by exact rfl) (by exact rfl) (by exact rfl) (by decide); k_whole; intro g' L' h' FG' F' N' B' X' T'; (try dsimp only); (try k_lift B'))))
  (k_with "eval Name" => (k_here; kc_free; k_dflt (refine' nameX_F (by k_asm) (by exact rfl) (by walk_at "inrest") (by with_reducible assumption) ?_ (by exact rfl) (by exact rfl)); k_whole))
  (k_with "inrest" => first | with_reducible assumption | exact List.mem_cons_self .. | assumption | (refine List.mem_cons_of_mem _ ?_; walk_at "inrest"))
  (k_with "FnAt" => (k_dflt (exact FnAt.of (by k_asm) (by walk_at "inrest"))))
  (k_with "callWith ref" => (k_here; kn_here; k_dflt (first
    | (refine' callWith_F (FnAt.of (by k_asm) (by walk_at "inrest")) ?_; k_whole)
    | (refine' callWith_F0 (FnAt.of (by k_asm) (by walk_at "inrest")) ?_; k_whole; try dsimp only [List.nil_append, List.cons_append]))))
  (k_with "mulok" => first | assumption | exact PySem.IntMulOk.of_left (bits64 (by omega)) | exact PySem.IntMulOk.of_right (bits64 (by omega)))
  (k_with "binaryOp Mult int int" => (k_here; k_dflt (refine mul_int ?_ (by walk_at "mulok"))))
  (k_with "setItem ref int" => (k_here; (with_reducible show wpAny _ _ (setItem (Value.ref _) (Value.int _ _) (Value.int _ _)) _ _ _); k_dflt (refine' ksa_set (by k_asm) (by k_asm) (by k_upd) (by with_reducible assumption) (by omega) (by omega) (by omega) ?_); k_whole; intro h' F' N' hi' hl' hs'; (try k_sweep)))
  (k_with "nn" => first | omega | ((rename ShB _ => hShB); exact (hShB _ (by omega) (by omega)).1))
  (k_with "lsz" => ((rename ShB _ => hShB); (rename BitsB _ => hBB); first | exact lsz_of (BitsB.fdiv _ hBB) (hShB _ (by omega) (by omega)).2 | exact lsz_of hBB (hShB _ (by omega) (by omega)).2))
  (k_with "binaryOp RShift int int" => (k_here; k_dflt (refine rshift_int (by walk_at "nn") ?_)))
  (k_with "binaryOp RShift int int" => (k_here; with_reducible refine rshift1 ?_))
  (k_with "binaryOp LShift int int" => (k_here; k_dflt (refine lshift_int (by walk_at "nn") (by walk_at "lsz") ?_)))
  (k_with "truthy ref" => (k_dflt (refine' truthyLed (by k_asm) (by walk_at "inrest") (by walk_at "lenfit") ?_); intro _))
  (k_with "lenfit" => first | omega | ((have hl9 := IntsAre.length (by assumption)); (try simp only [List.length_map, List.length_replicate] at *); omega))
  (k_with "subscriptTail" => (k_here; (with_reducible show wpAny _ _ (subscriptTail _ _ (Value.ref _) (Value.int _ _)) _ _ _); k_dflt (refine' ksa_sub (by k_asm) (by walk_at "inrest") (by with_reducible assumption) (by omega) (by first | omega | (rw [List.length_map]; omega)) (by omega) ?_ (by with_unfolding_all rfl)); intro _))
  (k_with "call builtin:list.append" => (k_here; k_dflt (refine' appendLed (by k_asm) (by k_asm) (by k_upd) (by walk_at "lenfit") ?_; k_whole); intro h' F' N'; (try k_sweep)))
  (k_with "call builtin:list.reverse" => (k_here; k_dflt (refine' reverseLed (by k_asm) (by k_asm) (by k_upd) (by walk_at "lenfit") ?_; k_whole); intro h' F' N'; (try k_sweep)))
  (k_with "call type:reversed" => (k_here; (with_reducible show wpAny _ _ (call (Value.type _) [Value.ref _]) _ _ _); k_dflt (refine' krv_reversed (by k_asm) (by k_asm) (News.isList (by k_asm) (by walk_at "inrest")) ?_); intro D' h' F' N' lrev; have l1 := lrev; (try k_lt l1); (try k_sweep)))
  (k_with "mlook" => first | with_reducible assumption | exact if_pos rfl | exact rfl | (refine (if_neg (by decide)).trans ?_; walk_at "mlook"))
  (k_with "eval Name" => (k_here; (rename MapMark => hMM); k_dflt (refine' nameX_L (by k_asm) (by walk_at "mlook") ?_ (by rfl) (by rfl)); k_whole))
  (k_with "newList" => (k_here; (with_reducible refine' newList_K (by k_asm) (by k_asm) ?_ (by exact Nat.le_of_ble_eq_true rfl)); k_whole; intro l' h' F' N' lnew; have l1 := lnew; (try k_lt l1); (try k_sweep)))
  (k_with "lsz" => ((rename BitsB _ => hBB); exact lsz_of hBB (by omega)))
  (k_with "newTuple" => (k_here; k_dflt (refine' newTupLed (by k_asm) (by k_asm) (by exact Nat.le_of_ble_eq_true rfl) ?_; k_whole); intro q' h' F' N' ltup; have l1 := ltup; (try k_lt l1); (try k_sweep)))
  (k_with "pick" => first | exact Pick.head | (apply Pick.tail; walk_at "pick"))
  (k_with "sub" => (intro q9 hq9; repeat (first | exact hsub0 _ hq9 | exact hq9 | apply List.mem_cons_of_mem)))
  (k_with "call builtin:len" => ((with_reducible show wpAny _ _ (call (Value.builtin "len") [Value.ref _]) _ _ _); k_dflt (refine' lenLed (by k_asm) (by walk_at "inrest") (by first | walk_at "lenfit" | (simp only [List.length_replicate]; omega)) ?_)))
  (k_with "exec FunctionDef" => (k_here; kn_here; k_dflt (refine' nestDef_K (by exact rfl) (by exact rfl) (by exact rfl) ?_); k_dflt (refine' nestTab (by k_asm) (by k_asm) (by k_asm) (by kn_code) (by exact rfl) (by k_updF) (by assumption) (by walk_at "sub") (by walk_at "AllLt") (List.mem_cons_self ..) (by exact rfl) ?_; k_whole); intro f' c' oc' vs' t' ct' dc' h' tk' ps' F' N' d1' d2' tc' hin' l1 l2; have hin2 := hin'.imp And.right And.right; (try dsimp only at N'); (try k_lt2 l1); (try k_lt l2)))
  exact ⟨rfl, rfl⟩
set_option maxRecDepth 100000 in
set_option maxHeartbeats 8000000 in
theorem int2digits_ct (w : World) (a n cnt : Nat) (t1 t2 : Tok) (news news0 : Led) (hsub0 : ∀ p ∈ news0, p ∈ news) (ps : Array Value) (hn0 : 0 < n) (hn1 : n ≤ 4096) (hsd : SmallDiv n) (hoff : ∀ p ∈ news, p.1 ≠ 30)
    (hcnt : ((Builtin.Int.intBits (a : Int) : Int) + (n : Int) - 1).fdiv n = (cnt : Int)) (hc : cnt ≤ 256) (ha : a < 2 ^ (n * cnt)) (St : TabSt pos35 "_int2digits.<locals>.inner" ps news0) :
   Ct w 35 [.int a t1, .int n t2] 20 200 ((30, tabObj ps) :: news) (fun h => CodeHd h 34 30) fun v nw => ∃ q vs ps' ex, v = .ref q ∧ IntsAre vs (putD n (List.replicate cnt 0) a 0 cnt) ∧ nw = (q, listOf vs.toArray 0) :: (30, tabObj ps') :: (ex ++ news) ∧
     TabSt pos35 "_int2digits.<locals>.inner" ps' (ex ++ news0) ∧ (∀ p ∈ (30, tabObj ps) :: news, p.1 < q) ∧ (∀ e ∈ ex, e.1 ≠ q ∧ ∀ p ∈ (30, tabObj ps) :: news, p.1 < e.1) := by
  intro p loose mean mg mb dp un gd cn cs ca ccd cl outer A₀ base h₀ L m s Q E B F X N T hk hC hd hu hret
  have hco : CntOk (((Builtin.Int.intBits (a : Int) : Int) + (n : Int) - 1).fdiv n) := by
    rw [hcnt]
    exact ⟨by omega, by omega⟩
  walk_at "enter C"
  have hA0 : AllLt _ news0 := allLtSub (by walk_at "AllLt") hsub0
  k_steps
  · rename News _ _ _ _ => NN
    have N1 := pickNews (D := l') (by walk_at "pick") NN
    have hcp : 0 < cnt := by
      rcases Nat.eq_zero_or_pos cnt with e | e
      · subst e
        simp at ha
        simp_all
      · exact e
    k_dflt refine' ctUse (inner35_ct w n hn0 hn1 f' l' c' _ _ _ _ _ _ _ _ _ _ _ _ _ _ (by with_unfolding_all k_mem) (by k_mem) (by assumption) (by with_unfolding_all assumption) (by k_mem) (by assumption) (by k_mem) (by assumption) (by k_mem) (by assumption) (by k_all)
      8 a 0 cnt _ _ _ _ _ _ _ (List.replicate cnt 0) rfl rfl ?qa1 ?qa2 hcp ?qa3 ?qa4 ?qa5 ha) (by k_asm) (by k_asm) (by k_asm) N1 (by k_asm) (by walk_at "K") (by walk_at "C") (by walk_at "D") (by walk_at "U") ?qaret
    (case qa1 => rw [List.length_replicate, hcnt]; rfl)
    (case qa2 => rw [hcnt]; exact intsRep)
    (case qa3 => rw [List.length_replicate]; exact Nat.le_refl _)
    (case qa4 => rw [List.length_replicate]; exact hc)
    (case qa5 => omega)
    intro v nw h1' tk1' hp F1 N2
    obtain ⟨hv, vs1, hi1, hnw⟩ := hp
    subst hv hnw
    (try k_fold)
    k_steps
    obtain ⟨ex, e1, e2, e3⟩ := tab_post (news := news) (P := 30) (ps := ps) (oq := listOf vs1.toArray 0) tc' d1' (by with_unfolding_all assumption) hin' (fun p hp => (List.mem_cons.mp hp).elim (fun e => by rw [e]; show @LT.lt Nat _ 30 _; omega) (allLt_out (by walk_at "AllLt") p))
    refine hret _ _ _ _ ⟨l', vs1, ps', ex, rfl, hi1, rfl, e1, fun p hp => (List.mem_cons.mp hp).elim (fun e => by rw [e]; show @LT.lt Nat _ 30 _; omega) (allLt_out (by walk_at "AllLt") p), e2⟩ (by k_asm) (fun p hp => ?_)
    have hp := e3 p hp
    rename News _ _ _ _ => NN
    refine NN p ?_
    simp only [List.mem_cons] at hp ⊢
    rcases hp with hp | hp | hp | hp <;> simp only [hp, true_or, or_true]
  · have ha0 : a = 0 := by simp_all
    rename News h₀ _ _ _ => NN
    obtain ⟨t0, N3⟩ : ∃ t, News h₀ L _ ((l', listOf (List.replicate (((Builtin.Int.intBits (a : Int) : Int) + (n : Int) - 1).fdiv n).toNat (Value.int 0 t)).toArray 0) :: _) := ⟨_, pickNews (by walk_at "pick") NN⟩
    obtain ⟨ex, e1, e2, e3⟩ := tab_post (news := news) (P := 30) (ps := ps) (oq := listOf (List.replicate (((Builtin.Int.intBits (a : Int) : Int) + (n : Int) - 1).fdiv n).toNat (Value.int 0 t0)).toArray 0) tc' d1' (by with_unfolding_all assumption) hin' (fun p hp => (List.mem_cons.mp hp).elim (fun e => by rw [e]; show @LT.lt Nat _ 30 _; omega) (allLt_out (by walk_at "AllLt") p))
    refine hret _ _ _ _ ⟨l', _, ps', ex, rfl, (show IntsAre (List.replicate (((Builtin.Int.intBits (a : Int) : Int) + (n : Int) - 1).fdiv n).toNat (Value.int 0 t0)) _ by rw [hcnt, ha0, putD_zero]; exact intsRep), rfl, e1, fun p hp => (List.mem_cons.mp hp).elim (fun e => by rw [e]; show @LT.lt Nat _ 30 _; omega) (allLt_out (by walk_at "AllLt") p), e2⟩ (by k_asm) (fun p hp => ?_)
    have hp := e3 p hp
    refine N3 p ?_
    simp only [List.mem_cons] at hp ⊢
    rcases hp with hp | hp | hp | hp <;> simp only [hp, true_or, or_true]
end
section
example (w : World) : (rwQ = rwQ) ∧ (Kq w.params = Kq w.params) := by
  k_with_none
  k_fill
  (k_with "B" => k_asm)
  (k_with "K" => first | exact rfl | assumption)
  (k_with "C" => first | assumption | trivial)
  (k_with "D" => first | (change dp + 1 + _ < _; omega) | omega | ktr_room)
  (k_with "U" => first | (change un + 3 + _ < _; omega) | omega | ktr_units)
  (k_with "call builtin:divmod" => ((with_reducible show wpAny _ _ (call (Value.builtin _) [Value.int _ _, Value.int _ _]) _ _ _); (rename SmallDiv _ => hSd); refine divmod_N (by assumption) (by assumption) (by assumption) ?_ (Or.inl (PyProof.noPylong_of_log2 hSd)); intro _ _ _))
  (k_with "binaryOp FloorDiv int int" => ((rename SmallDiv _ => hSd); refine floordiv_sd hSd (by first | assumption | omega) ?_))
  (k_with "AllLt" => first | assumption | exact And.right (by assumption) | exact And.right (And.right (by assumption)) | exact And.right (And.right (And.right (by assumption))) | exact And.right (And.right (And.right (And.right (by assumption)))) | exact And.right (And.right (And.right (And.right (And.right (by assumption))))) | exact And.right (And.right (And.right (And.right (And.right (And.right (by assumption)))))) | exact And.right (And.right (And.right (And.right (And.right (And.right (And.right (by assumption)))))))  | exact And.right (And.right (And.right (And.right (And.right (And.right (And.right (And.right (by assumption)))))))))
  (k_with "k_all" => first | with_reducible assumption | exact allNe0 (by walk_at "AllLt") | exact allNe1 (by walk_at "AllLt") | exact allNe2 (by walk_at "AllLt") | exact allNe3 (by walk_at "AllLt") | exact List.forall_mem_nil _ | (refine' List.forall_mem_cons.mpr ⟨?_, ?_⟩; (focus k_ne); k_all))
  (k_with "binaryOp Mult ref int" => (k_here; (rename CntOk _ => hCo); k_dflt (refine' mulRep (by k_asm) (by k_asm) (by k_mem) hCo ?_); k_whole; intro l' h' F' N' l1; (try k_lt l1); (try k_sweep)))
  (k_with "enter" => (refine wpAny_call ?_; k_dflt cell_enter))
  (k_with "enter C" => (refine wpAny_call ?_; k_dflt ((refine' code_defC (by k_asm) (by k_asm) (by k_asm) (by k_asm) (by k_asm) (by exact rfl) (by exact rfl) (by assumption) (by k_is) (by k_is) (by ktr_room) (by exact BindsTo.of_eq rfl) (by exact rfl) (by decide +kernel) ?_ (by exact rfl) (by exact rfl) (by exact rfl)); k_whole; intro g' L' h' tk' cells' FG' F' N' Y' B' X' T' l1; (try k_lt l1); k_cells Y'; (try simp only [List.cons_append, List.nil_append] at N'); (try dsimp only); (try k_lift B'); (try k_fold))))
  (k_with "enter N" => (refine wpAny_call ?_; k_dflt (refine' code_nest (by k_asm) (by k_asm) (by k_asm) (by k_asm) (by k_asm) (by exact rfl) (by exact rfl) (by assumption) (by walk_at "inrest") (codeRec_news (by k_asm) (by walk_at "inrest") (by assumption) (by assumption)) (by ktr_room) (by exact BindsTo.of_eq rfl) (by exact locs rfl) ?_ (by exact rfl) (by exact rfl) (by exact rfl) (by decide); k_whole; intro g' L' h' FG' F' N' B' X' T'; (try dsimp only); (try k_lift B'))))
  (k_with "eval Name" => (k_here; kc_free; k_dflt (refine' nameX_F (by k_asm) (by exact rfl) (by walk_at "inrest") (by with_reducible assumption) ?_ (by exact rfl) (by exact rfl)); k_whole))
  (k_with "inrest" => first | with_reducible assumption | exact List.mem_cons_self .. | assumption | (refine List.mem_cons_of_mem _ ?_; walk_at "inrest"))
  (k_with "FnAt" => (k_dflt (exact FnAt.of (by k_asm) (by walk_at "inrest"))))
  (k_with "callWith ref" => (k_here; kn_here; k_dflt (first
    | (refine' callWith_F (FnAt.of (by k_asm) (by walk_at "inrest")) ?_; k_whole)
    | (refine' callWith_F0 (FnAt.of (by k_asm) (by walk_at "inrest")) ?_; k_whole; try dsimp only [List.nil_append, List.cons_append]))))
  (k_with "mulok" => first | assumption | exact PySem.IntMulOk.of_left (bits64 (by omega)) | exact PySem.IntMulOk.of_right (bits64 (by omega)))
  (k_with "binaryOp Mult int int" => (k_here; k_dflt (refine mul_int ?_ (by walk_at "mulok"))))
  (k_with "setItem ref int" => (k_here; (with_reducible show wpAny _ _ (setItem (Value.ref _) (Value.int _ _) (Value.int _ _)) _ _ _); k_dflt (refine' ksa_set (by k_asm) (by k_asm) (by k_upd) (by with_reducible assumption) (by omega) (by omega) (by omega) ?_); k_whole; intro h' F' N' hi' hl' hs'; (try k_sweep)))
  (k_with "nn" => first | omega | ((rename ShB _ => hShB); exact (hShB _ (by omega) (by omega)).1))
  (k_with "lsz" => ((rename ShB _ => hShB); (rename BitsB _ => hBB); first | exact lsz_of (BitsB.fdiv _ hBB) (hShB _ (by omega) (by omega)).2 | exact lsz_of hBB (hShB _ (by omega) (by omega)).2))
  (k_with "binaryOp RShift int int" => (k_here; k_dflt (refine rshift_int (by walk_at "nn") ?_)))
  (k_with "binaryOp RShift int int" => (k_here; with_reducible refine rshift1 ?_))
  (k_with "binaryOp LShift int int" => (k_here; k_dflt (refine lshift_int (by walk_at "nn") (by walk_at "lsz") ?_)))
  (k_with "truthy ref" => (k_dflt (refine' truthyLed (by k_asm) (by walk_at "inrest") (by walk_at "lenfit") ?_); intro _))
  (k_with "lenfit" => first | omega | ((have hl9 := IntsAre.length (by assumption)); (try simp only [List.length_map, List.length_replicate] at *); omega))
  (k_with "subscriptTail" => (k_here; (with_reducible show wpAny _ _ (subscriptTail _ _ (Value.ref _) (Value.int _ _)) _ _ _); k_dflt (refine' ksa_sub (by k_asm) (by walk_at "inrest") (by with_reducible assumption) (by omega) (by first | omega | (rw [List.length_map]; omega)) (by omega) ?_ (by with_unfolding_all rfl)); intro _))
  (k_with "call builtin:list.append" => (k_here; k_dflt (refine' appendLed (by k_asm) (by k_asm) (by k_upd) (by walk_at "lenfit") ?_; k_whole); intro h' F' N'; (try k_sweep)))
  (k_with "call builtin:list.reverse" => (k_here; k_dflt (refine' reverseLed (by k_asm) (by k_asm) (by k_upd) (by walk_at "lenfit") ?_; k_whole); intro h' F' N'; (try k_sweep)))
  (k_with "call type:reversed" => (k_here; (with_reducible show wpAny _ _ (call (Value.type _) [Value.ref _]) _ _ _); k_dflt (refine' krv_reversed (by k_asm) (by k_asm) (News.isList (by k_asm) (by walk_at "inrest")) ?_); intro D' h' F' N' lrev; have l1 := lrev; (try k_lt l1); (try k_sweep)))
  (k_with "mlook" => first | with_reducible assumption | exact if_pos rfl | exact rfl | (refine (if_neg (by decide)).trans ?_; walk_at "mlook"))
  (k_with "eval Name" => (k_here; (rename MapMark => hMM); k_dflt (refine' nameX_L (by k_asm) (by walk_at "mlook") ?_ (by rfl) (by rfl)); k_whole))
  (k_with "newList" => (k_here; (with_reducible refine' newList_K (by k_asm) (by k_asm) ?_ (by exact Nat.le_of_ble_eq_true rfl)); k_whole; intro l' h' F' N' lnew; have l1 := lnew; (try k_lt l1); (try k_sweep)))
  (k_with "lsz" => ((rename BitsB _ => hBB); exact lsz_of hBB (by omega)))
  (k_with "newTuple" => (k_here; k_dflt (refine' newTupLed (by k_asm) (by k_asm) (by exact Nat.le_of_ble_eq_true rfl) ?_; k_whole); intro q' h' F' N' ltup; have l1 := ltup; (try k_lt l1); (try k_sweep)))
  (k_with "pick" => first | exact Pick.head | (apply Pick.tail; walk_at "pick"))
  (k_with "sub" => (intro q9 hq9; repeat (first | exact hsub0 _ hq9 | exact hq9 | apply List.mem_cons_of_mem)))
  (k_with "call builtin:len" => ((with_reducible show wpAny _ _ (call (Value.builtin "len") [Value.ref _]) _ _ _); k_dflt (refine' lenLed (by k_asm) (by walk_at "inrest") (by first | walk_at "lenfit" | (simp only [List.length_replicate]; omega)) ?_)))
  (k_with "exec FunctionDef" => (k_here; kn_here; k_dflt (refine' nestDef_K (by exact rfl) (by exact rfl) (by exact rfl) ?_); k_dflt (refine' nestTab (by k_asm) (by k_asm) (by k_asm) (by kn_code) (by exact rfl) (by k_updF) (by assumption) (by walk_at "sub") (by walk_at "AllLt") (List.mem_cons_self ..) (by exact rfl) ?_; k_whole); intro f' c' oc' vs' t' ct' dc' h' tk' ps' F' N' d1' d2' tc' hin' l1 l2; have hin2 := hin'.imp And.right And.right; (try dsimp only at N'); (try k_lt2 l1); (try k_lt l2)))
  exact ⟨rfl, rfl⟩
set_option maxRecDepth 100000 in
set_option maxHeartbeats 8000000 in
theorem divmod_pos_ct (w : World) (a b n cnt : Nat) (t1 t2 : Tok) (news : Led) (p30 p37 : Array Value) (hn : n = Builtin.Int.intBits (b : Int)) (hb0 : 0 < b) (hbn : b < 2 ^ n) (hn0 : 0 < n) (hn1 : n ≤ 4000)
    (hcnt : ((Builtin.Int.intBits (a : Int) : Int) + (n : Int) - 1).fdiv n = (cnt : Int)) (hc : cnt ≤ 256) (ha : a < 2 ^ (n * cnt)) (h30 : ∀ p ∈ news, p.1 ≠ 30) (h37 : ∀ p ∈ news, p.1 ≠ 37)
    (S30 : TabSt pos35 "_int2digits.<locals>.inner" p30 news) (S37 : TabSt pos42 "_digits2int.<locals>.inner" p37 news) :
   Ct w 49 [.int a t1, .int b t2] 30 300 ((30, tabObj p30) :: (37, tabObj p37) :: news) (fun h => CodeHd h 34 30 ∧ CodeHd h 41 37) fun v nw => ∃ q t1 t2 p30' p37' ex, v = .ref q ∧ nw = (q, tupObj #[.int (a / b : Nat) t1, .int (a % b : Nat) t2]) :: (30, tabObj p30') :: (37, tabObj p37') :: (ex ++ news) ∧
     TabSt pos35 "_int2digits.<locals>.inner" p30' (ex ++ news) ∧ TabSt pos42 "_digits2int.<locals>.inner" p37' (ex ++ news) ∧ (∀ p ∈ (30, tabObj p30) :: (37, tabObj p37) :: (ex ++ news), p.1 < q) ∧ (∀ e ∈ ex, ∀ p ∈ (30, tabObj p30) :: (37, tabObj p37) :: news, p.1 < e.1) := by
  intro p loose mean mg mb dp un gd cn cs ca ccd cl outer A₀ base h₀ L m s Q E B F X N T hk hC hd hu hret
  have hsd : SmallDiv (Builtin.Int.intBits (b : Int) : Int) := smallDiv_nat (by omega)
  subst hn
  walk_at "enter"
  k_steps
  k_dflt refine' ctUse (int2digits_ct w a (Builtin.Int.intBits (b : Int)) cnt _ _ ((37, tabObj p37) :: news) news (fun p hp => List.mem_cons_of_mem _ hp) p30 hn0 (by omega) hsd (List.forall_mem_cons.mpr ⟨(show (37 : Nat) ≠ 30 by decide), h30⟩) hcnt hc ha S30)
    (by k_asm) (by k_asm) (by k_asm) (by k_asm) (by k_asm) (by walk_at "K") hC.1 (by walk_at "D") (by walk_at "U") ?qaret
  intro v nw h1' tk1' hp F1 N1
  obtain ⟨q0, vs0, p30', ex, hv, hi0, hnw, T30, hlt0, hex⟩ := hp
  subst hv hnw
  rw [digs_putD] at hi0
  (try k_fold)
  k_steps
  have hbase : ∀ p ∈ (q0, listOf vs0.toArray 0) :: (30, tabObj p30') :: (ex ++ (37, tabObj p37) :: news), p.1 < l' := lnew
  have hD : ∀ p ∈ (l', listOf (List.toArray []) 0) :: (q0, listOf vs0.toArray 0) :: (30, tabObj p30') :: (ex ++ (37, tabObj p37) :: news), p.1 < D' := lrev
  have hlD := ltN (hD _ (List.mem_cons_self ..))
  have hne : ∀ p ∈ (q0, listOf vs0.toArray 0) :: (30, tabObj p30') :: (ex ++ (37, tabObj p37) :: news), p.1 ≠ l' := fun p hp => Nat.ne_of_lt (hbase p hp)
  clear lrev lnew
  k_dflt refine' iter_revUnr (by exact rfl) (by k_asm) (by k_asm) (offI_raw hD) (List.mem_cons_of_mem _ (List.mem_cons_self ..)) (by exact rfl) (by exact rfl) ?_
  refine revInd (fun r m nw => ∃ (qs hi dr : List Nat) (vq : List Value) (ep rr : Nat) (tr tb tn : Tok), nw = (l', listOf vq.toArray ep) :: (q0, listOf vs0.toArray 0) :: (30, tabObj p30') :: (ex ++ (37, tabObj p37) :: news) ∧ IntsAre vq (qs.map Int.ofNat) ∧ IntsAre r (dr.map Int.ofNat) ∧
    (digs (Builtin.Int.intBits (b : Int)) a cnt).reverse = hi ++ dr ∧ horner (Builtin.Int.intBits (b : Int)) hi = horner (Builtin.Int.intBits (b : Int)) qs * b + rr ∧ rr < b ∧ (∀ q ∈ qs, q < 2 ^ Builtin.Int.intBits (b : Int)) ∧ qs.length = hi.length ∧
    m "r" = some (.int rr tr) ∧ m "q_digits" = some (.ref l') ∧ m "b" = some (.int b tb) ∧ m "n" = some (.int (Builtin.Int.intBits (b : Int) : Nat) tn)) ?step ?fin _ _ _ ?init
  case init =>
    refine ⟨[], [], (digs (Builtin.Int.intBits (b : Int)) a cnt).reverse, [], 0, 0, _, _, _, rfl, .nil, ?_, rfl, ?_, hb0, ?_, rfl, rfl, rfl, rfl, rfl⟩
    · rw [List.map_reverse]; exact intsRev hi0
    · exact (Nat.zero_mul b).symm
    · exact fun _ h => nomatch h
  case fin =>
    intro m1 nw hI hh tk1 F2 N2
    obtain ⟨qs, hi, dr, vq, ep, rr, tr, tb, tn, hnw, hiq, hir, hsplit, hhor, hrr, hqs, hlen, hmr, hmq, hmb, hmn⟩ := hI
    have hdr := intsNil hir
    subst hnw hdr
    rw [List.append_nil] at hsplit
    have hvq : vq.length ≤ 256 := by
      rw [hiq.length, List.length_map, hlen, ← hsplit, List.length_reverse, digs_length]
      exact hc
    have mm : MapMark := ⟨⟩
    try dsimp only
    k_steps
    rename News _ _ _ _ => NN
    have N4 : News _ _ _ ((37, tabObj p37) :: (l', listOf vq.reverse.toArray ep) :: (30, tabObj p30') :: (ex ++ news)) := fun p hp => NN p (by
      simp only [List.mem_cons, List.mem_append] at hp ⊢
      rcases hp with hp | hp | hp | hp | hp <;> simp only [hp, true_or, or_true])
    have hl37 := hbase (37, tabObj p37) (by simp)
    k_dflt refine' ctUseN N4 (digits2int_ct w (Builtin.Int.intBits (b : Int)) l' ep vq.reverse qs.reverse _ _ news (fun p hp => by simp [hp]) p37 (by omega) ?qc1 (List.mem_cons_self ..) ?qc2 ?qc3 ?qc4 S37)
      (by k_asm) (by k_asm) (by k_asm) (by k_asm) (by walk_at "K") hC.2 (by walk_at "D") (by walk_at "U") ?qcret
    case qc1 =>
      refine List.forall_mem_cons.mpr ⟨Nat.ne_of_gt hl37, List.forall_mem_cons.mpr ⟨(show (30 : Nat) ≠ 37 by decide), fun p hp => ?_⟩⟩
      rcases List.mem_append.mp hp with hp | hp
      · exact Nat.ne_of_gt ((hex p hp).2 (37, tabObj p37) (by simp))
      · exact h37 p hp
    case qc2 => rw [List.map_reverse]; exact intsRev hiq
    case qc3 => exact fun d hd => hqs d (List.mem_reverse.mp hd)
    case qc4 => rw [List.length_reverse, hlen, ← hsplit, List.length_reverse, digs_length]; exact hc
    intro v2 nw2 h2' tk2' hp2 F3 N3
    obtain ⟨tq, p37', ex2, hv2, hnw2, T37, hex2⟩ := hp2
    subst hv2 hnw2
    (try k_fold)
    k_steps
    have hdm := horner_end hhor hrr (by rw [← hsplit, ← horner_valL, valL_digs _ _ _ ha])
    have hq5 : valL (Builtin.Int.intBits (b : Int)) qs.reverse = a / b := by rw [horner_valL, List.reverse_reverse, hdm.1]
    rename News _ _ _ _ => N5
    rw [hq5, ← hdm.2] at N5
    refine hret _ _ _ _ ⟨q', tq, tr, p30', p37', ex2 ++ ex, rfl, rfl, tabStMono T30 (by simp +contextual [or_imp]), tabStMono T37 (by simp +contextual [or_imp]), ?qe1, ?qe2⟩ (by k_asm) ?qe3
    case qe1 =>
      intro p hp
      rcases List.mem_cons.mp hp with e | hp
      · rw [e]; exact ltup (30, tabObj p30') (by simp)
      · rcases List.mem_cons.mp hp with e | hp
        · rw [e]; exact ltup (37, tabObj p37') (by simp)
        · refine ltup p ?_
          simp only [List.mem_cons, List.mem_append] at hp ⊢
          rcases hp with (hp | hp) | hp <;> simp only [hp, true_or, or_true]
    case qe2 =>
      intro e he p hp
      rcases List.mem_append.mp he with he | he
      · rcases List.mem_cons.mp hp with q | hp
        · rw [q]; exact hex2 e he (30, tabObj p30') (by simp)
        · refine hex2 e he p ?_
          simp only [List.mem_cons, List.mem_append] at hp ⊢
          rcases hp with hp | hp <;> simp only [hp, true_or, or_true]
      · exact (hex e he).2 p hp
    case qe3 =>
      intro p hp
      refine N5 p ?_
      simp only [List.mem_cons, List.mem_append] at hp ⊢
      rcases hp with hp | hp | hp | (hp | hp) | hp <;> simp only [hp, true_or, or_true]
  case step =>
    intro v r m1 nw hI it hh tk1 hcls F2 N2
    obtain ⟨qs, hi, dr, vq, ep, rr, tr, tb, tn, hnw, hiq, hir, hsplit, hhor, hrr, hqs, hlen, hmr, hmq, hmb, hmn⟩ := hI
    obtain ⟨d, dr', td, hdr, hv, hir'⟩ := intsCons hir
    subst hnw hv
    have mm : MapMark := ⟨⟩
    have hbb : BitsB (rr : Int) := bitsB_nat (Nat.lt_trans hrr hbn) (by omega)
    have hdl : d < 2 ^ Builtin.Int.intBits (b : Int) := digs_lt (a := a) (cnt := cnt) (List.mem_reverse.mp (by rw [hsplit, hdr]; exact List.mem_append_right _ (List.mem_cons_self ..)))
    have hstep := step_lt hrr hdl
    have hvq : vq.length ≤ 256 := by
      have h9 := congrArg List.length hsplit
      rw [List.length_reverse, digs_length, List.length_append] at h9
      rw [hiq.length, List.length_map, hlen]
      omega
    k_steps
    rw [stepVal]
    k_dflt refine' ctUse (div2n1n_ct w _ _ _ _ _ _ _ ?qb1 ?qb2 ?qb3) (by k_asm) (by k_asm) (by k_asm) (by k_asm) (by k_asm) (by walk_at "K") (by exact trivial) (by walk_at "D") (by walk_at "U") ?qbret
    case qb1 =>
      have := intBits_lt (x := rr * 2 ^ Builtin.Int.intBits (b : Int) + d) (k := Builtin.Int.intBits (b : Int) + Builtin.Int.intBits (b : Int)) (by rw [Nat.pow_add]; exact Nat.lt_of_lt_of_le hstep (Nat.mul_le_mul_right _ (Nat.le_of_lt hbn)))
      omega
    case qb2 => omega
    case qb3 => exact smallDiv_bits hn1
    intro v2 nw2 h2' tk2' hp2 F3 N3
    obtain ⟨qt, ta, tb2, hv2, hnw2, hlt2⟩ := hp2
    subst hv2 hnw2
    have hq1 := ltN (hlt2 _ (List.mem_cons_of_mem _ (List.mem_cons_self ..)))
    have hq2 := ltN (hlt2 _ (List.mem_cons_self ..))
    dsimp only at hq1 hq2 hlD
    rw [fdivNat, fmodNat] at N3
    (try k_fold)
    k_steps
    refine UnrEnd.intro (by k_asm) (by k_asm) ((l', listOf (vq ++ [Value.int ((rr * 2 ^ Builtin.Int.intBits (b : Int) + d) / b : Nat) ta]).toArray (ep + 1)) :: (q0, listOf vs0.toArray 0) :: (30, tabObj p30') :: (ex ++ (37, tabObj p37) :: news)) (fun p hp => List.mem_cons_of_mem _ hp)
      (List.forall_mem_cons.mpr ⟨Nat.ne_of_lt hlD, fun p hp => Nat.ne_of_lt (Nat.lt_trans (hbase p hp) hlD)⟩) ⟨List.mem_cons_of_mem _ (List.mem_cons_self ..),
      qs ++ [(rr * 2 ^ Builtin.Int.intBits (b : Int) + d) / b], hi ++ [d], dr', vq ++ [_], ep + 1, (rr * 2 ^ Builtin.Int.intBits (b : Int) + d) % b, tb2, tb, tn, rfl, ?qi1, hir', ?qi2, ?qi3, Nat.mod_lt _ hb0, ?qi4, ?qi5, by walk_at "mlook", by walk_at "mlook", by walk_at "mlook", by walk_at "mlook"⟩
    case qi1 => rw [List.map_append]; exact intsSnoc hiq
    case qi2 => rw [hsplit, hdr, List.append_assoc]; rfl
    case qi3 => exact horner_step hhor
    case qi4 =>
      intro q hq
      rcases List.mem_append.mp hq with hq | hq
      · exact hqs q hq
      · rw [List.mem_singleton.mp hq]
        exact Nat.div_lt_of_lt_mul hstep
    case qi5 => rw [List.length_append, List.length_append, hlen]; rfl
end
example (w : World) : (rwQ = rwQ) ∧ (Kq w.params = Kq w.params) := by
  k_fill
  exact ⟨rfl, rfl⟩
/-- what int_divmod's helpers need of a dividend and a divisor, both without their signs -/
noncomputable def DmPre (a b : Nat) : Prop := ∃ cnt : Nat, 0 < b ∧ b < 2 ^ Builtin.Int.intBits (b : Int) ∧ 0 < Builtin.Int.intBits (b : Int) ∧ Builtin.Int.intBits (b : Int) ≤ 4000 ∧
  ((Builtin.Int.intBits (a : Int) : Int) + (Builtin.Int.intBits (b : Int) : Int) - 1).fdiv (Builtin.Int.intBits (b : Int) : Int) = (cnt : Int) ∧ cnt ≤ 256 ∧ a < 2 ^ (Builtin.Int.intBits (b : Int) * cnt)
noncomputable def Tabs (p30 p37 : Array Value) (news : Led) : Prop := (∀ p ∈ news, p.1 ≠ 30) ∧ (∀ p ∈ news, p.1 ≠ 37) ∧ TabSt pos35 "_int2digits.<locals>.inner" p30 news ∧ TabSt pos42 "_digits2int.<locals>.inner" p37 news
noncomputable def dmPost (a b : Int) (p30 p37 : Array Value) (news : Led) (v : Value) (nw : Led) : Prop := ∃ q t1 t2 p30' p37' ex, v = .ref q ∧ nw = (q, tupObj #[.int (a.fdiv b) t1, .int (a.fmod b) t2]) :: (30, tabObj p30') :: (37, tabObj p37') :: (ex ++ news) ∧
  Tabs p30' p37' (ex ++ news) ∧ (∀ p ∈ (30, tabObj p30) :: (37, tabObj p37) :: (ex ++ news), p.1 < q) ∧ (∀ e ∈ ex, ∀ p ∈ (30, tabObj p30) :: (37, tabObj p37) :: news, p.1 < e.1)
theorem negFdiv (a b : Nat) (hb : 0 < b) : ((-(a : Int) - 1).fdiv b = -((a / b : Nat) : Int) - 1) ∧ ((-(a : Int) - 1).fmod b = b + (-((a % b : Nat) : Int) - 1)) := by
  have h1 : (-(a : Int) - 1).fdiv b = -((a / b : Nat) : Int) - 1 := by
    rw [Int.fdiv_eq_ediv_of_nonneg _ (Int.natCast_nonneg _)]
    have h2 := Nat.div_add_mod a b
    have h3 := Nat.mod_lt a hb
    have h4 : (-(a : Int) - 1) = (b : Int) * (-((a / b : Nat) : Int) - 1) + ((b - 1 - a % b : Nat) : Int) := by
      rw [Int.mul_sub, Int.mul_neg, ← Int.natCast_mul]
      omega
    rw [h4, Int.mul_add_ediv_left _ _ (by omega), Int.ediv_eq_zero_of_lt (by omega) (by omega), Int.add_zero]
  refine ⟨h1, ?_⟩
  rw [Int.fmod_def, h1, Int.mul_sub, Int.mul_neg, ← Int.natCast_mul]
  have := Nat.div_add_mod a b
  omega
theorem negNeg (a b : Int) : (-a).fdiv (-b) = a.fdiv b ∧ -((-a).fmod (-b)) = a.fmod b := by
  have h : (-a).fdiv (-b) = a.fdiv b := by
    rw [Int.neg_fdiv_neg]
  refine ⟨h, ?_⟩
  rw [Int.fmod_def, Int.fmod_def, h, Int.neg_mul]
  omega
theorem natAbs_pos_eq (b : Nat) : Int.natAbs (b : Int) = b := rfl
theorem dmPre_of {a b : Nat} (ha : a < 2 ^ 3000) (hb : 2 ^ 16 ≤ b) (hb2 : b < 2 ^ 3000) : DmPre a b := by
  have hb0 : 0 < b := Nat.lt_of_lt_of_le (Nat.pow_pos (by decide)) hb
  have hne : ((b : Int) == 0) = false := by simp; omega
  have hB : Builtin.Int.intBits (b : Int) = b.log2 + 1 := by unfold Builtin.Int.intBits; rw [hne]; rfl
  have hlo : 16 ≤ b.log2 := (Nat.le_log2 (by omega)).mpr hb
  have hhi : b.log2 < 3000 := (Nat.log2_lt (by omega)).mpr hb2
  have hA : Builtin.Int.intBits (a : Int) ≤ 3000 := intBits_lt ha
  have hbn : b < 2 ^ (b.log2 + 1) := Nat.lt_log2_self
  rw [DmPre, hB]
  refine ⟨(Builtin.Int.intBits (a : Int) + b.log2) / (b.log2 + 1), hb0, hbn, Nat.succ_pos _, by omega, ?_, ?_, ?_⟩
  · rw [Int.fdiv_eq_ediv_of_nonneg _ (Int.natCast_nonneg _)]
    have e : ((Builtin.Int.intBits (a : Int) : Int) + ((b.log2 + 1 : Nat) : Int) - 1) = ((Builtin.Int.intBits (a : Int) + b.log2 : Nat) : Int) := by omega
    rw [e]; rfl
  · have : (Builtin.Int.intBits (a : Int) + b.log2) / (b.log2 + 1) < 257 := by
      rw [Nat.div_lt_iff_lt_mul (Nat.succ_pos _)]
      omega
    omega
  · have h1 : a < 2 ^ Builtin.Int.intBits (a : Int) := by
      unfold Builtin.Int.intBits
      split
      · rename_i h0
        have : a = 0 := by simpa using h0
        omega
      · exact Nat.lt_log2_self
    refine Nat.lt_of_lt_of_le h1 (Nat.pow_le_pow_right (by decide) ?_)
    have h2 := Nat.div_add_mod (Builtin.Int.intBits (a : Int) + b.log2) (b.log2 + 1)
    have h3 : (Builtin.Int.intBits (a : Int) + b.log2) % (b.log2 + 1) < b.log2 + 1 := Nat.mod_lt _ (Nat.succ_pos b.log2)
    omega
/-- the sizes that a call of int_divmod must keep -/
noncomputable def DmOk (a b : Int) : Prop := a.natAbs < 2 ^ 3000 ∧ 2 ^ 16 ≤ b.natAbs ∧ b.natAbs < 2 ^ 3000
section
variable {prog : Program} {w : World} {A : Around} {E : Value → Shared → Prop} {s : Shared} {env : Env} {h₀ : Heap} {x : Str} {body : List Stmt} {Q : Flow → Shared → Prop}
/-- a loop over a range by an invariant over the turn's number, the frame and the ledger -/
theorem rangeInd {I : Addr} {a : Int} {n : Nat} (Inv : Nat → (Str → Option Value) → Led → Prop)
    (step : ∀ i m news, i < n → Inv i m news → ∀ t h tk, Fr h₀ env.locals h (fun y => if y = x then some (.int (a + (i : Int)) t) else m y) → News h₀ env.locals h ((I, itR (a + ((i + 1 : Nat) : Int)) ((n : Int) - ((i + 1 : Nat) : Int))) :: news) →
      wpAny (model prog w) A (execs body env) (UnrPost h₀ env.locals { s with heap := h, toks := tk } I (itR (a + ((i + 1 : Nat) : Int)) ((n : Int) - ((i + 1 : Nat) : Int))) (Inv (i + 1)) Q) E { s with heap := h, toks := tk })
    (fin : ∀ m news, Inv n m news → ∀ h tk, Fr h₀ env.locals h m → News h₀ env.locals h news → Q .next { s with heap := h, toks := tk }) :
    ∀ k i m news, i + k = n → Inv i m news → RangeRest prog w A E h₀ env x body Q s I a n k i m news := by
  intro k
  induction k with
  | zero => intro i m news e hI; subst e; exact fin m news hI
  | succ k ih =>
    intro i m news e hI t h tk F N
    exact wpAny_mono (step i m news (by omega) hI t h tk F N) (fun f s₂ hp => unrPostMono (fun m' n' q => ih (i + 1) m' n' (by omega) q) hp) fun _ _ e => e
end
section
example (w : World) : (rwQ = rwQ) ∧ (Kq w.params = Kq w.params) := by
  k_with_none
  k_fill
  (k_with "B" => k_asm)
  (k_with "K" => first | exact rfl | assumption)
  (k_with "C" => first | assumption | trivial)
  (k_with "D" => first | (change dp + 1 + _ < _; omega) | omega | ktr_room)
  (k_with "U" => first | (change un + 3 + _ < _; omega) | omega | ktr_units)
  (k_with "call builtin:divmod" => ((with_reducible show wpAny _ _ (call (Value.builtin _) [Value.int _ _, Value.int _ _]) _ _ _); (rename SmallDiv _ => hSd); refine divmod_N (by assumption) (by assumption) (by assumption) ?_ (Or.inl (PyProof.noPylong_of_log2 hSd)); intro _ _ _))
  (k_with "binaryOp FloorDiv int int" => ((rename SmallDiv _ => hSd); refine floordiv_sd hSd (by first | assumption | omega) ?_))
  (k_with "AllLt" => first | assumption | exact And.right (by assumption) | exact And.right (And.right (by assumption)) | exact And.right (And.right (And.right (by assumption))) | exact And.right (And.right (And.right (And.right (by assumption)))) | exact And.right (And.right (And.right (And.right (And.right (by assumption))))) | exact And.right (And.right (And.right (And.right (And.right (And.right (by assumption)))))) | exact And.right (And.right (And.right (And.right (And.right (And.right (And.right (by assumption)))))))  | exact And.right (And.right (And.right (And.right (And.right (And.right (And.right (And.right (by assumption)))))))))
  (k_with "k_all" => first | with_reducible assumption | exact allNe0 (by walk_at "AllLt") | exact allNe1 (by walk_at "AllLt") | exact allNe2 (by walk_at "AllLt") | exact allNe3 (by walk_at "AllLt") | exact List.forall_mem_nil _ | (refine' List.forall_mem_cons.mpr ⟨?_, ?_⟩; (focus k_ne); k_all))
  (k_with "binaryOp Mult ref int" => (k_here; (rename CntOk _ => hCo); k_dflt (refine' mulRep (by k_asm) (by k_asm) (by k_mem) hCo ?_); k_whole; intro l' h' F' N' l1; (try k_lt l1); (try k_sweep)))
  (k_with "enter" => (refine wpAny_call ?_; k_dflt cell_enter))
  (k_with "enter C" => (refine wpAny_call ?_; k_dflt ((refine' code_defC (by k_asm) (by k_asm) (by k_asm) (by k_asm) (by k_asm) (by exact rfl) (by exact rfl) (by assumption) (by k_is) (by k_is) (by ktr_room) (by exact BindsTo.of_eq rfl) (by exact rfl) (by decide +kernel) ?_ (by exact rfl) (by exact rfl) (by exact rfl)); k_whole; intro g' L' h' tk' cells' FG' F' N' Y' B' X' T' l1; (try k_lt l1); k_cells Y'; (try simp only [List.cons_append, List.nil_append] at N'); (try dsimp only); (try k_lift B'); (try k_fold))))
  (k_with "enter N" => (refine wpAny_call ?_; k_dflt (refine' code_nest (by k_asm) (by k_asm) (by k_asm) (by k_asm) (by k_asm) (by exact rfl) (by exact rfl) (by assumption) (by walk_at "inrest") (codeRec_news (by k_asm) (by walk_at "inrest") (by assumption) (by assumption)) (by ktr_room) (by exact BindsTo.of_eq rfl) (by exact locs rfl) ?_ (by exact rfl) (by exact rfl) (by exact rfl) (by decide); k_whole; intro g' L' h' FG' F' N' B' X' T'; (try dsimp only); (try k_lift B'))))
  (k_with "eval Name" => (k_here; kc_free; k_dflt (refine' nameX_F (by k_asm) (by exact rfl) (by walk_at "inrest") (by with_reducible assumption) ?_ (by exact rfl) (by exact rfl)); k_whole))
  (k_with "inrest" => first | with_reducible assumption | exact List.mem_cons_self .. | assumption | (refine List.mem_cons_of_mem _ ?_; walk_at "inrest"))
  (k_with "FnAt" => (k_dflt (exact FnAt.of (by k_asm) (by walk_at "inrest"))))
  (k_with "callWith ref" => (k_here; kn_here; k_dflt (first
    | (refine' callWith_F (FnAt.of (by k_asm) (by walk_at "inrest")) ?_; k_whole)
    | (refine' callWith_F0 (FnAt.of (by k_asm) (by walk_at "inrest")) ?_; k_whole; try dsimp only [List.nil_append, List.cons_append]))))
  (k_with "mulok" => first | assumption | exact PySem.IntMulOk.of_left (bits64 (by omega)) | exact PySem.IntMulOk.of_right (bits64 (by omega)))
  (k_with "binaryOp Mult int int" => (k_here; k_dflt (refine mul_int ?_ (by walk_at "mulok"))))
  (k_with "setItem ref int" => (k_here; (with_reducible show wpAny _ _ (setItem (Value.ref _) (Value.int _ _) (Value.int _ _)) _ _ _); k_dflt (refine' ksa_set (by k_asm) (by k_asm) (by k_upd) (by with_reducible assumption) (by omega) (by omega) (by omega) ?_); k_whole; intro h' F' N' hi' hl' hs'; (try k_sweep)))
  (k_with "nn" => first | omega | ((rename ShB _ => hShB); exact (hShB _ (by omega) (by omega)).1))
  (k_with "lsz" => ((rename ShB _ => hShB); (rename BitsB _ => hBB); first | exact lsz_of (BitsB.fdiv _ hBB) (hShB _ (by omega) (by omega)).2 | exact lsz_of hBB (hShB _ (by omega) (by omega)).2))
  (k_with "binaryOp RShift int int" => (k_here; k_dflt (refine rshift_int (by walk_at "nn") ?_)))
  (k_with "binaryOp RShift int int" => (k_here; with_reducible refine rshift1 ?_))
  (k_with "binaryOp LShift int int" => (k_here; k_dflt (refine lshift_int (by walk_at "nn") (by walk_at "lsz") ?_)))
  (k_with "truthy ref" => (k_dflt (refine' truthyLed (by k_asm) (by walk_at "inrest") (by walk_at "lenfit") ?_); intro _))
  (k_with "lenfit" => first | omega | ((have hl9 := IntsAre.length (by assumption)); (try simp only [List.length_map, List.length_replicate] at *); omega))
  (k_with "subscriptTail" => (k_here; (with_reducible show wpAny _ _ (subscriptTail _ _ (Value.ref _) (Value.int _ _)) _ _ _); k_dflt (refine' ksa_sub (by k_asm) (by walk_at "inrest") (by with_reducible assumption) (by omega) (by first | omega | (rw [List.length_map]; omega)) (by omega) ?_ (by with_unfolding_all rfl)); intro _))
  (k_with "call builtin:list.append" => (k_here; k_dflt (refine' appendLed (by k_asm) (by k_asm) (by k_upd) (by walk_at "lenfit") ?_; k_whole); intro h' F' N'; (try k_sweep)))
  (k_with "call builtin:list.reverse" => (k_here; k_dflt (refine' reverseLed (by k_asm) (by k_asm) (by k_upd) (by walk_at "lenfit") ?_; k_whole); intro h' F' N'; (try k_sweep)))
  (k_with "call type:reversed" => (k_here; (with_reducible show wpAny _ _ (call (Value.type _) [Value.ref _]) _ _ _); k_dflt (refine' krv_reversed (by k_asm) (by k_asm) (News.isList (by k_asm) (by walk_at "inrest")) ?_); intro D' h' F' N' lrev; have l1 := lrev; (try k_lt l1); (try k_sweep)))
  (k_with "mlook" => first | with_reducible assumption | exact if_pos rfl | exact rfl | (refine (if_neg (by decide)).trans ?_; walk_at "mlook"))
  (k_with "eval Name" => (k_here; (rename MapMark => hMM); k_dflt (refine' nameX_L (by k_asm) (by walk_at "mlook") ?_ (by rfl) (by rfl)); k_whole))
  (k_with "newList" => (k_here; (with_reducible refine' newList_K (by k_asm) (by k_asm) ?_ (by exact Nat.le_of_ble_eq_true rfl)); k_whole; intro l' h' F' N' lnew; have l1 := lnew; (try k_lt l1); (try k_sweep)))
  (k_with "lsz" => ((rename BitsB _ => hBB); exact lsz_of hBB (by omega)))
  (k_with "newTuple" => (k_here; k_dflt (refine' newTupLed (by k_asm) (by k_asm) (by exact Nat.le_of_ble_eq_true rfl) ?_; k_whole); intro q' h' F' N' ltup; have l1 := ltup; (try k_lt l1); (try k_sweep)))
  (k_with "pick" => first | exact Pick.head | (apply Pick.tail; walk_at "pick"))
  (k_with "sub" => (intro q9 hq9; repeat (first | exact hsub0 _ hq9 | exact hq9 | apply List.mem_cons_of_mem)))
  (k_with "call builtin:len" => ((with_reducible show wpAny _ _ (call (Value.builtin "len") [Value.ref _]) _ _ _); k_dflt (refine' lenLed (by k_asm) (by walk_at "inrest") (by first | walk_at "lenfit" | (simp only [List.length_replicate]; omega)) ?_)))
  (k_with "exec FunctionDef" => (k_here; kn_here; k_dflt (refine' nestDef_K (by exact rfl) (by exact rfl) (by exact rfl) ?_); k_dflt (refine' nestTab (by k_asm) (by k_asm) (by k_asm) (by kn_code) (by exact rfl) (by k_updF) (by assumption) (by walk_at "sub") (by walk_at "AllLt") (List.mem_cons_self ..) (by exact rfl) ?_; k_whole); intro f' c' oc' vs' t' ct' dc' h' tk' ps' F' N' d1' d2' tc' hin' l1 l2; have hin2 := hin'.imp And.right And.right; (try dsimp only at N'); (try k_lt2 l1); (try k_lt l2)))
  exact ⟨rfl, rfl⟩
set_option maxRecDepth 100000 in
set_option maxHeartbeats 8000000 in
theorem intdm_pos (w : World) (a b : Nat) (hp : DmPre a b) (t1 t2 : Tok) (news : Led) (p30 p37 : Array Value) (hT : Tabs p30 p37 news) :
   Ct w 56 [.int a t1, .int b t2] 31 310 ((30, tabObj p30) :: (37, tabObj p37) :: news) (fun h => CodeHd h 34 30 ∧ CodeHd h 41 37) (dmPost a b p30 p37 news) := by
  intro p loose mean mg mb dp un gd cn cs ca ccd cl outer A₀ base h₀ L m s Q E B F X N T hk hC hd hu hret
  obtain ⟨cnt, hb0, hbn, hn0, hn1, hcnt, hc, ha⟩ := hp
  obtain ⟨h30, h37, S30, S37⟩ := hT
  have hbne : (b : Int) ≠ 0 := by omega
  walk_at "enter"
  k_steps
  any_goals (exfalso; omega)
  k_dflt refine' ctUse (divmod_pos_ct w a b _ cnt _ _ news p30 p37 rfl hb0 hbn hn0 hn1 hcnt hc ha h30 h37 S30 S37)
    (by k_asm) (by k_asm) (by k_asm) (by k_asm) (by k_asm) (by walk_at "K") hC (by walk_at "D") (by walk_at "U") ?qaret
  intro v nw h1' tk1' hp F1 N1
  obtain ⟨q, t3, t4, p30', p37', ex, hv, hnw, T30, T37, hlt, hex⟩ := hp
  subst hv hnw
  (try k_fold)
  k_steps
  refine hret _ _ _ _ ⟨q, t3, t4, p30', p37', ex, rfl, ?qb0, ⟨?qb1, ?qb2, T30, T37⟩, hlt, hex⟩ (by k_asm) (by k_asm)
  case qb0 => rw [fdivNat, fmodNat]
  case qb1 =>
    intro p hp
    rcases List.mem_append.mp hp with hp | hp
    · exact Nat.ne_of_gt (hex p hp (30, tabObj p30) (List.mem_cons_self ..))
    · exact h30 p hp
  case qb2 =>
    intro p hp
    rcases List.mem_append.mp hp with hp | hp
    · exact Nat.ne_of_gt (hex p hp (37, tabObj p37) (List.mem_cons_of_mem _ (List.mem_cons_self ..)))
    · exact h37 p hp
theorem notNeg (a : Nat) : Builtin.bitNot (-(a : Int) - 1) = a := by unfold Builtin.bitNot; omega
theorem newsSwap {h0 : Heap} {L : Addr} {h : Heap} {a b c d : Addr × Obj} {rest : Led} (N : News h0 L h (a :: b :: c :: d :: rest)) : News h0 L h (a :: c :: d :: (b :: rest)) := fun p hp => N p (by
  simp only [List.mem_cons] at hp ⊢
  rcases hp with hp | hp | hp | hp | hp <;> simp only [hp, true_or, or_true])
theorem dmPack {a b : Int} {p30 p37 p30' p37' : Array Value} {news ex : Led} {q r : Addr} {o : Obj} {ta tb : Tok}
   (hT : Tabs p30' p37' (ex ++ news)) (h1 : ∀ p ∈ (30, tabObj p30) :: (37, tabObj p37) :: (ex ++ news), p.1 < q) (h2 : ∀ e ∈ ex, ∀ p ∈ (30, tabObj p30) :: (37, tabObj p37) :: news, p.1 < e.1) (hqr : q < r) :
   dmPost a b p30 p37 news (.ref r) ((r, tupObj #[.int (a.fdiv b) ta, .int (a.fmod b) tb]) :: (30, tabObj p30') :: (37, tabObj p37') :: (((q, o) :: ex) ++ news)) := by
  have h30 : 30 < q := ltN (h1 (30, tabObj p30) (List.mem_cons_self ..))
  have h37 : 37 < q := ltN (h1 (37, tabObj p37) (List.mem_cons_of_mem _ (List.mem_cons_self ..)))
  refine ⟨r, ta, tb, p30', p37', (q, o) :: ex, rfl, rfl, ⟨List.forall_mem_cons.mpr ⟨Nat.ne_of_gt h30, hT.1⟩, List.forall_mem_cons.mpr ⟨Nat.ne_of_gt h37, hT.2.1⟩, tabStMono hT.2.2.1 (fun p hp => List.mem_cons_of_mem _ hp), tabStMono hT.2.2.2 (fun p hp => List.mem_cons_of_mem _ hp)⟩, ?_, ?_⟩
  · refine List.forall_mem_cons.mpr ⟨Nat.lt_trans h30 hqr, List.forall_mem_cons.mpr ⟨Nat.lt_trans h37 hqr, List.forall_mem_cons.mpr ⟨hqr, fun p hp => Nat.lt_trans (h1 p (List.mem_cons_of_mem _ (List.mem_cons_of_mem _ hp))) hqr⟩⟩⟩
  · refine List.forall_mem_cons.mpr ⟨List.forall_mem_cons.mpr ⟨h30, List.forall_mem_cons.mpr ⟨h37, fun p hp => h1 p (List.mem_cons_of_mem _ (List.mem_cons_of_mem _ (List.mem_append_right _ hp)))⟩⟩, h2⟩
set_option maxRecDepth 100000 in
set_option maxHeartbeats 8000000 in
theorem intdm_neg (w : World) (a b : Nat) (hp : DmPre a b) (t1 t2 : Tok) (news : Led) (p30 p37 : Array Value) (hT : Tabs p30 p37 news) :
   Ct w 56 [.int (-(a : Int) - 1) t1, .int b t2] 32 320 ((30, tabObj p30) :: (37, tabObj p37) :: news) (fun h => CodeHd h 34 30 ∧ CodeHd h 41 37) (dmPost (-(a : Int) - 1) b p30 p37 news) := by
  intro p loose mean mg mb dp un gd cn cs ca ccd cl outer A₀ base h₀ L m s Q E B F X N T hk hC hd hu hret
  have hb0 : 0 < b := hp.elim fun _ h => h.1
  have hbne : (b : Int) ≠ 0 := by omega
  walk_at "enter"
  k_steps
  any_goals (exfalso; omega)
  rw [notNeg]
  k_dflt refine' ctUse (intdm_pos w a b hp _ _ news p30 p37 hT) (by k_asm) (by k_asm) (by k_asm) (by k_asm) (by k_asm) (by walk_at "K") hC (by walk_at "D") (by walk_at "U") ?qaret
  intro v nw h1' tk1' hp1 F1 N1
  obtain ⟨q, t3, t4, p30', p37', ex, hv, hnw, hT', hlt, hex⟩ := hp1
  subst hv hnw
  rw [fdivNat, fmodNat] at N1
  (try k_fold)
  k_steps
  have hN := negFdiv a b hb0
  rename News _ _ _ (_ :: _) => N9
  have N10 := newsSwap N9
  have e1 : Builtin.bitNot ((a / b : Nat) : Int) = (-(a : Int) - 1).fdiv b := hN.1.symm
  have e2 : (b : Int) + Builtin.bitNot ((a % b : Nat) : Int) = (-(a : Int) - 1).fmod b := hN.2.symm
  rw [e1, e2] at N10
  exact hret _ _ _ _ (dmPack hT' hlt hex l1.1) (by k_asm) N10
theorem ctW {w : World} {f : Addr} {vs : List Value} {dd uu dd' uu' : Nat} {news : Led} {C : Heap → Prop} {post : Value → Led → Prop} (h : Ct w f vs dd uu news C post) (h1 : dd ≤ dd') (h2 : uu ≤ uu') : Ct w f vs dd' uu' news C post := by
  intro p loose mean mg mb dp un gd cn cs ca ccd cl outer A₀ base h₀ L m s Q E B F X N T hk hC hd hu hret
  exact ctUse h B F X N T hk hC (by omega) (by omega) hret
theorem intdm_up (w : World) (a : Int) (b : Nat) (hb0 : 0 < b) (hp : DmOk a b) (t1 t2 : Tok) (news : Led) (p30 p37 : Array Value) (hT : Tabs p30 p37 news) :
   Ct w 56 [.int a t1, .int b t2] 32 320 ((30, tabObj p30) :: (37, tabObj p37) :: news) (fun h => CodeHd h 34 30 ∧ CodeHd h 41 37) (dmPost a b p30 p37 news) := by
  obtain ⟨h1, h2, h3⟩ := hp
  rw [natAbs_pos_eq] at h2 h3
  by_cases ha : 0 ≤ a
  · obtain ⟨n, rfl⟩ := Int.eq_ofNat_of_zero_le ha
    exact ctW (intdm_pos w n b (dmPre_of h1 h2 h3) t1 t2 news p30 p37 hT) (by decide) (by decide)
  · have e : a = -(((-a - 1).toNat : Nat) : Int) - 1 := by omega
    have h4 : (-a - 1).toNat < 2 ^ 3000 := by omega
    have h5 := intdm_neg w (-a - 1).toNat b (dmPre_of h4 h2 h3) t1 t2 news p30 p37 hT
    rw [← e] at h5
    exact h5
set_option maxRecDepth 100000 in
set_option maxHeartbeats 8000000 in
theorem intdm_down (w : World) (a : Int) (b : Nat) (hb0 : 0 < b) (hp : DmOk a b) (t1 t2 : Tok) (news : Led) (p30 p37 : Array Value) (hT : Tabs p30 p37 news) :
   Ct w 56 [.int a t1, .int (-(b : Int)) t2] 34 340 ((30, tabObj p30) :: (37, tabObj p37) :: news) (fun h => CodeHd h 34 30 ∧ CodeHd h 41 37) (dmPost a (-(b : Int)) p30 p37 news) := by
  intro p loose mean mg mb dp un gd cn cs ca ccd cl outer A₀ base h₀ L m s Q E B F X N T hk hC hd hu hret
  have hbne : (b : Int) ≠ 0 := by omega
  walk_at "enter"
  k_steps
  any_goals (exfalso; omega)
  rw [Int.neg_neg]
  k_dflt refine' ctUse (intdm_up w (-a) b hb0 ⟨by rw [Int.natAbs_neg]; exact hp.1, hp.2⟩ _ _ news p30 p37 hT) (by k_asm) (by k_asm) (by k_asm) (by k_asm) (by k_asm) (by walk_at "K") hC (by walk_at "D") (by walk_at "U") ?qaret
  intro v nw h1' tk1' hp1 F1 N1
  obtain ⟨q, t3, t4, p30', p37', ex, hv, hnw, hT', hlt, hex⟩ := hp1
  subst hv hnw
  (try k_fold)
  k_steps
  have hN := negNeg a (-(b : Int))
  rw [Int.neg_neg] at hN
  rename News _ _ _ (_ :: _) => N9
  have N10 := newsSwap N9
  rw [hN.1, hN.2] at N10
  exact hret _ _ _ _ (dmPack hT' hlt hex l1.1) (by k_asm) N10
theorem intdm_ct (w : World) (a b : Int) (hp : DmOk a b) (t1 t2 : Tok) (news : Led) (p30 p37 : Array Value) (hT : Tabs p30 p37 news) :
   Ct w 56 [.int a t1, .int b t2] 34 340 ((30, tabObj p30) :: (37, tabObj p37) :: news) (fun h => CodeHd h 34 30 ∧ CodeHd h 41 37) (dmPost a b p30 p37 news) := by
  have hb : 0 < b.natAbs := Nat.lt_of_lt_of_le (Nat.pow_pos (by decide)) hp.2.1
  rcases Int.natAbs_eq b with e | e
  · rw [e] at hp ⊢
    exact ctW (intdm_up w a _ hb hp t1 t2 news p30 p37 hT) (by decide) (by decide)
  · rw [e] at hp ⊢
    exact intdm_down w a _ hb (by rw [DmOk, Int.natAbs_neg] at hp; exact hp) t1 t2 news p30 p37 hT
end
/-- a text by its signs -/
noncomputable abbrev sOf (l : List Nat) : Str := ⟨l.toArray⟩
theorem sOf_len (l : List Nat) : (sOf l).length = l.length := by simp [Str.length]
theorem sOf_app (a b : List Nat) : sOf a ++ sOf b = sOf (a ++ b) := by
  show Str.append _ _ = _
  simp [Str.append]
theorem sOf_beq (a b : List Nat) : (sOf a == sOf b) = (a == b) := by
  rw [← PyProof.Rows.toList_beq]
theorem idx_cl (i j : Nat) (len : Nat) : Builtin.Str.strSliceIndices (some (i : Int)) (some (j : Int)) 1 len = Builtin.Str.strSliceIndices (some ((min i len : Nat) : Int)) (some ((min j len : Nat) : Int)) 1 len := by
  have a : ¬ ((i : Int) < 0) := by omega
  have b : ¬ ((j : Int) < 0) := by omega
  have c : ¬ (((min i len : Nat) : Int) < 0) := by omega
  have d : ¬ (((min j len : Nat) : Int) < 0) := by omega
  have e : max (0 : Int) (min (i : Int) (len : Int)) = max (0 : Int) (min ((min i len : Nat) : Int) (len : Int)) := by omega
  have f : max (0 : Int) (min (j : Int) (len : Int)) = max (0 : Int) (min ((min j len : Nat) : Int) (len : Int)) := by omega
  have g : (1 : Int) > 0 := by decide
  simp only [Builtin.Str.strSliceIndices, a, b, c, d, if_false, if_pos g]
  rw [← e, ← f]
theorem slice_nat (l : List Nat) (i j : Nat) (h : i ≤ j) : PySem.Txt.slice (sOf l) (some (i : Int)) (some (j : Int)) = sOf ((l.drop i).take (j - i)) := by
  show StrLaws.sliceText _ _ _ = _
  have e : StrLaws.sliceText (sOf l) (some (i : Int)) (some (j : Int)) = StrLaws.sliceText (sOf l) (some ((min i l.length : Nat) : Int)) (some ((min j l.length : Nat) : Int)) := by
    unfold StrLaws.sliceText
    rw [sOf_len, idx_cl]
  rw [e, StrLaws.sliceText_nat _ (by omega) (by rw [sOf_len]; omega)]
  have : ((l.drop (min i l.length)).take (min j l.length - min i l.length)) = ((l.drop i).take (j - i)) := by
    by_cases hi : i ≤ l.length
    · rw [Nat.min_eq_left hi]
      by_cases hj : j ≤ l.length
      · rw [Nat.min_eq_left hj]
      · rw [Nat.min_eq_right (by omega)]
        rw [List.take_of_length_le (by simp), List.take_of_length_le (by simp; omega)]
    · rw [Nat.min_eq_right (a := i) (by omega), List.drop_of_length_le (l := l) (i := l.length) (Nat.le_refl _), List.drop_of_length_le (l := l) (i := i) (by omega)]
      simp
  rw [this]
theorem slice_int (l : List Nat) (i j : Int) (h0 : 0 ≤ i) (h : i ≤ j) : PySem.Txt.slice (sOf l) (some i) (some j) = sOf ((l.drop i.toNat).take (j.toNat - i.toNat)) := by
  have := slice_nat l i.toNat j.toNat (by omega)
  rw [Int.toNat_of_nonneg h0, Int.toNat_of_nonneg (by omega)] at this
  exact this
theorem slice_to (l : List Nat) (j : Int) (h : 0 ≤ j) : PySem.Txt.slice (sOf l) none (some j) = sOf (l.take j.toNat) := by
  have e : PySem.Txt.slice (sOf l) none (some j) = PySem.Txt.slice (sOf l) (some 0) (some j) := by
    show StrLaws.sliceText _ _ _ = StrLaws.sliceText _ _ _
    unfold StrLaws.sliceText; rw [StrLaws.sliceIdx_none_lo]
  rw [e, slice_int l 0 j (Int.le_refl _) h]
  simp
/-- a text of a size that fits everywhere -/
noncomputable def StrB (l : List Nat) : Prop := l.length ≤ 4096
section
variable {prog : Program} {w : World} {A : Around} {E : Value → Shared → Prop} {s : Shared} {value slice : PySem.Expr} {x : List Nat} {t : Tok} {h₀ : Heap} {L : Addr} {m : Str → Option Value} {news : Led} {Q : Value → Shared → Prop}
theorem cut_to {j : Int} {uj : Tok} (hF : Fr h₀ L s.heap m) (hN : News h₀ L s.heap news) (hb : StrB x) (h0 : 0 ≤ j) (h : ∀ h' t' k, Fr h₀ L h' m → News h₀ L h' news → Q (.str (sOf (x.take j.toNat)) t') { s with heap := h', toks := k })
    (hs : subscripted slice false (.str (sOf x) t) (.ref s.heap.objs.size) = operate [.ref s.heap.objs.size, .str (sOf x) t] (getItem (.str (sOf x) t) (.ref s.heap.objs.size)) := by with_unfolding_all rfl)
    (ht : ∀ r, letTemporaryGo value (.str (sOf x) t) r = pure () := by intro _; with_unfolding_all rfl) :
    wpAny (model prog w) A (subscriptTail value slice (.str (sOf x) t) (.ref s.heap.objs.size)) Q E { s with heap := s.heap.push { cls := .type "slice", data := .fields #[.none, .int j uj, .none] } } := by
  refine slice_strN_ns hF hN (fun h' t' k F N => ?_) hs ht (by rw [sOf_len]; exact Nat.le_trans hb (by decide))
  rw [slice_to _ _ h0]
  exact h h' t' k F N
theorem cut_ss {i j : Int} {ui uj : Tok} (hF : Fr h₀ L s.heap m) (hN : News h₀ L s.heap news) (hb : StrB x) (h0 : 0 ≤ i) (hij : i ≤ j) (h : ∀ h' t' k, Fr h₀ L h' m → News h₀ L h' news → Q (.str (sOf ((x.drop i.toNat).take (j.toNat - i.toNat))) t') { s with heap := h', toks := k })
    (hs : subscripted slice false (.str (sOf x) t) (.ref s.heap.objs.size) = operate [.ref s.heap.objs.size, .str (sOf x) t] (getItem (.str (sOf x) t) (.ref s.heap.objs.size)) := by with_unfolding_all rfl)
    (ht : ∀ r, letTemporaryGo value (.str (sOf x) t) r = pure () := by intro _; with_unfolding_all rfl) :
    wpAny (model prog w) A (subscriptTail value slice (.str (sOf x) t) (.ref s.heap.objs.size)) Q E { s with heap := s.heap.push { cls := .type "slice", data := .fields #[.int i ui, .int j uj, .none] } } := by
  refine slice_strN_ss hF hN (fun h' t' k F N => ?_) hs ht (by rw [sOf_len]; exact Nat.le_trans hb (by decide))
  rw [slice_int _ _ _ h0 hij]
  exact h h' t' k F N
theorem strAt {i : Int} {u : Tok} {c : Nat} (hb : StrB x) (h0 : 0 ≤ i) (hc : x[i.toNat]? = some c) (h : ∀ tk, Q (.str (sOf [c]) s.toks) { s with toks := tk }) :
    wpAny (model prog w) A (getItem (.str (sOf x) t) (.int i u)) Q E s := by
  have hl : i.toNat < x.length := by
    rcases Nat.lt_or_ge i.toNat x.length with h | h
    · exact h
    · rw [List.getElem?_eq_none h] at hc; cases hc
  unfold StrB at hb
  refine getItem_str (c := c) ?_ ?_ (h _)
  · simp; omega
  · have a : ¬ i < 0 := by omega
    have b : i < (x.length : Int) := by omega
    rw [List.getElem?_eq_getElem hl] at hc
    simp [seqIndex?, sOf_len, a, h0, b]
    exact Option.some.inj hc
theorem lenStr (hb : StrB x) (h : ∀ tk tk', Q (.int (x.length : Nat) tk) { s with toks := tk' }) : wpAny (model prog w) A (call (.builtin "len") [.str (sOf x) t]) Q E s := by
  refine PyProof.Rows.len_str ?_ ?_
  · unfold StrB at hb; rw [sOf_len]; omega
  · rw [sOf_len]; exact h _ _
theorem addStr {y : List Nat} {u : Tok} (hb : StrB x) (hb2 : StrB y) (h : ∀ t' tk, Q (.str (sOf (x ++ y)) t') { s with toks := tk }) : wpAny (model prog w) A (binaryOp .Add (.str (sOf x) t) (.str (sOf y) u)) Q E s := by
  refine PyProof.Rows.add_str (fun t' tk => ?_) (by rw [sOf_len, sOf_len]; unfold StrB at hb hb2; exact Nat.le_trans (Nat.add_le_add hb hb2) (by decide))
  rw [sOf_app]; exact h _ _
theorem eqStr {y : List Nat} {u : Tok} (h : Q (.bool (x == y)) s) : wpAny (model prog w) A (compareOp .Eq (.str (sOf x) t) (.str (sOf y) u)) Q E s := by
  refine PyProof.Rows.eq_str ?_
  rw [sOf_beq]; exact h
theorem neStr {y : List Nat} {u : Tok} (h : Q (.bool (!(x == y))) s) : wpAny (model prog w) A (compareOp .NotEq (.str (sOf x) t) (.str (sOf y) u)) Q E s := by
  refine PyProof.Rows.ne_str ?_
  have : (sOf x != sOf y) = !(x == y) := by rw [← sOf_beq]; rfl
  rw [this]; exact h
end
/-- where the walk is to stop -/
noncomputable def Stop (P : Prop) : Prop := P
theorem stopI {P : Prop} (h : Stop P) : P := h
section
variable {prog : Program} {w : World} {A : Around} {E : Value → Shared → Prop} {s : Shared} {x y : List Nat} {t u : Tok} {Q : Value → Shared → Prop}
theorem eqStrB {b : Bool} (hb : (x == y) = b) (h : Q (.bool b) s) : wpAny (model prog w) A (compareOp .Eq (.str (sOf x) t) (.str (sOf y) u)) Q E s := eqStr (by rw [hb]; exact h)
theorem neStrB {b : Bool} (hb : (x == y) = b) (h : Q (.bool (!b)) s) : wpAny (model prog w) A (compareOp .NotEq (.str (sOf x) t) (.str (sOf y) u)) Q E s := neStr (by rw [hb]; exact h)
end
section
variable {prog : Program} {w : World} {A : Around} {E : Value → Shared → Prop} {s : Shared} {value slice : PySem.Expr} {x : List Nat} {t : Tok} {Q : Value → Shared → Prop}
theorem strAtT {i : Int} {u : Tok} {c : Nat} (hb : StrB x) (h0 : 0 ≤ i) (hc : x[i.toNat]? = some c) (h : ∀ tk, Q (.str (sOf [c]) s.toks) { s with toks := tk })
    (hs : subscripted slice false (.str (sOf x) t) (.int i u) = operate [.str (sOf x) t, .int i u] (getItem (.str (sOf x) t) (.int i u)) := by with_unfolding_all rfl)
    : wpAny (model prog w) A (subscriptTail value slice (.str (sOf x) t) (.int i u)) Q E s := 
  tail_any (typeIs_str _ _ _) F.slot_str_getitem.lookup (strAt hb h0 hc h) hs
end
noncomputable def chs : List (List Int) := [[1, 1, 2], [1, 2, 2], [1, 1, 3], [1, 2, 3], [1, 1, 4], [1, 2, 4], [1, 3, 3], [2, 2, 3]]
noncomputable def partsAt (i t : Nat) : List Int := (chs.getD i []).drop t ++ (chs.getD i []).take t
/-- the three parts that the first cell draws -/
noncomputable def partsOf (c : Int) : List Int := partsAt (c.fmod 8).toNat ((c.fdiv 8).fmod 3).toNat
noncomputable def marksL : List (List Nat) := [[40], [41], [91], [93], [58], [44], [59], [43], [45], [42], [47], [124], [38], [60], [62], [61], [46], [37], [123], [125], [61, 61], [33, 61], [60, 61], [62, 61], [126], [94], [60, 60], [62, 62], [42, 42], [43, 61], [45, 61], [42, 61], [47, 61], [37, 61], [38, 61], [124, 61], [94, 61], [60, 60, 61], [62, 62, 61], [42, 42, 61], [47, 47], [47, 47, 61], [64], [64, 61], [45, 62], [46, 46, 46], [58, 61], [33]]
noncomputable def markI (cs : List Int) (k : Nat) : Int := (cs.getD (k + 1) 0).fmod 48
noncomputable def runsF (p : List Int) (i : Nat) : List Int := (List.range i).flatMap fun k => [p.getD k 0, p.sum - p.getD k 0]
noncomputable def factF (cs : List Int) (i : Nat) : List Int := (List.range i).map fun k => markI cs k + 7
noncomputable def pieceF (p cs : List Int) (k : Nat) : List Nat := List.replicate (p.getD k 0).toNat 34 ++ marksL.getD (markI cs k).toNat [] ++ List.replicate (p.sum - p.getD k 0).toNat 34
noncomputable def piecesF (p cs : List Int) (i : Nat) : List Str := (List.range i).map fun k => sOf (pieceF p cs k)
noncomputable def textF (p cs : List Int) : List Nat := pieceF p cs 0 ++ 44 :: (pieceF p cs 1 ++ 44 :: pieceF p cs 2)
theorem partsFin : ∀ i : Fin 8, ∀ t : Fin 3, (partsAt i t).length = 3 ∧ (partsAt i t).sum ≤ 7 ∧ 4 ≤ (partsAt i t).sum ∧ ∀ k : Fin 3, 1 ≤ (partsAt i t).getD k 0 ∧ (partsAt i t).getD k 0 + 2 ≤ (partsAt i t).sum := by decide +kernel
theorem partsOk (c : Int) : (partsOf c).length = 3 ∧ (partsOf c).sum ≤ 7 ∧ 4 ≤ (partsOf c).sum ∧ ∀ k : Nat, k < 3 → 1 ≤ (partsOf c).getD k 0 ∧ (partsOf c).getD k 0 + 2 ≤ (partsOf c).sum := by
  have h1 : (c.fmod 8).toNat < 8 := by rw [Int.fmod_eq_emod_of_nonneg _ (by decide)]; omega
  have h2 : ((c.fdiv 8).fmod 3).toNat < 3 := by rw [Int.fmod_eq_emod_of_nonneg _ (by decide)]; omega
  have := partsFin ⟨_, h1⟩ ⟨_, h2⟩
  exact ⟨this.1, this.2.1, this.2.2.1, fun k hk => this.2.2.2 ⟨k, hk⟩⟩
theorem marksLen : marksL.length = 48 := rfl
theorem marksLe : ∀ x ∈ marksL, x.length ≤ 3 := by decide
theorem markLe (i : Nat) : (marksL.getD i []).length ≤ 3 := by
  rw [List.getD_eq_getElem?_getD]
  cases h : marksL[i]? with
  | none => exact Nat.zero_le _
  | some x => exact marksLe x (List.mem_of_getElem? h)
theorem strsVals (l : List (Str × Tok)) : StrsAre (strValues l) (l.map (·.1)) := by
  induction l with
  | nil => exact .nil
  | cons x r ih => exact .cons x.1 x.2 ih
/-- the program's text of the 48 operators -/
noncomputable def marksT : Str := "( ) [ ] : , ; + - * / | & < > = . % { } == != <= >= ~ ^ << >> ** += -= *= /= %= &= |= ^= <<= >>= **= // //= @ @= -> ... := !"
set_option maxRecDepth 100000 in
theorem marksSplit : PySem.Txt.split marksT " " = marksL.map sOf := by decide +kernel
theorem repFold (k : Nat) : ∀ acc : Array Nat, ((List.replicate k (#[34] : Array Nat)).foldl (· ++ ·) acc) = acc ++ (List.replicate k 34).toArray := by
  induction k with
  | zero => intro acc; simp
  | succ k ih =>
    intro acc
    rw [List.replicate_succ, List.foldl_cons, ih, List.replicate_succ, Array.append_assoc]
    congr 1
    apply Array.toList_inj.mp
    simp
section
variable {prog : Program} {w : World} {A : Around} {E : Value → Shared → Prop} {s : Shared} {value slice : PySem.Expr} {x : List Nat} {t u : Tok} {h₀ : Heap} {L : Addr} {m : Str → Option Value} {news : Led} {Q : Value → Shared → Prop}
theorem splitMk {x y : Str} (hx : x = marksT) (hy : y = (" " : Str)) (hF : Fr h₀ L s.heap m) (hN : News h₀ L s.heap news)
    (h : ∀ D h' k mv, StrsAre mv (marksL.map sOf) → Fr h₀ L h' m → News h₀ L h' ((D, listOf mv.toArray 0) :: news) → (∀ p ∈ news, p.1 < D) → Q (.ref D) { s with heap := h', toks := k }) :
    wpAny (model prog w) A (call (.builtin "str.split") [.str x t, .str y u]) Q E s := by
  subst hx hy
  refine splitN1 hF hN (by decide) (fun l h' k e F' N' => ?_) (by decide +kernel)
  refine h _ h' k (strValues l) ?_ F' N' (fun p hp => Heap.lt_size (hN p hp).1)
  rw [← marksSplit, ← e]
  exact strsVals l
theorem mulStr {n : Int} (h0 : 0 ≤ n) (h1 : n ≤ 100) (h : ∀ t' k, Q (.str (sOf (List.replicate n.toNat 34)) t') { s with toks := k }) : wpAny (model prog w) A (binaryOp .Mult (.str (sOf [34]) t) (.int n u)) Q E s := by
  have e : PySem.Txt.mul (sOf [34]) n = sOf (List.replicate n.toNat 34) := by
    obtain ⟨k, rfl⟩ := Int.eq_ofNat_of_zero_le h0
    unfold PySem.Txt.mul
    rw [Int.toNat_natCast]
    by_cases a : (k : Int) < 1
    · rw [if_pos a, show k = 0 by omega]; rfl
    · rw [if_neg a]
      by_cases b : k = 1
      · subst b; rfl
      · have : ((k : Int) == 1 || (sOf [34]).length == 0) = false := by
          have : ¬ (k : Int) = 1 := by omega
          simp [this, sOf_len]
        rw [if_neg (by rw [this]; decide)]
        show (⟨(List.replicate k (#[34] : Array Nat)).foldl (· ++ ·) #[]⟩ : Str) = _
        rw [repFold]
        simp
  refine PySem.SB.mul ⟨?_, fun _ _ => ?_, fun _ _ => ?_⟩ fun t' k => by rw [e]; exact h t' k
  · have a : ¬ n < -(2 ^ 63 : Int) := by omega
    have b : ¬ n ≥ 2 ^ 63 := by omega
    rw [decide_eq_false a, decide_eq_false b]; rfl
  · have : (1 : Int) ≤ (2 ^ 63 - 1) / n := Int.le_ediv_of_mul_le (by omega) (by omega)
    show ¬ (1 : Int) > _
    omega
  · have : (sOf [34]).length * n.toNat ≤ 100 := by
      show 1 * n.toNat ≤ 100
      omega
    unfold Builtin.Str.tooLong
    simp only [decide_eq_false_iff_not]
    unfold sizeLine
    omega
theorem strPick {l : Addr} {vs : List Value} {e : Nat} {ys : List (List Nat)} {i : Int} (N : News h₀ L s.heap news) (hm : (l, listOf vs.toArray e) ∈ news) (hw : StrsAre vs (ys.map sOf)) (h0 : 0 ≤ i) (h1 : i.toNat < ys.length) (h3 : ys.length ≤ 1000) (h : ∀ t', Q (.str (sOf (ys.getD i.toNat [])) t') s)
    (hs : subscripted slice false (.ref l) (.int i u) = operate [.ref l, .int i u] (getItem (.ref l) (.int i u)) := by with_unfolding_all rfl) :
    wpAny (model prog w) A (subscriptTail value slice (.ref l) (.int i u)) Q E s := by
  refine KTb.item_list (News.isList N hm) hw h0 (by rw [List.length_map]; omega) (by omega) (fun t' _ => ?_) hs
  have : (ys.map sOf).getD i.toNat PySem.Str.empty = sOf (ys.getD i.toNat []) := by
    rw [List.getD_eq_getElem?_getD, List.getD_eq_getElem?_getD, List.getElem?_map, List.getElem?_eq_getElem h1]; rfl
  rw [this]
  exact h t'
theorem joinL (a b c : List Nat) : PySem.Txt.join (sOf [44]) [sOf a, sOf b, sOf c] = sOf (a ++ 44 :: (b ++ 44 :: c)) := by
  show Builtin.Str.glued _ _ = _
  rw [StrLaws.glued_eq_join]
  show sOf a ++ sOf [44] ++ (sOf b ++ sOf [44] ++ sOf c) = _
  simp only [sOf_app]
  simp
theorem joinPc {D : Addr} {e : Nat} {vs : List Value} {p cs : List Int} (N : News h₀ L s.heap news) (hm : (D, listOf vs.toArray e) ∈ news) (hw : StrsAre vs (piecesF p cs 3)) (hp : ∀ k, k < 3 → (pieceF p cs k).length ≤ 30)
    (h : ∀ t' k, Q (.str (sOf (textF p cs)) t') { s with toks := k }) : wpAny (model prog w) A (call (.builtin "str.join") [.str (sOf [44]) t, .ref D]) Q E s := by
  refine join_listW (News.isList N hm) hw (by decide) ?_ fun t' k => ?_
  · have h0 := hp 0 (by decide)
    have h1 := hp 1 (by decide)
    have h2 := hp 2 (by decide)
    show ((sOf (pieceF p cs 0)).length + ((sOf (pieceF p cs 1)).length + ((sOf (pieceF p cs 2)).length + 0))) + 3 ≤ _
    simp only [sOf_len]
    omega
  · show Q (.str (PySem.Txt.join (sOf [44]) [sOf (pieceF p cs 0), sOf (pieceF p cs 1), sOf (pieceF p cs 2)]) t') _
    rw [joinL]
    exact h t' k
/-- one of eight made lists, at an unknown place -/
theorem rowPick {l : Addr} {vs : List Value} {e : Nat} {i : Int} (N : News h₀ L s.heap news) (hm : (l, listOf vs.toArray e) ∈ news) (h0 : 0 ≤ i) (h1 : i < 8)
    (hr : ∀ k, k < 8 → ∃ a rv, vs[k]? = some (.ref a) ∧ (a, listOf rv.toArray 0) ∈ news ∧ IntsAre rv (chs.getD k []))
    (keep : Led) (hk : ∀ p ∈ keep, p ∈ news) (h : ∀ a rv, News h₀ L s.heap ((a, listOf rv.toArray 0) :: keep) → IntsAre rv (chs.getD i.toNat []) → Q (.ref a) s)
    (hs : subscripted slice false (.ref l) (.int i u) = operate [.ref l, .int i u] (getItem (.ref l) (.int i u)) := by with_unfolding_all rfl) :
    wpAny (model prog w) A (subscriptTail value slice (.ref l) (.int i u)) Q E s := by
  obtain ⟨a, rv, e1, e2, e3⟩ := hr i.toNat (by omega)
  have hl := News.isList N hm
  exact tail_any hl.typeIs slot_list_getitem.lookup (wpAny_getItem_list hl h0 (by omega) (x := .ref a) (by simpa using e1) (h a rv (fun p hp => (List.mem_cons.mp hp).elim (fun q => q ▸ N _ e2) fun q => N _ (hk p q)) e3)) hs
end
theorem fm8 (x : Int) : 0 ≤ x.fmod 8 ∧ x.fmod 8 < 8 := by rw [Int.fmod_eq_emod_of_nonneg _ (by decide)]; omega
theorem fm3 (x : Int) : 0 ≤ x.fmod 3 ∧ x.fmod 3 < 3 := by rw [Int.fmod_eq_emod_of_nonneg _ (by decide)]; omega
theorem fm48 (x : Int) : 0 ≤ x.fmod 48 ∧ x.fmod 48 < 48 := by rw [Int.fmod_eq_emod_of_nonneg _ (by decide)]; omega
theorem chsLen (i : Nat) (h : i < 8) : (chs.getD i []).length = 3 := by
  have : ∀ k : Fin 8, (chs.getD k []).length = 3 := by decide
  exact this ⟨i, h⟩
section
variable {prog : Program} {w : World} {A : Around} {E : Value → Shared → Prop} {s : Shared} {value slice : PySem.Expr} {t u : Tok} {h₀ : Heap} {L l a b : Addr} {m : Str → Option Value} {news : Led} {Q : Value → Shared → Prop} {vs us : List Value} {ns ms : List Int} {e e2 : Nat} {x : Int}
theorem sliceFrom (F : Fr h₀ L s.heap m) (N : News h₀ L s.heap news) (hm : (l, listOf vs.toArray e) ∈ news) (hi : IntsAre vs ns) (h0 : 0 ≤ x) (hl : ns.length ≤ 100)
    (h : ∀ D ws h', Fr h₀ L h' m → News h₀ L h' ((D, listOf (List.toArray ws) 0) :: news) → (∀ p ∈ news, p.1 < D) → IntsAre ws (ns.drop x.toNat) → Q (.ref D) { s with heap := h' })
    (hs : subscripted slice false (.ref l) (.ref s.heap.objs.size) = operate [.ref s.heap.objs.size, .ref l] (getItem (.ref l) (.ref s.heap.objs.size)) := by with_unfolding_all rfl) (ht : ∀ r, letTemporaryGo value (.ref l) r = pure () := by intro _; with_unfolding_all rfl) :
    wpAny (model prog w) A (subscriptTail value slice (.ref l) (.ref s.heap.objs.size)) Q E { s with heap := s.heap.push { cls := .type "slice", data := .fields #[.int x t, .none, .none] } } := by
  refine kmk_slice_ints (c := (ns.drop x.toNat).length) F N (News.isList N hm) (.int x t) .none hi (slice_ints_fromW hi h0) rfl (fun D ws h' F' N' l1 h1 _ _ => h D ws h' F' N' l1 h1) hs ht ?_
  rw [List.size_toArray, hi.length]
  exact Nat.le_trans hl (by decide)
theorem sliceUpto (F : Fr h₀ L s.heap m) (N : News h₀ L s.heap news) (hm : (l, listOf vs.toArray e) ∈ news) (hi : IntsAre vs ns) (h0 : 0 ≤ x) (hl : ns.length ≤ 100)
    (h : ∀ D ws h', Fr h₀ L h' m → News h₀ L h' ((D, listOf (List.toArray ws) 0) :: news) → (∀ p ∈ news, p.1 < D) → IntsAre ws (ns.take x.toNat) → Q (.ref D) { s with heap := h' })
    (hs : subscripted slice false (.ref l) (.ref s.heap.objs.size) = operate [.ref s.heap.objs.size, .ref l] (getItem (.ref l) (.ref s.heap.objs.size)) := by with_unfolding_all rfl) (ht : ∀ r, letTemporaryGo value (.ref l) r = pure () := by intro _; with_unfolding_all rfl) :
    wpAny (model prog w) A (subscriptTail value slice (.ref l) (.ref s.heap.objs.size)) Q E { s with heap := s.heap.push { cls := .type "slice", data := .fields #[.none, .int x t, .none] } } := by
  refine kmk_slice_ints (c := (ns.take x.toNat).length) F N (News.isList N hm) .none (.int x t) hi (slice_ints_uptoW hi h0) rfl (fun D ws h' F' N' l1 h1 _ _ => h D ws h' F' N' l1 h1) hs ht ?_
  rw [List.size_toArray, hi.length]
  exact Nat.le_trans hl (by decide)
theorem addLed (F : Fr h₀ L s.heap m) (N : News h₀ L s.heap news) (hm : (a, listOf vs.toArray e) ∈ news) (hm2 : (b, listOf us.toArray e2) ∈ news) (hi : IntsAre vs ns) (hj : IntsAre us ms) (hl : ns.length + ms.length ≤ 1000)
    (h : ∀ D ws h', Fr h₀ L h' m → News h₀ L h' ((D, listOf (List.toArray ws) 0) :: news) → (∀ p ∈ news, p.1 < D) → IntsAre ws (ns ++ ms) → Q (.ref D) { s with heap := h' }) : wpAny (model prog w) A (binaryOp .Add (.ref a) (.ref b)) Q E s :=
  kmk_add_ints F N (News.isList N hm) (News.isList N hm2) hi hj h (Nat.le_trans hl (by decide))
end
section
variable {prog : Program} {w : World} {A : Around} {E : Value → Shared → Prop} {s : Shared} {value slice : PySem.Expr} {t u : Tok} {h₀ : Heap} {L l D b : Addr} {m : Str → Option Value} {news news' : Led} {Q : Value → Shared → Prop} {vs us : List Value} {ns ms : List Int} {e e2 n n2 : Nat} {x : Int}
theorem extendLed (F : Fr h₀ L s.heap m) (N : News h₀ L s.heap news) (hb : (b, listOf us.toArray n2) ∈ news) (U : Upd D (listOf vs.toArray n) (listOf (vs ++ us).toArray (n + 1)) news news') (hne : us ≠ []) (hz : vs.length + us.length ≤ 10000)
    (h : ∀ h', Fr h₀ L h' m → News h₀ L h' news' → Q .none { s with heap := h' }) : wpAny (model prog w) A (call (.builtin "list.extend") [.ref D, .ref b]) Q E s := by
  refine kl_extend (l := vs ++ us) F N hb rfl (by simpa using hne) U ?_ ?_ ?_ h
  · unfold Builtin.List.listTooLong
    simp only [List.size_toArray]
    have : ¬ ((vs.length + us.length : Nat) > sizeLine) := by
      have : (10000 : Nat) ≤ sizeLine := by decide
      omega
    simp
    intro _
    omega
  · exact Nat.le_trans (Nat.le_trans (Nat.le_add_right _ _) hz) (by decide)
  · simp only [List.size_toArray]; exact Nat.le_trans hz (by decide)
theorem sumLed (hh : A.handled = none) (F : Fr h₀ L s.heap m) (N : News h₀ L s.heap news) (hm : (l, listOf vs.toArray e) ∈ news) (hi : IntsAre vs ns)
    (h : ∀ h' tk t', Fr h₀ L h' m → News h₀ L h' news → Q (.int ns.sum t') { s with heap := h', toks := tk }) :
    wpAny (model prog w) A (call (.builtin "sum") [.ref l]) Q E s := sumK hh F N (News.isList N hm) hi h
theorem mulStr2 {X : Str} {n : Int} (hX : X = sOf [34]) (h0 : 0 ≤ n) (h1 : n ≤ 100) (h : ∀ t' k, Q (.str (sOf (List.replicate n.toNat 34)) t') { s with toks := k }) : wpAny (model prog w) A (binaryOp .Mult (.str X t) (.int n u)) Q E s := by
  subst hX; exact mulStr h0 h1 h
theorem joinPc2 {X : Str} {p cs : List Int} (hX : X = sOf [44]) (N : News h₀ L s.heap news) (hm : (D, listOf vs.toArray e) ∈ news) (hw : StrsAre vs (piecesF p cs 3)) (hp : ∀ k, k < 3 → (pieceF p cs k).length ≤ 30)
    (h : ∀ t' k, Q (.str (sOf (textF p cs)) t') { s with toks := k }) : wpAny (model prog w) A (call (.builtin "str.join") [.str X t, .ref D]) Q E s := by
  subst hX; exact joinPc N hm hw hp h
end
theorem strsSnoc {us : List Value} {ws : List Str} {x : Str} {t : Tok} (h : StrsAre us ws) : StrsAre (us ++ [.str x t]) (ws ++ [x]) := h.append' (.cons _ _ .nil)
theorem runsF_succ (p : List Int) (i : Nat) : runsF p (i + 1) = runsF p i ++ [p.getD i 0, p.sum - p.getD i 0] := by
  unfold runsF; rw [List.range_succ, List.flatMap_append]; rfl
theorem factF_succ (cs : List Int) (i : Nat) : factF cs (i + 1) = factF cs i ++ [markI cs i + 7] := by
  unfold factF; rw [List.range_succ, List.map_append]; rfl
theorem piecesF_succ (p cs : List Int) (i : Nat) : piecesF p cs (i + 1) = piecesF p cs i ++ [sOf (pieceF p cs i)] := by
  unfold piecesF; rw [List.range_succ, List.map_append]; rfl
theorem runsF_len (p : List Int) (i : Nat) : (runsF p i).length = 2 * i := by
  induction i with
  | zero => rfl
  | succ i ih => rw [runsF_succ, List.length_append, ih]; rfl
theorem intsApp {vs us : List Value} {ns ms : List Int} (h : IntsAre vs ns) (h2 : IntsAre us ms) : IntsAre (vs ++ us) (ns ++ ms) := by
  induction h with
  | nil => exact h2
  | cons j u _ ih => exact .cons j u ih
theorem pieceLen (c : Int) (cs : List Int) (k : Nat) (hk : k < 3) : (pieceF (partsOf c) cs k).length ≤ 30 := by
  have h := partsOk c
  have h1 := h.2.2.2 k hk
  have h2 := markLe (markI cs k).toNat
  unfold pieceF
  rw [List.length_append, List.length_append, List.length_replicate, List.length_replicate]
  omega
theorem m48 (x : Int) : (x.fmod 48).toNat < marksL.length := by
  have := fm48 x
  rw [marksLen]; omega
theorem strB_of {l : List Nat} (h : l.length ≤ 200) : StrB l := Nat.le_trans h (by decide)
theorem lenRep {n : Int} (h : n ≤ 100) : (List.replicate n.toNat 34).length ≤ 100 := by rw [List.length_replicate]; omega
theorem lenMk (i : Nat) : (marksL.getD i []).length ≤ 100 := Nat.le_trans (markLe i) (by decide)
theorem lenApp {a b : List Nat} (h : a.length ≤ 100) (h2 : b.length ≤ 100) : (a ++ b).length ≤ 200 := by rw [List.length_append]; omega
theorem len200 {a : List Nat} (h : a.length ≤ 100) : a.length ≤ 200 := Nat.le_trans h (by decide)
theorem drawnEnd {h0 : Heap} {L : Addr} {h : Heap} {a p b c d e : Addr × Obj} {news : Led} (N : News h0 L h (a :: p :: b :: c :: d :: e :: news)) : News h0 L h (a :: b :: c :: news) := fun x hx => N x (by
  rcases List.mem_cons.mp hx with q | hx
  · exact q ▸ .head _
  · rcases List.mem_cons.mp hx with q | hx
    · exact q ▸ .tail _ (.tail _ (.head _))
    · rcases List.mem_cons.mp hx with q | hx
      · exact q ▸ .tail _ (.tail _ (.tail _ (.head _)))
      · exact .tail _ (.tail _ (.tail _ (.tail _ (.tail _ (.tail _ hx))))))
section
example (w : World) : (rwQ = rwQ) ∧ (Kq w.params = Kq w.params) := by
  k_with_none
  k_fill
  (k_with "B" => k_asm)
  (k_with "K" => first | exact rfl | assumption)
  (k_with "C" => first | assumption | trivial)
  (k_with "D" => first | (change dp + 1 + _ < _; omega) | omega | ktr_room)
  (k_with "U" => first | (change un + 3 + _ < _; omega) | omega | ktr_units)
  (k_with "call builtin:divmod" => ((with_reducible show wpAny _ _ (call (Value.builtin _) [Value.int _ _, Value.int _ _]) _ _ _); (rename SmallDiv _ => hSd); refine divmod_N (by assumption) (by assumption) (by assumption) ?_ (Or.inl (PyProof.noPylong_of_log2 hSd)); intro _ _ _))
  (k_with "binaryOp FloorDiv int int" => ((rename SmallDiv _ => hSd); refine floordiv_sd hSd (by first | assumption | omega) ?_))
  (k_with "AllLt" => first | assumption | exact And.right (by assumption) | exact And.right (And.right (by assumption)) | exact And.right (And.right (And.right (by assumption))) | exact And.right (And.right (And.right (And.right (by assumption)))) | exact And.right (And.right (And.right (And.right (And.right (by assumption))))) | exact And.right (And.right (And.right (And.right (And.right (And.right (by assumption)))))) | exact And.right (And.right (And.right (And.right (And.right (And.right (And.right (by assumption)))))))  | exact And.right (And.right (And.right (And.right (And.right (And.right (And.right (And.right (by assumption)))))))))
  (k_with "k_all" => first | with_reducible assumption | exact allNe0 (by walk_at "AllLt") | exact allNe1 (by walk_at "AllLt") | exact allNe2 (by walk_at "AllLt") | exact allNe3 (by walk_at "AllLt") | exact List.forall_mem_nil _ | (refine' List.forall_mem_cons.mpr ⟨?_, ?_⟩; (focus k_ne); k_all))
  (k_with "binaryOp Mult ref int" => (k_here; (rename CntOk _ => hCo); k_dflt (refine' mulRep (by k_asm) (by k_asm) (by k_mem) hCo ?_); k_whole; intro l' h' F' N' l1; (try k_lt l1); (try k_sweep)))
  (k_with "enter" => (refine wpAny_call ?_; k_dflt cell_enter))
  (k_with "enter C" => (refine wpAny_call ?_; k_dflt ((refine' code_defC (by k_asm) (by k_asm) (by k_asm) (by k_asm) (by k_asm) (by exact rfl) (by exact rfl) (by assumption) (by k_is) (by k_is) (by ktr_room) (by exact BindsTo.of_eq rfl) (by exact rfl) (by decide +kernel) ?_ (by exact rfl) (by exact rfl) (by exact rfl)); k_whole; intro g' L' h' tk' cells' FG' F' N' Y' B' X' T' l1; (try k_lt l1); k_cells Y'; (try simp only [List.cons_append, List.nil_append] at N'); (try dsimp only); (try k_lift B'); (try k_fold))))
  (k_with "enter N" => (refine wpAny_call ?_; k_dflt (refine' code_nest (by k_asm) (by k_asm) (by k_asm) (by k_asm) (by k_asm) (by exact rfl) (by exact rfl) (by assumption) (by walk_at "inrest") (codeRec_news (by k_asm) (by walk_at "inrest") (by assumption) (by assumption)) (by ktr_room) (by exact BindsTo.of_eq rfl) (by exact locs rfl) ?_ (by exact rfl) (by exact rfl) (by exact rfl) (by decide); k_whole; intro g' L' h' FG' F' N' B' X' T'; (try dsimp only); (try k_lift B'))))
  (k_with "eval Name" => (k_here; kc_free; k_dflt (refine' nameX_F (by k_asm) (by exact rfl) (by walk_at "inrest") (by with_reducible assumption) ?_ (by exact rfl) (by exact rfl)); k_whole))
  (k_with "inrest" => first | with_reducible assumption | exact List.mem_cons_self .. | assumption | (refine List.mem_cons_of_mem _ ?_; walk_at "inrest"))
  (k_with "FnAt" => (k_dflt (exact FnAt.of (by k_asm) (by walk_at "inrest"))))
  (k_with "callWith ref" => (k_here; kn_here; k_dflt (first
    | (refine' callWith_F (FnAt.of (by k_asm) (by walk_at "inrest")) ?_; k_whole)
    | (refine' callWith_F0 (FnAt.of (by k_asm) (by walk_at "inrest")) ?_; k_whole; try dsimp only [List.nil_append, List.cons_append]))))
  (k_with "mulok" => first | assumption | exact PySem.IntMulOk.of_left (bits64 (by omega)) | exact PySem.IntMulOk.of_right (bits64 (by omega)))
  (k_with "binaryOp Mult int int" => (k_here; k_dflt (refine mul_int ?_ (by walk_at "mulok"))))
  (k_with "setItem ref int" => (k_here; (with_reducible show wpAny _ _ (setItem (Value.ref _) (Value.int _ _) (Value.int _ _)) _ _ _); k_dflt (refine' ksa_set (by k_asm) (by k_asm) (by k_upd) (by with_reducible assumption) (by omega) (by omega) (by omega) ?_); k_whole; intro h' F' N' hi' hl' hs'; (try k_sweep)))
  (k_with "nn" => first | omega | ((rename ShB _ => hShB); exact (hShB _ (by omega) (by omega)).1))
  (k_with "lsz" => ((rename ShB _ => hShB); (rename BitsB _ => hBB); first | exact lsz_of (BitsB.fdiv _ hBB) (hShB _ (by omega) (by omega)).2 | exact lsz_of hBB (hShB _ (by omega) (by omega)).2))
  (k_with "binaryOp RShift int int" => (k_here; k_dflt (refine rshift_int (by walk_at "nn") ?_)))
  (k_with "binaryOp RShift int int" => (k_here; with_reducible refine rshift1 ?_))
  (k_with "binaryOp LShift int int" => (k_here; k_dflt (refine lshift_int (by walk_at "nn") (by walk_at "lsz") ?_)))
  (k_with "truthy ref" => (k_dflt (refine' truthyLed (by k_asm) (by walk_at "inrest") (by walk_at "lenfit") ?_); intro _))
  (k_with "lenfit" => first | omega | ((have hl9 := IntsAre.length (by assumption)); (try simp only [List.length_map, List.length_replicate] at *); omega))
  (k_with "subscriptTail" => (k_here; (with_reducible show wpAny _ _ (subscriptTail _ _ (Value.ref _) (Value.int _ _)) _ _ _); k_dflt (refine' ksa_sub (by k_asm) (by walk_at "inrest") (by with_reducible assumption) (by omega) (by first | omega | (rw [List.length_map]; omega)) (by omega) ?_ (by with_unfolding_all rfl)); intro _))
  (k_with "call builtin:list.append" => (k_here; k_dflt (refine' appendLed (by k_asm) (by k_asm) (by k_upd) (by walk_at "lenfit") ?_; k_whole); intro h' F' N'; (try k_sweep)))
  (k_with "call builtin:list.reverse" => (k_here; k_dflt (refine' reverseLed (by k_asm) (by k_asm) (by k_upd) (by walk_at "lenfit") ?_; k_whole); intro h' F' N'; (try k_sweep)))
  (k_with "call type:reversed" => (k_here; (with_reducible show wpAny _ _ (call (Value.type _) [Value.ref _]) _ _ _); k_dflt (refine' krv_reversed (by k_asm) (by k_asm) (News.isList (by k_asm) (by walk_at "inrest")) ?_); intro D' h' F' N' lrev; have l1 := lrev; (try k_lt l1); (try k_sweep)))
  (k_with "mlook" => first | with_reducible assumption | exact if_pos rfl | exact rfl | (refine (if_neg (by decide)).trans ?_; walk_at "mlook"))
  (k_with "eval Name" => (k_here; (rename MapMark => hMM); k_dflt (refine' nameX_L (by k_asm) (by walk_at "mlook") ?_ (by rfl) (by rfl)); k_whole))
  (k_with "newList" => (k_here; (with_reducible refine' newList_K (by k_asm) (by k_asm) ?_ (by exact Nat.le_of_ble_eq_true rfl)); k_whole; intro l' h' F' N' lnew; have l1 := lnew; (try k_lt l1); (try k_sweep)))
  (k_with "lsz" => ((rename BitsB _ => hBB); exact lsz_of hBB (by omega)))
  (k_with "newTuple" => (k_here; k_dflt (refine' newTupLed (by k_asm) (by k_asm) (by exact Nat.le_of_ble_eq_true rfl) ?_; k_whole); intro q' h' F' N' ltup; have l1 := ltup; (try k_lt l1); (try k_sweep)))
  (k_with "pick" => first | exact Pick.head | (apply Pick.tail; walk_at "pick"))
  (k_with "sub" => (intro q9 hq9; repeat (first | exact hsub0 _ hq9 | exact hq9 | apply List.mem_cons_of_mem)))
  (k_with "call builtin:len" => ((with_reducible show wpAny _ _ (call (Value.builtin "len") [Value.ref _]) _ _ _); k_dflt (refine' lenLed (by k_asm) (by walk_at "inrest") (by first | walk_at "lenfit" | (simp only [List.length_replicate]; omega)) ?_)))
  (k_with "exec FunctionDef" => (k_here; kn_here; k_dflt (refine' nestDef_K (by exact rfl) (by exact rfl) (by exact rfl) ?_); k_dflt (refine' nestTab (by k_asm) (by k_asm) (by k_asm) (by kn_code) (by exact rfl) (by k_updF) (by assumption) (by walk_at "sub") (by walk_at "AllLt") (List.mem_cons_self ..) (by exact rfl) ?_; k_whole); intro f' c' oc' vs' t' ct' dc' h' tk' ps' F' N' d1' d2' tc' hin' l1 l2; have hin2 := hin'.imp And.right And.right; (try dsimp only at N'); (try k_lt2 l1); (try k_lt l2)))
  (k_with "strB" => first | assumption | exact (Nat.le_of_ble_eq_true rfl) | (simp only [StrB, List.length_append, List.length_cons, List.length_nil] at *; omega))
  (k_with "subscriptTail" => (k_here; (with_reducible show wpAny _ _ (subscriptTail _ _ (Value.str _ _) (Value.ref _)) _ _ _); k_dflt (first | refine' cut_to (by k_asm) (by k_asm) (by walk_at "strB") (by omega) ?_ | refine' cut_ss (by k_asm) (by k_asm) (by walk_at "strB") (by omega) (by omega) ?_); k_whole; intro h' t' k' F' N'; (try k_sweep)))
  (k_with "call builtin:len" => (k_here; (with_reducible show wpAny _ _ (call (Value.builtin "len") [Value.str _ _]) _ _ _); k_dflt (refine' lenStr (by walk_at "strB") ?_); intro _ _))
  (k_with "binaryOp Add str str" => (k_here; k_dflt (refine' addStr (by walk_at "strB") (by walk_at "strB") ?_); intro _ _))
  (k_with "compareOp Eq str str" => (k_here; k_dflt (first | refine' eqStrB (by walk_at "streq") ?_ | refine' eqStr ?_)))
  (k_with "compareOp NotEq str str" => (k_here; k_dflt (first | refine' neStrB (by walk_at "streq") ?_ | refine' neStr ?_)))
  (k_with "getItem str int" => (k_here; k_dflt (refine' strAt (by walk_at "strB") (by omega) (by walk_at "strat") ?_); intro _))
  (k_with "subscriptTail" => (k_here; (with_reducible show wpAny _ _ (subscriptTail _ _ (Value.str _ _) (Value.int _ _)) _ _ _); k_dflt (refine' strAtT (by walk_at "strB") (by first | omega | assumption) (by walk_at "strat") ?_); k_whole; intro _))
  (k_with "exec While" => (k_here; refine stopI ?_))
  (k_with "exec While Compare" => (k_here; refine stopI ?_))
  (k_with "exec While Compare cons nil" => (k_here; refine stopI ?_))
  (k_with "execs cons" => ((with_reducible refine wpAny_execs_cons ?_); (try k_fold)))
  (k_with "eval Call" => k_fold)
  (k_with "eval BinOp" => k_fold)
  (k_with "isTrue" => k_fold)
  (k_with "isTrue Compare" => k_fold)
  (k_with "isTrue BoolOp" => k_fold)
  (k_with "eval Subscript" => k_fold)
  (k_with "subscriptTail" => k_fold)
  (k_with "compareOp" => k_fold)
  exact ⟨rfl, rfl⟩
theorem dblLen (l : List Nat) : (StrLaws.dbl 34 l).length ≤ 2 * l.length := by
  induction l with
  | nil => exact Nat.le_refl _
  | cons x r ih => unfold StrLaws.dbl; split <;> simp <;> omega
theorem atApp {x A B : List Nat} {k : Nat} (h : x = A ++ B) (hk : A.length = k) : x[((k : Nat) : Int).toNat]? = B[0]? ∧ x[(((k : Nat) : Int) + 1).toNat]? = B[1]? := by
  subst h hk
  constructor
  · rw [Int.toNat_natCast, List.getElem?_append_right (Nat.le_refl _), Nat.sub_self]
  · rw [show (((A.length : Nat) : Int) + 1).toNat = A.length + 1 from rfl, List.getElem?_append_right (Nat.le_succ _), show A.length + 1 - A.length = 1 by omega]
set_option maxRecDepth 100000 in
set_option maxHeartbeats 1000000 in
theorem parse257_ct (w : World) (resp l e : List Nat) (t : Tok) (news : Led) (hr : resp = [50, 53, 55, 32, 34] ++ StrLaws.dbl 34 l ++ 34 :: e) (he : e.head? ≠ some 34) (hl : l.length ≤ 200) (hel : e.length ≤ 200) :
   Ct w 88 [.str (sOf resp) t] 10 100 news (fun _ => True) fun v nw => ∃ t', v = .str (sOf l) t' ∧ nw = news := by
  intro p loose mean mg mb dp un gd cn cs ca ccd cl outer A₀ base h₀ L m s Q E B F X N T hk hC hd hu hret
  have hb : StrB resp := by
    have := dblLen l
    rw [hr]; unfold StrB; simp; omega
  have h3 : (resp.take (Int.toNat 3) == cpsOfBytes 0 0 "257".toByteArray.data.toList) = true := by rw [hr]; rfl
  have h5 : ((resp.drop (Int.toNat 3)).take (Int.toNat 5 - Int.toNat 3) == cpsOfBytes 0 0 " \"".toByteArray.data.toList) = true := by rw [hr]; rfl
  (k_with "streq" => first | exact h3 | exact h5)
  walk_at "enter"
  k_steps
  unfold Stop
  rename News _ _ _ _ => N2
  rename Fr _ _ _ _ => F2
  k_dflt refine' While_inv2 (fun n m nw => ∃ (done rest : List Nat) (ti td tn tr : Tok), nw = news ∧ l = done ++ rest ∧ n = rest.length + 1 ∧ m "i" = some (.int ((5 + (StrLaws.dbl 34 done).length : Nat)) ti) ∧ m "n" = some (.int (resp.length : Nat) tn) ∧ m "dirname" = some (.str (sOf done) td) ∧ m "resp" = some (.str (sOf resp) tr)) (n₀ := l.length + 1)
    F2 N2 ⟨[], l, _, _, _, _, rfl, rfl, rfl, rfl, rfl, rfl, rfl⟩ ?turn ?hE
  case hE => first | passes_own | with_unfolding_all passes_own
  case turn =>
    intro n m1 nw h1 tk1 F3 N3 hJ
    obtain ⟨done, rest, ti, td, tn, tr, hnw, hl2, hn, hmi, hmn, hmd, hmr⟩ := hJ
    subst hnw
    have mm : MapMark := ⟨⟩
    have hA : resp = ([50, 53, 55, 32, 34] ++ StrLaws.dbl 34 done) ++ (StrLaws.dbl 34 rest ++ 34 :: e) := by
      rw [hr, hl2, StrLaws.dbl_append]; simp only [List.append_assoc]
    have hlen : resp.length = 5 + (StrLaws.dbl 34 done).length + ((StrLaws.dbl 34 rest).length + (1 + e.length)) := by
      rw [hA]; simp only [List.length_append, List.length_cons, List.length_nil]; omega
    have hdl : StrB done := by
      have := congrArg List.length hl2
      rw [List.length_append] at this
      unfold StrB; omega
    have hat := atApp hA (by rw [List.length_append]; rfl : ([50, 53, 55, 32, 34] ++ StrLaws.dbl 34 done).length = 5 + (StrLaws.dbl 34 done).length)
    have hat0 := hat.1
    have hat1 := hat.2
    cases rest with
    | nil =>
      have hlen0 : resp.length = 5 + (StrLaws.dbl 34 done).length + (1 + e.length) := by rw [hlen]; exact congrArg _ (Nat.zero_add _)
      rw [List.append_nil] at hl2
      cases e with
      | nil =>
        (k_with "strat" => exact hat0)
        (k_with "streq" => exact rfl)
        have hlen1 : resp.length = 5 + (StrLaws.dbl 34 done).length + 1 := hlen0
        k_steps
        (try unfold WhileStep2)
        dsimp only
        (try k_fold)
        k_steps
        all_goals exact hret _ _ _ _ ⟨_, by rw [hl2], rfl⟩ (by k_asm) (by k_asm)
      | cons y e' =>
        have hy : ([y] == [34]) = false := by
          have : y ≠ 34 := fun q => he (by rw [q]; rfl)
          simp [this]
        (k_with "strat" => first | exact hat0 | exact hat1)
        (k_with "streq" => first | exact hy | exact rfl)
        rw [List.length_cons] at hlen0
        k_steps
        (try unfold WhileStep2)
        dsimp only
        (try k_fold)
        k_steps
        all_goals exact hret _ _ _ _ ⟨_, by rw [hl2], rfl⟩ (by k_asm) (by k_asm)
    | cons x r =>
      have hl3 : l = (done ++ [x]) ++ r := by rw [hl2, List.append_assoc]; rfl
      have hnn : r.length + 1 < n := by rw [hn]; exact Nat.lt_succ_self _
      by_cases hx : x = 34
      · subst hx
        have e2 : ((5 + (StrLaws.dbl 34 (done ++ [34])).length : Nat) : Int) = ((5 + (StrLaws.dbl 34 done).length : Nat) : Int) + 1 + 1 := by
          rw [StrLaws.dbl_append, List.length_append]; rfl
        (k_with "strat" => first | exact hat0 | exact hat1)
        (k_with "streq" => exact rfl)
        have hlen2 : resp.length = 5 + (StrLaws.dbl 34 done).length + ((StrLaws.dbl 34 r).length + 2 + (1 + e.length)) := hlen
        k_steps
        all_goals exact ⟨_, _, _, _, _, rfl, by k_asm, by k_asm, hnn, done ++ [34], r, _, _, _, _, rfl, hl3, rfl, by rw [e2]; walk_at "mlook", by walk_at "mlook", by walk_at "mlook", by walk_at "mlook"⟩
      · have hxd : StrLaws.dbl 34 (x :: r) = x :: StrLaws.dbl 34 r := by show (if x = 34 then _ else _) = _; rw [if_neg hx]
        rw [hxd] at hat0 hlen
        have hx2 : ([x] == [34]) = false := by simp [hx]
        have e2 : ((5 + (StrLaws.dbl 34 (done ++ [x])).length : Nat) : Int) = ((5 + (StrLaws.dbl 34 done).length : Nat) : Int) + 1 := by
          rw [StrLaws.dbl_append, List.length_append, show StrLaws.dbl 34 [x] = [x] by show (if x = 34 then _ else _) = _; rw [if_neg hx]; rfl]; rfl
        (k_with "strat" => exact hat0)
        (k_with "streq" => exact hx2)
        k_steps
        all_goals exact ⟨_, _, _, _, _, rfl, by k_asm, by k_asm, hnn, done ++ [x], r, _, _, _, _, rfl, hl3, rfl, by rw [e2]; walk_at "mlook", by walk_at "mlook", by walk_at "mlook", by walk_at "mlook"⟩
end
section
example (w : World) : (rwQ = rwQ) ∧ (Kq w.params = Kq w.params) := by
  k_with_none
  k_fill
  (k_with "B" => k_asm)
  (k_with "K" => first | exact rfl | assumption)
  (k_with "C" => first | assumption | trivial)
  (k_with "D" => first | (change dp + 1 + _ < _; omega) | omega | ktr_room)
  (k_with "U" => first | (change un + 3 + _ < _; omega) | omega | ktr_units)
  (k_with "call builtin:divmod" => ((with_reducible show wpAny _ _ (call (Value.builtin _) [Value.int _ _, Value.int _ _]) _ _ _); (rename SmallDiv _ => hSd); refine divmod_N (by assumption) (by assumption) (by assumption) ?_ (Or.inl (PyProof.noPylong_of_log2 hSd)); intro _ _ _))
  (k_with "binaryOp FloorDiv int int" => ((rename SmallDiv _ => hSd); refine floordiv_sd hSd (by first | assumption | omega) ?_))
  (k_with "AllLt" => first | assumption | exact And.right (by assumption) | exact And.right (And.right (by assumption)) | exact And.right (And.right (And.right (by assumption))) | exact And.right (And.right (And.right (And.right (by assumption)))) | exact And.right (And.right (And.right (And.right (And.right (by assumption))))) | exact And.right (And.right (And.right (And.right (And.right (And.right (by assumption)))))) | exact And.right (And.right (And.right (And.right (And.right (And.right (And.right (by assumption)))))))  | exact And.right (And.right (And.right (And.right (And.right (And.right (And.right (And.right (by assumption)))))))))
  (k_with "k_all" => first | with_reducible assumption | exact allNe0 (by walk_at "AllLt") | exact allNe1 (by walk_at "AllLt") | exact allNe2 (by walk_at "AllLt") | exact allNe3 (by walk_at "AllLt") | exact List.forall_mem_nil _ | (refine' List.forall_mem_cons.mpr ⟨?_, ?_⟩; (focus k_ne); k_all))
  (k_with "binaryOp Mult ref int" => (k_here; (rename CntOk _ => hCo); k_dflt (refine' mulRep (by k_asm) (by k_asm) (by k_mem) hCo ?_); k_whole; intro l' h' F' N' l1; (try k_lt l1); (try k_sweep)))
  (k_with "enter" => (refine wpAny_call ?_; k_dflt cell_enter))
  (k_with "enter C" => (refine wpAny_call ?_; k_dflt ((refine' code_defC (by k_asm) (by k_asm) (by k_asm) (by k_asm) (by k_asm) (by exact rfl) (by exact rfl) (by assumption) (by k_is) (by k_is) (by ktr_room) (by exact BindsTo.of_eq rfl) (by exact rfl) (by decide +kernel) ?_ (by exact rfl) (by exact rfl) (by exact rfl)); k_whole; intro g' L' h' tk' cells' FG' F' N' Y' B' X' T' l1; (try k_lt l1); k_cells Y'; (try simp only [List.cons_append, List.nil_append] at N'); (try dsimp only); (try k_lift B'); (try k_fold))))
  (k_with "enter N" => (refine wpAny_call ?_; k_dflt (refine' code_nest (by k_asm) (by k_asm) (by k_asm) (by k_asm) (by k_asm) (by exact rfl) (by exact rfl) (by assumption) (by walk_at "inrest") (codeRec_news (by k_asm) (by walk_at "inrest") (by assumption) (by assumption)) (by ktr_room) (by exact BindsTo.of_eq rfl) (by exact locs rfl) ?_ (by exact rfl) (by exact rfl) (by exact rfl) (by decide); k_whole; intro g' L' h' FG' F' N' B' X' T'; (try dsimp only); (try k_lift B'))))
  (k_with "eval Name" => (k_here; kc_free; k_dflt (refine' nameX_F (by k_asm) (by exact rfl) (by walk_at "inrest") (by with_reducible assumption) ?_ (by exact rfl) (by exact rfl)); k_whole))
  (k_with "inrest" => first | with_reducible assumption | exact List.mem_cons_self .. | assumption | (refine List.mem_cons_of_mem _ ?_; walk_at "inrest"))
  (k_with "FnAt" => (k_dflt (exact FnAt.of (by k_asm) (by walk_at "inrest"))))
  (k_with "callWith ref" => (k_here; kn_here; k_dflt (first
    | (refine' callWith_F (FnAt.of (by k_asm) (by walk_at "inrest")) ?_; k_whole)
    | (refine' callWith_F0 (FnAt.of (by k_asm) (by walk_at "inrest")) ?_; k_whole; try dsimp only [List.nil_append, List.cons_append]))))
  (k_with "mulok" => first | assumption | exact PySem.IntMulOk.of_left (bits64 (by omega)) | exact PySem.IntMulOk.of_right (bits64 (by omega)))
  (k_with "binaryOp Mult int int" => (k_here; k_dflt (refine mul_int ?_ (by walk_at "mulok"))))
  (k_with "setItem ref int" => (k_here; (with_reducible show wpAny _ _ (setItem (Value.ref _) (Value.int _ _) (Value.int _ _)) _ _ _); k_dflt (refine' ksa_set (by k_asm) (by k_asm) (by k_upd) (by with_reducible assumption) (by omega) (by omega) (by omega) ?_); k_whole; intro h' F' N' hi' hl' hs'; (try k_sweep)))
  (k_with "nn" => first | omega | ((rename ShB _ => hShB); exact (hShB _ (by omega) (by omega)).1))
  (k_with "lsz" => ((rename ShB _ => hShB); (rename BitsB _ => hBB); first | exact lsz_of (BitsB.fdiv _ hBB) (hShB _ (by omega) (by omega)).2 | exact lsz_of hBB (hShB _ (by omega) (by omega)).2))
  (k_with "binaryOp RShift int int" => (k_here; k_dflt (refine rshift_int (by walk_at "nn") ?_)))
  (k_with "binaryOp RShift int int" => (k_here; with_reducible refine rshift1 ?_))
  (k_with "binaryOp LShift int int" => (k_here; k_dflt (refine lshift_int (by walk_at "nn") (by walk_at "lsz") ?_)))
  (k_with "truthy ref" => (k_dflt (refine' truthyLed (by k_asm) (by walk_at "inrest") (by walk_at "lenfit") ?_); intro _))
  (k_with "lenfit" => first | omega | ((have hl9 := IntsAre.length (by assumption)); (try simp only [List.length_map, List.length_replicate] at *); omega))
  (k_with "subscriptTail" => (k_here; (with_reducible show wpAny _ _ (subscriptTail _ _ (Value.ref _) (Value.int _ _)) _ _ _); k_dflt (refine' ksa_sub (by k_asm) (by walk_at "inrest") (by with_reducible assumption) (by omega) (by first | omega | (rw [List.length_map]; omega)) (by omega) ?_ (by with_unfolding_all rfl)); intro _))
  (k_with "call builtin:list.append" => (k_here; k_dflt (refine' appendLed (by k_asm) (by k_asm) (by k_upd) (by walk_at "lenfit") ?_; k_whole); intro h' F' N'; (try k_sweep)))
  (k_with "call builtin:list.reverse" => (k_here; k_dflt (refine' reverseLed (by k_asm) (by k_asm) (by k_upd) (by walk_at "lenfit") ?_; k_whole); intro h' F' N'; (try k_sweep)))
  (k_with "call type:reversed" => (k_here; (with_reducible show wpAny _ _ (call (Value.type _) [Value.ref _]) _ _ _); k_dflt (refine' krv_reversed (by k_asm) (by k_asm) (News.isList (by k_asm) (by walk_at "inrest")) ?_); intro D' h' F' N' lrev; have l1 := lrev; (try k_lt l1); (try k_sweep)))
  (k_with "mlook" => first | with_reducible assumption | exact if_pos rfl | exact rfl | (refine (if_neg (by decide)).trans ?_; walk_at "mlook"))
  (k_with "eval Name" => (k_here; (rename MapMark => hMM); k_dflt (refine' nameX_L (by k_asm) (by walk_at "mlook") ?_ (by rfl) (by rfl)); k_whole))
  (k_with "newList" => (k_here; (with_reducible refine' newList_K (by k_asm) (by k_asm) ?_ (by exact Nat.le_of_ble_eq_true rfl)); k_whole; intro l' h' F' N' lnew; have l1 := lnew; (try k_lt l1); (try k_sweep)))
  (k_with "lsz" => ((rename BitsB _ => hBB); exact lsz_of hBB (by omega)))
  (k_with "newTuple" => (k_here; k_dflt (refine' newTupLed (by k_asm) (by k_asm) (by exact Nat.le_of_ble_eq_true rfl) ?_; k_whole); intro q' h' F' N' ltup; have l1 := ltup; (try k_lt l1); (try k_sweep)))
  (k_with "pick" => first | exact Pick.head | (apply Pick.tail; walk_at "pick"))
  (k_with "sub" => (intro q9 hq9; repeat (first | exact hsub0 _ hq9 | exact hq9 | apply List.mem_cons_of_mem)))
  (k_with "call builtin:len" => ((with_reducible show wpAny _ _ (call (Value.builtin "len") [Value.ref _]) _ _ _); k_dflt (refine' lenLed (by k_asm) (by walk_at "inrest") (by first | walk_at "lenfit" | (simp only [List.length_replicate]; omega)) ?_)))
  (k_with "exec FunctionDef" => (k_here; kn_here; k_dflt (refine' nestDef_K (by exact rfl) (by exact rfl) (by exact rfl) ?_); k_dflt (refine' nestTab (by k_asm) (by k_asm) (by k_asm) (by kn_code) (by exact rfl) (by k_updF) (by assumption) (by walk_at "sub") (by walk_at "AllLt") (List.mem_cons_self ..) (by exact rfl) ?_; k_whole); intro f' c' oc' vs' t' ct' dc' h' tk' ps' F' N' d1' d2' tc' hin' l1 l2; have hin2 := hin'.imp And.right And.right; (try dsimp only at N'); (try k_lt2 l1); (try k_lt l2)))
  (k_with "strB" => first | assumption | exact (Nat.le_of_ble_eq_true rfl) | (simp only [StrB, List.length_append, List.length_cons, List.length_nil] at *; omega))
  (k_with "subscriptTail" => (k_here; (with_reducible show wpAny _ _ (subscriptTail _ _ (Value.str _ _) (Value.ref _)) _ _ _); k_dflt (first | refine' cut_to (by k_asm) (by k_asm) (by walk_at "strB") (by omega) ?_ | refine' cut_ss (by k_asm) (by k_asm) (by walk_at "strB") (by omega) (by omega) ?_); k_whole; intro h' t' k' F' N'; (try k_sweep)))
  (k_with "call builtin:len" => (k_here; (with_reducible show wpAny _ _ (call (Value.builtin "len") [Value.str _ _]) _ _ _); k_dflt (refine' lenStr (by walk_at "strB") ?_); intro _ _))
  (k_with "binaryOp Add str str" => (k_here; k_dflt (refine' addStr (by walk_at "strB") (by walk_at "strB") ?_); intro _ _))
  (k_with "compareOp Eq str str" => (k_here; k_dflt (first | refine' eqStrB (by walk_at "streq") ?_ | refine' eqStr ?_)))
  (k_with "compareOp NotEq str str" => (k_here; k_dflt (first | refine' neStrB (by walk_at "streq") ?_ | refine' neStr ?_)))
  (k_with "getItem str int" => (k_here; k_dflt (refine' strAt (by walk_at "strB") (by omega) (by walk_at "strat") ?_); intro _))
  (k_with "subscriptTail" => (k_here; (with_reducible show wpAny _ _ (subscriptTail _ _ (Value.str _ _) (Value.int _ _)) _ _ _); k_dflt (refine' strAtT (by walk_at "strB") (by first | omega | assumption) (by walk_at "strat") ?_); k_whole; intro _))
  (k_with "exec While" => (k_here; refine stopI ?_))
  (k_with "exec While Compare" => (k_here; refine stopI ?_))
  (k_with "exec While Compare cons nil" => (k_here; refine stopI ?_))
  (k_with "execs cons" => ((with_reducible refine wpAny_execs_cons ?_); (try k_fold)))
  (k_with "eval Call" => k_fold)
  (k_with "eval BinOp" => k_fold)
  (k_with "isTrue" => k_fold)
  (k_with "isTrue Compare" => k_fold)
  (k_with "isTrue BoolOp" => k_fold)
  (k_with "eval Subscript" => k_fold)
  (k_with "subscriptTail" => k_fold)
  (k_with "compareOp" => k_fold)
  exact ⟨rfl, rfl⟩
theorem fmodM (x : Int) : 0 ≤ x.fmod 1000000 ∧ x.fmod 1000000 < 1000000 := by rw [Int.fmod_eq_emod_of_nonneg _ (by decide)]; omega
set_option maxRecDepth 100000 in
set_option maxHeartbeats 1000000 in
theorem cells_ct (w : World) (r : Addr) (vs : List Value) (ns : List Int) (hi : IntsAre vs ns) (hlen : ns.length ≤ 63) (news : Led) :
   Ct w 119 [.ref r] 10 100 news (fun h => h.IsList r vs.toArray) fun v nw => ∃ q cv cs, v = .ref q ∧ nw = (q, listOf cv.toArray 0) :: news ∧ IntsAre cv cs ∧ cs.length = 11 ∧ (∀ c ∈ cs, 0 ≤ c ∧ c < 2 ^ 40) ∧ (∀ p ∈ news, p.1 < q) := by
  intro p loose mean mg mb dp un gd cn cs ca ccd cl outer A₀ base h₀ L m s Q E B F X N T hk hC hd hu hret
  have hl0 : h₀.IsList r vs.toArray := stays_list B.stays hC
  (k_with "pyIter ref" => (refine stopI ?_))
  walk_at "enter"
  rename Fr h₀ _ _ _ => FG
  have hl1 := Fr.lst FG hl0
  k_steps
  unfold Stop
  rename IsRange _ _ _ _ _ _ _ _ => hR
  k_dflt refine' iter_rangeUnr (n := ns.length) (by exact rfl) hR (small_one (by omega) (by omega) (by omega) (by omega)) (by rw [rangeSize_nat]; omega) (by k_asm) (by k_asm) ?_
  intro I hI
  have hlI := ltN (hI _ (List.mem_cons_self ..))
  dsimp only at hlI
  have hne : ∀ p ∈ news, p.1 ≠ l' := fun p hp => Nat.ne_of_lt (lnew p hp)
  refine rangeInd (fun i m nw => ∃ cv cs, nw = (l', listOf cv.toArray 0) :: news ∧ IntsAre cv cs ∧ cs.length = 11 ∧ (∀ c ∈ cs, 0 ≤ c ∧ c < 100 + (i : Int) * 1000000) ∧ m "cells" = some (.ref l') ∧ m "script" = some (.ref r)) ?step ?fin _ _ _ _ (Nat.zero_add _) ?init
  case init => exact ⟨_, [0, 28, 45, 2, 1, 0, 2, 0, 1, 3, 2], rfl, by repeat (first | exact .nil | refine .cons _ _ ?_), rfl, by intro c hc; simp only [List.mem_cons, List.not_mem_nil, or_false] at hc; omega, rfl, rfl⟩
  case fin =>
    intro m1 nw hJ hh tk1 F2 N2
    obtain ⟨cv, cs, hnw, hcs, hl2, hb, hmc, hms⟩ := hJ
    subst hnw
    have mm : MapMark := ⟨⟩
    (try dsimp only)
    k_steps
    refine hret _ _ _ _ ⟨l', cv, cs, rfl, rfl, hcs, hl2, fun c hc => ?_, lnew⟩ (by k_asm) (by k_asm)
    have := hb c hc
    omega
  case step =>
    intro i m1 nw hin hJ t hh tk1 F2 N2
    obtain ⟨cv, cs, hnw, hcs, hl2, hb, hmc, hms⟩ := hJ
    subst hnw
    have mm : MapMark := ⟨⟩
    k_steps
    refine UnrEnd.intro (by k_asm) (by k_asm) _ (fun p hp => hp) (List.forall_mem_cons.mpr ⟨Nat.ne_of_lt hlI, fun p hp => Nat.ne_of_lt (hI p (List.mem_cons_of_mem _ hp))⟩) ⟨_, _, rfl, by assumption, ?_, ?_, by walk_at "mlook", by walk_at "mlook"⟩
    · rw [List.length_set]; exact hl2
    · intro c hc
      rcases List.mem_or_eq_of_mem_set hc with h | h
      · have := hb c h
        omega
      · subst h
        have hg : cs.getD (((0 : Int) + (i : Int)).fmod 11).toNat 0 ∈ cs := by
          rw [List.getD_eq_getElem?_getD]
          have hk : (((0 : Int) + (i : Int)).fmod 11).toNat < cs.length := by
            rw [hl2, Int.fmod_eq_emod_of_nonneg _ (by omega)]; omega
          rw [List.getElem?_eq_getElem hk]
          exact List.getElem_mem hk
        have := hb _ hg
        have h9 := fmodM (ns.getD (((0 : Int) + (i : Int))).toNat 0)
        omega
end
section
example (w : World) : (rwQ = rwQ) ∧ (Kq w.params = Kq w.params) := by
  k_with_none
  k_fill
  (k_with "B" => k_asm)
  (k_with "K" => first | exact rfl | assumption)
  (k_with "C" => first | assumption | trivial)
  (k_with "D" => first | (change dp + 1 + _ < _; omega) | omega | ktr_room)
  (k_with "U" => first | (change un + 3 + _ < _; omega) | omega | ktr_units)
  (k_with "call builtin:divmod" => ((with_reducible show wpAny _ _ (call (Value.builtin _) [Value.int _ _, Value.int _ _]) _ _ _); (rename SmallDiv _ => hSd); refine divmod_N (by assumption) (by assumption) (by assumption) ?_ (Or.inl (PyProof.noPylong_of_log2 hSd)); intro _ _ _))
  (k_with "binaryOp FloorDiv int int" => ((rename SmallDiv _ => hSd); refine floordiv_sd hSd (by first | assumption | omega) ?_))
  (k_with "AllLt" => first | assumption | exact And.right (by assumption) | exact And.right (And.right (by assumption)) | exact And.right (And.right (And.right (by assumption))) | exact And.right (And.right (And.right (And.right (by assumption)))) | exact And.right (And.right (And.right (And.right (And.right (by assumption))))) | exact And.right (And.right (And.right (And.right (And.right (And.right (by assumption)))))) | exact And.right (And.right (And.right (And.right (And.right (And.right (And.right (by assumption)))))))  | exact And.right (And.right (And.right (And.right (And.right (And.right (And.right (And.right (by assumption)))))))))
  (k_with "k_all" => first | with_reducible assumption | exact allNe0 (by walk_at "AllLt") | exact allNe1 (by walk_at "AllLt") | exact allNe2 (by walk_at "AllLt") | exact allNe3 (by walk_at "AllLt") | exact List.forall_mem_nil _ | (refine' List.forall_mem_cons.mpr ⟨?_, ?_⟩; (focus k_ne); k_all))
  (k_with "binaryOp Mult ref int" => (k_here; (rename CntOk _ => hCo); k_dflt (refine' mulRep (by k_asm) (by k_asm) (by k_mem) hCo ?_); k_whole; intro l' h' F' N' l1; (try k_lt l1); (try k_sweep)))
  (k_with "enter" => (refine wpAny_call ?_; k_dflt cell_enter))
  (k_with "enter C" => (refine wpAny_call ?_; k_dflt ((refine' code_defC (by k_asm) (by k_asm) (by k_asm) (by k_asm) (by k_asm) (by exact rfl) (by exact rfl) (by assumption) (by k_is) (by k_is) (by ktr_room) (by exact BindsTo.of_eq rfl) (by exact rfl) (by decide +kernel) ?_ (by exact rfl) (by exact rfl) (by exact rfl)); k_whole; intro g' L' h' tk' cells' FG' F' N' Y' B' X' T' l1; (try k_lt l1); k_cells Y'; (try simp only [List.cons_append, List.nil_append] at N'); (try dsimp only); (try k_lift B'); (try k_fold))))
  (k_with "enter N" => (refine wpAny_call ?_; k_dflt (refine' code_nest (by k_asm) (by k_asm) (by k_asm) (by k_asm) (by k_asm) (by exact rfl) (by exact rfl) (by assumption) (by walk_at "inrest") (codeRec_news (by k_asm) (by walk_at "inrest") (by assumption) (by assumption)) (by ktr_room) (by exact BindsTo.of_eq rfl) (by exact locs rfl) ?_ (by exact rfl) (by exact rfl) (by exact rfl) (by decide); k_whole; intro g' L' h' FG' F' N' B' X' T'; (try dsimp only); (try k_lift B'))))
  (k_with "eval Name" => (k_here; kc_free; k_dflt (refine' nameX_F (by k_asm) (by exact rfl) (by walk_at "inrest") (by with_reducible assumption) ?_ (by exact rfl) (by exact rfl)); k_whole))
  (k_with "inrest" => first | with_reducible assumption | exact List.mem_cons_self .. | assumption | (refine List.mem_cons_of_mem _ ?_; walk_at "inrest"))
  (k_with "FnAt" => (k_dflt (exact FnAt.of (by k_asm) (by walk_at "inrest"))))
  (k_with "callWith ref" => (k_here; kn_here; k_dflt (first
    | (refine' callWith_F (FnAt.of (by k_asm) (by walk_at "inrest")) ?_; k_whole)
    | (refine' callWith_F0 (FnAt.of (by k_asm) (by walk_at "inrest")) ?_; k_whole; try dsimp only [List.nil_append, List.cons_append]))))
  (k_with "mulok" => first | assumption | exact PySem.IntMulOk.of_left (bits64 (by omega)) | exact PySem.IntMulOk.of_right (bits64 (by omega)))
  (k_with "binaryOp Mult int int" => (k_here; k_dflt (refine mul_int ?_ (by walk_at "mulok"))))
  (k_with "setItem ref int" => (k_here; (with_reducible show wpAny _ _ (setItem (Value.ref _) (Value.int _ _) (Value.int _ _)) _ _ _); k_dflt (refine' ksa_set (by k_asm) (by k_asm) (by k_upd) (by with_reducible assumption) (by omega) (by omega) (by omega) ?_); k_whole; intro h' F' N' hi' hl' hs'; (try k_sweep)))
  (k_with "nn" => first | omega | ((rename ShB _ => hShB); exact (hShB _ (by omega) (by omega)).1))
  (k_with "lsz" => ((rename ShB _ => hShB); (rename BitsB _ => hBB); first | exact lsz_of (BitsB.fdiv _ hBB) (hShB _ (by omega) (by omega)).2 | exact lsz_of hBB (hShB _ (by omega) (by omega)).2))
  (k_with "binaryOp RShift int int" => (k_here; k_dflt (refine rshift_int (by walk_at "nn") ?_)))
  (k_with "binaryOp RShift int int" => (k_here; with_reducible refine rshift1 ?_))
  (k_with "binaryOp LShift int int" => (k_here; k_dflt (refine lshift_int (by walk_at "nn") (by walk_at "lsz") ?_)))
  (k_with "truthy ref" => (k_dflt (refine' truthyLed (by k_asm) (by walk_at "inrest") (by walk_at "lenfit") ?_); intro _))
  (k_with "lenfit" => first | omega | ((have hl9 := IntsAre.length (by assumption)); (try simp only [List.length_map, List.length_replicate] at *); omega))
  (k_with "subscriptTail" => (k_here; (with_reducible show wpAny _ _ (subscriptTail _ _ (Value.ref _) (Value.int _ _)) _ _ _); k_dflt (refine' ksa_sub (by k_asm) (by walk_at "inrest") (by with_reducible assumption) (by omega) (by first | omega | (rw [List.length_map]; omega)) (by omega) ?_ (by with_unfolding_all rfl)); intro _))
  (k_with "call builtin:list.append" => (k_here; k_dflt (refine' appendLed (by k_asm) (by k_asm) (by k_upd) (by walk_at "lenfit") ?_; k_whole); intro h' F' N'; (try k_sweep)))
  (k_with "call builtin:list.reverse" => (k_here; k_dflt (refine' reverseLed (by k_asm) (by k_asm) (by k_upd) (by walk_at "lenfit") ?_; k_whole); intro h' F' N'; (try k_sweep)))
  (k_with "call type:reversed" => (k_here; (with_reducible show wpAny _ _ (call (Value.type _) [Value.ref _]) _ _ _); k_dflt (refine' krv_reversed (by k_asm) (by k_asm) (News.isList (by k_asm) (by walk_at "inrest")) ?_); intro D' h' F' N' lrev; have l1 := lrev; (try k_lt l1); (try k_sweep)))
  (k_with "mlook" => first | with_reducible assumption | exact if_pos rfl | exact rfl | (refine (if_neg (by decide)).trans ?_; walk_at "mlook"))
  (k_with "eval Name" => (k_here; (rename MapMark => hMM); k_dflt (refine' nameX_L (by k_asm) (by walk_at "mlook") ?_ (by rfl) (by rfl)); k_whole))
  (k_with "newList" => (k_here; (with_reducible refine' newList_K (by k_asm) (by k_asm) ?_ (by exact Nat.le_of_ble_eq_true rfl)); k_whole; intro l' h' F' N' lnew; have l1 := lnew; (try k_lt l1); (try k_sweep)))
  (k_with "lsz" => ((rename BitsB _ => hBB); exact lsz_of hBB (by omega)))
  (k_with "newTuple" => (k_here; k_dflt (refine' newTupLed (by k_asm) (by k_asm) (by exact Nat.le_of_ble_eq_true rfl) ?_; k_whole); intro q' h' F' N' ltup; have l1 := ltup; (try k_lt l1); (try k_sweep)))
  (k_with "pick" => first | exact Pick.head | (apply Pick.tail; walk_at "pick"))
  (k_with "sub" => (intro q9 hq9; repeat (first | exact hsub0 _ hq9 | exact hq9 | apply List.mem_cons_of_mem)))
  (k_with "call builtin:len" => ((with_reducible show wpAny _ _ (call (Value.builtin "len") [Value.ref _]) _ _ _); k_dflt (refine' lenLed (by k_asm) (by walk_at "inrest") (by first | walk_at "lenfit" | (simp only [List.length_replicate]; omega)) ?_)))
  (k_with "exec FunctionDef" => (k_here; kn_here; k_dflt (refine' nestDef_K (by exact rfl) (by exact rfl) (by exact rfl) ?_); k_dflt (refine' nestTab (by k_asm) (by k_asm) (by k_asm) (by kn_code) (by exact rfl) (by k_updF) (by assumption) (by walk_at "sub") (by walk_at "AllLt") (List.mem_cons_self ..) (by exact rfl) ?_; k_whole); intro f' c' oc' vs' t' ct' dc' h' tk' ps' F' N' d1' d2' tc' hin' l1 l2; have hin2 := hin'.imp And.right And.right; (try dsimp only at N'); (try k_lt2 l1); (try k_lt l2)))
  (k_with "strB" => first | assumption | exact (Nat.le_of_ble_eq_true rfl) | (simp only [StrB, List.length_append, List.length_cons, List.length_nil] at *; omega))
  (k_with "subscriptTail" => (k_here; (with_reducible show wpAny _ _ (subscriptTail _ _ (Value.str _ _) (Value.ref _)) _ _ _); k_dflt (first | refine' cut_to (by k_asm) (by k_asm) (by walk_at "strB") (by omega) ?_ | refine' cut_ss (by k_asm) (by k_asm) (by walk_at "strB") (by omega) (by omega) ?_); k_whole; intro h' t' k' F' N'; (try k_sweep)))
  (k_with "call builtin:len" => (k_here; (with_reducible show wpAny _ _ (call (Value.builtin "len") [Value.str _ _]) _ _ _); k_dflt (refine' lenStr (by walk_at "strB") ?_); intro _ _))
  (k_with "binaryOp Add str str" => (k_here; k_dflt (refine' addStr (by walk_at "strB") (by walk_at "strB") ?_); intro _ _))
  (k_with "compareOp Eq str str" => (k_here; k_dflt (first | refine' eqStrB (by walk_at "streq") ?_ | refine' eqStr ?_)))
  (k_with "compareOp NotEq str str" => (k_here; k_dflt (first | refine' neStrB (by walk_at "streq") ?_ | refine' neStr ?_)))
  (k_with "getItem str int" => (k_here; k_dflt (refine' strAt (by walk_at "strB") (by omega) (by walk_at "strat") ?_); intro _))
  (k_with "subscriptTail" => (k_here; (with_reducible show wpAny _ _ (subscriptTail _ _ (Value.str _ _) (Value.int _ _)) _ _ _); k_dflt (refine' strAtT (by walk_at "strB") (by first | omega | assumption) (by walk_at "strat") ?_); k_whole; intro _))
  (k_with "exec While" => (k_here; refine stopI ?_))
  (k_with "exec While Compare" => (k_here; refine stopI ?_))
  (k_with "exec While Compare cons nil" => (k_here; refine stopI ?_))
  (k_with "execs cons" => ((with_reducible refine wpAny_execs_cons ?_); (try k_fold)))
  (k_with "eval Call" => k_fold)
  (k_with "eval BinOp" => k_fold)
  (k_with "isTrue" => k_fold)
  (k_with "isTrue Compare" => k_fold)
  (k_with "isTrue BoolOp" => k_fold)
  (k_with "eval Subscript" => k_fold)
  (k_with "subscriptTail" => k_fold)
  (k_with "compareOp" => k_fold)
  exact ⟨rfl, rfl⟩
set_option maxRecDepth 100000 in
set_option maxHeartbeats 4000000 in
theorem drawn_ct (w : World) (r : Addr) (e : Nat) (cv : List Value) (cs : List Int) (news : Led) (hm : (r, listOf cv.toArray e) ∈ news) (hi : IntsAre cv cs) (hlen : cs.length = 11) (hb : ∀ c ∈ cs, 0 ≤ c ∧ c < 2 ^ 40) :
   Ct w 126 [.ref r] 10 100 news (fun _ => True) fun v nw => ∃ q t ru fa e1 e2 rv fv, v = .ref q ∧ nw = (q, tupObj #[.str (sOf (textF (partsOf (cs.getD 0 0)) cs)) t, .ref ru, .ref fa]) :: (fa, listOf fv.toArray e2) :: (ru, listOf rv.toArray e1) :: news ∧
     IntsAre rv (runsF (partsOf (cs.getD 0 0)) 3) ∧ IntsAre fv (factF cs 3) ∧ (∀ p ∈ news, p.1 < ru) ∧ ru < fa ∧ fa < q := by
  intro p loose mean mg mb dp un gd cn ccs ca ccd cl outer A₀ base h₀ L m s Q E B F X N T hk hC hd hu hret
  (k_with "pyIter ref" => (refine stopI ?_))
  (k_with "call builtin:str.split" => (k_here; k_dflt (refine' splitMk (by unfold marksT; with_reducible rfl) (by with_reducible rfl) (by k_asm) (by k_asm) ?_); intro D h' tk' mv hmv F' N' lD; (try k_lt lD); (try k_sweep)))
  (k_with "nnd" => first | exact (fm3 _).1 | omega)
  (k_with "len100" => first | omega | (simp only [List.length_append, List.length_drop, List.length_take] at *; omega))
  (k_with "subscriptTail Name Slice ref ref" => (k_here; k_dflt (first | refine' sliceFrom (by k_asm) (by k_asm) (by walk_at "inrest") (by with_reducible assumption) (by walk_at "nnd") (by walk_at "len100") ?_ | refine' sliceUpto (by k_asm) (by k_asm) (by walk_at "inrest") (by with_reducible assumption) (by walk_at "nnd") (by walk_at "len100") ?_); k_whole; intro D' ws' h' F' N' l1 hI'; (try k_lt l1); (try k_sweep)))
  (k_with "binaryOp Add ref ref" => (k_here; k_dflt (refine' addLed (by k_asm) (by k_asm) (by walk_at "inrest") (by walk_at "inrest") (by with_reducible assumption) (by with_reducible assumption) (by walk_at "len100") ?_); k_whole; intro D' ws' h' F' N' l1 hI'; (try k_lt l1); (try k_sweep)))
  walk_at "enter"
  k_steps
  rename News _ _ _ (_ :: _) => N9
  k_dflt refine' rowPick N9 (List.mem_cons_self ..) (fm8 _).1 (fm8 _).2 ?qhr ((D, listOf mv.toArray 0) :: news) (fun p hp => by repeat (first | exact hp | apply List.mem_cons_of_mem)) ?qpick
  case qhr =>
    intro k hk
    rcases k with _ | _ | _ | _ | _ | _ | _ | _ | k
    case succ => omega
    all_goals exact ⟨_, _, rfl, by walk_at "inrest", by repeat (first | exact .nil | refine .cons _ _ ?_)⟩
  intro a rv N10 hirv
  clear N9
  have hl3 := chsLen (((cs.getD (Int.toNat 0) 0).fmod 8).toNat) (by have := fm8 (cs.getD (Int.toNat 0) 0); omega)
  have ht3 := fm3 ((cs.getD (Int.toNat 0) 0).fdiv 8)
  (k_with "newList" => (refine stopI ?_))
  k_steps
  unfold Stop
  with_reducible refine' newList_K (by k_asm) (by k_asm) ?_ (by exact Nat.le_of_ble_eq_true rfl)
  k_whole
  intro ru h' F' N' lru
  have l1 := lru
  (try k_lt l1)
  (try k_sweep)
  k_steps
  unfold Stop
  with_reducible refine' newList_K (by k_asm) (by k_asm) ?_ (by exact Nat.le_of_ble_eq_true rfl)
  k_whole
  intro fa h' F' N' lfa
  have l1 := lfa
  (try k_lt l1)
  (try k_sweep)
  k_steps
  unfold Stop
  with_reducible refine' newList_K (by k_asm) (by k_asm) ?_ (by exact Nat.le_of_ble_eq_true rfl)
  k_whole
  intro pc h' F' N' lpc
  have l1 := lpc
  (try k_lt l1)
  (try k_sweep)
  (k_with "newList" => (k_here; (with_reducible refine' newList_K (by k_asm) (by k_asm) ?_ (by exact Nat.le_of_ble_eq_true rfl)); k_whole; intro l' h' F' N' lnew; have l1 := lnew; (try k_lt l1); (try k_sweep)))
  k_steps
  unfold Stop
  rename IsRange _ _ _ _ _ _ _ _ => hR
  rename News _ _ _ (_ :: _) => N12
  have hp := partsOk (cs.getD (Int.toNat 0) 0)
  have hpe : List.drop (((cs.getD (Int.toNat 0) 0).fdiv 8).fmod 3).toNat (chs.getD ((cs.getD (Int.toNat 0) 0).fmod 8).toNat []) ++ List.take (((cs.getD (Int.toNat 0) 0).fdiv 8).fmod 3).toNat (chs.getD ((cs.getD (Int.toNat 0) 0).fmod 8).toNat []) = partsOf (cs.getD (Int.toNat 0) 0) := rfl
  rename IntsAre ws' _ => hI9
  rw [hpe] at hI9
  (k_with "call builtin:list.extend" => (k_here; k_dflt (refine' extendLed (by k_asm) (by k_asm) (by walk_at "inrest") (by k_upd) (List.cons_ne_nil _ _) (by simp only [List.length_cons, List.length_nil]; omega) ?_); k_whole; intro h' F' N'; (try k_sweep)))
  (k_with "subscriptTail Name Name ref int" => (k_here; k_dflt (refine' strPick (by k_asm) (by walk_at "inrest") (by with_reducible assumption) (fm48 _).1 (by exact m48 _) (by decide) ?_); intro _))
  (k_with "binaryOp Mult str int" => (k_here; k_dflt (refine' mulStr2 (by decide +kernel) (by omega) (by omega) ?_); intro _ _))
  (k_with "strB" => first | exact strB_of (len200 (lenRep (by omega))) | exact strB_of (len200 (lenMk _)) | exact strB_of (lenApp (lenRep (by omega)) (lenMk _)))
  have N13 : News _ _ _ ((pc, listOf (List.toArray []) 0) :: (fa, listOf (List.toArray []) 0) :: (ru, listOf (List.toArray []) 0) :: (D', listOf ws'.toArray 0) :: (D, listOf mv.toArray 0) :: news) := fun p hp => N12 p (by
    simp only [List.mem_cons] at hp ⊢
    rcases hp with hp | hp | hp | hp | hp | hp <;> simp only [hp, true_or, or_true])
  clear N12
  k_dflt refine' iter_rangeUnr (n := 3) (by exact rfl) hR (small_one (by decide) (by decide) (by decide) (by decide)) (by decide) (by k_asm) N13 ?_
  intro I hI
  have hIp := ltN (hI _ (List.mem_cons_self ..))
  dsimp only at hIp
  have hI5 : pc < I ∧ fa < I ∧ ru < I ∧ D' < I ∧ D < I ∧ ∀ p ∈ news, p.1 < I := ⟨hI _ (.head _), hI _ (.tail _ (.head _)), hI _ (.tail _ (.tail _ (.head _))), hI _ (.tail _ (.tail _ (.tail _ (.head _)))), hI _ (.tail _ (.tail _ (.tail _ (.tail _ (.head _))))), fun p hp => hI p (.tail _ (.tail _ (.tail _ (.tail _ (.tail _ hp)))))⟩
  have hnpc : ∀ p ∈ news, p.1 ≠ pc := fun p hp => Nat.ne_of_lt (lpc p (by repeat (first | exact hp | apply List.mem_cons_of_mem)))
  refine rangeInd (fun i m nw => ∃ rv fv pv e1 e2 e3, nw = (pc, listOf pv.toArray e3) :: (fa, listOf fv.toArray e2) :: (ru, listOf rv.toArray e1) :: (D', listOf ws'.toArray 0) :: (D, listOf mv.toArray 0) :: news ∧
    IntsAre rv (runsF (partsOf (cs.getD (Int.toNat 0) 0)) i) ∧ IntsAre fv (factF cs i) ∧ StrsAre pv (piecesF (partsOf (cs.getD (Int.toNat 0) 0)) cs i) ∧
    m "cells" = some (.ref r) ∧ m "marks" = some (.ref D) ∧ m "parts" = some (.ref D') ∧ m "runs" = some (.ref ru) ∧ m "factors" = some (.ref fa) ∧ m "pieces" = some (.ref pc)) ?step ?fin _ _ _ _ (Nat.zero_add _) ?init
  case init => exact ⟨[], [], [], _, _, _, rfl, .nil, .nil, .nil, rfl, rfl, rfl, rfl, rfl, rfl⟩
  case fin =>
    intro m1 nw hJ hh tk1 F2 N2
    obtain ⟨rv, fv, pv, e1, e2, e3, hnw, hrv, hfv, hpv, hmc, hmm, hmp, hmr, hmf, hmpc⟩ := hJ
    subst hnw
    have mm : MapMark := ⟨⟩
    (k_with "call builtin:str.join" => (k_here; k_dflt (refine' joinPc2 (by decide +kernel) (by k_asm) (by walk_at "inrest") (by with_reducible assumption) (fun k hk => pieceLen _ _ k hk) ?_); intro _ _))
    (try dsimp only)
    k_steps
    rename News _ _ _ ((q', _) :: _) => N20
    exact hret _ _ _ _ ⟨q', _, ru, fa, e1, e2, rv, fv, rfl, rfl, hrv, hfv, fun p hp => lru p (by repeat (first | exact hp | apply List.mem_cons_of_mem)), lfa _ (.head _), ltup _ (.tail _ (.head _))⟩ (by k_asm) (drawnEnd N20)
  case step =>
    intro i m1 nw hin hJ t hh tk1 F2 N2
    obtain ⟨rv, fv, pv, e1, e2, e3, hnw, hrv, hfv, hpv, hmc, hmm, hmp, hmr, hmf, hmpc⟩ := hJ
    subst hnw
    have mm : MapMark := ⟨⟩
    rw [Int.zero_add] at F2
    have hq : 1 ≤ (partsOf (cs.getD (Int.toNat 0) 0)).getD ((i : Int)).toNat 0 ∧ (partsOf (cs.getD (Int.toNat 0) 0)).getD ((i : Int)).toNat 0 + 2 ≤ (partsOf (cs.getD (Int.toNat 0) 0)).sum := hp.2.2.2 i hin
    have hpl := hp.1
    have hp7 := hp.2.1
    have hrl : rv.length ≤ 10 := by rw [hrv.length, runsF_len]; omega
    have hfl : fv.length ≤ 10 := by rw [hfv.length, factF, List.length_map, List.length_range]; omega
    have hpvl : pv.length ≤ 10 := by rw [hpv.length, piecesF, List.length_map, List.length_range]; omega
    k_steps
    refine UnrEnd.intro (by k_asm) (by k_asm) ((pc, listOf (pv ++ [_]).toArray (e3 + 1)) :: (fa, listOf (fv ++ [_]).toArray (e2 + 1)) :: (ru, listOf (rv ++ [_, _]).toArray (e1 + 1)) :: (D', listOf ws'.toArray 0) :: (D, listOf mv.toArray 0) :: news)
      (fun p hp => by rcases List.mem_cons.mp hp with q | hp; rw [q]; exact List.mem_cons_of_mem _ (List.mem_cons_self ..); exact List.mem_cons_of_mem _ (List.mem_cons_of_mem _ hp)) ?qoff
      ⟨_, _, _, _, _, _, rfl, ?qi1, ?qi2, ?qi3, by walk_at "mlook", by walk_at "mlook", by walk_at "mlook", by walk_at "mlook", by walk_at "mlook", by walk_at "mlook"⟩
    case qoff =>
      exact List.forall_mem_cons.mpr ⟨Nat.ne_of_lt hI5.1, List.forall_mem_cons.mpr ⟨Nat.ne_of_lt hI5.2.1, List.forall_mem_cons.mpr ⟨Nat.ne_of_lt hI5.2.2.1, List.forall_mem_cons.mpr ⟨Nat.ne_of_lt hI5.2.2.2.1, List.forall_mem_cons.mpr ⟨Nat.ne_of_lt hI5.2.2.2.2.1, fun p hp => Nat.ne_of_lt (hI5.2.2.2.2.2 p hp)⟩⟩⟩⟩⟩
    case qi1 => rw [runsF_succ]; exact intsApp hrv (.cons _ _ (.cons _ _ .nil))
    case qi2 => rw [factF_succ]; exact intsApp hfv (.cons _ _ .nil)
    case qi3 => rw [piecesF_succ]; exact strsSnoc hpv
end
/-- the table of the operators, as the text writes it -/
noncomputable def T89 : List (Str × Int) := ((stKeys (stQ 63)).zip tokK).map fun x => (exStr x.1.1, x.2.2.1)
noncomputable def D89 : List (Str × KTD.Dat) := T89.map fun p => (p.1, .flat (.int p.2))
noncomputable def look89 (l : List Nat) : Option Int := KTD.datumAt (sOf l) T89
theorem rows89 {P : Params} {h : Heap} : ∀ l : List ((PySem.Expr × PySem.Expr) × (Nat × Int × Nat)), KTD.Rows (KTD.Dat.At h) (l.map fun x => enK P (exStr x.1.1) x.2.1 (.int x.2.2.1 x.2.2.2)) ((l.map fun x => (exStr x.1.1, x.2.2.1)).map fun p => (p.1, KTD.Dat.flat (.int p.2)))
  | [] => .nil
  | x :: l => .cons (t := x.2.1) rfl (fun _ => .int _ _) (rows89 l)
theorem tab89 {P : Params} {h : Heap} (X : (Kq P).In h) : KTD.TextTab h 89 D89 :=
  ⟨by decide, dict89 P, _, _, X 89 _ rfl, ⟨rfl, rfl, rfl⟩, rfl, rows89 _⟩
theorem datum89 (k : Str) : ∀ T : List (Str × Int), KTD.datumAt k (T.map fun p => (p.1, KTD.Dat.flat (.int p.2))) = (KTD.datumAt k T).map fun n => KTD.Dat.flat (.int n)
  | [] => rfl
  | p :: T => by
    unfold KTD.datumAt
    rw [List.map_cons]
    dsimp only
    split
    · rfl
    · exact datum89 k T
theorem keys89 (l : List Nat) : KTD.inKeys (sOf l) D89 = (look89 l).isSome := by
  rw [← KTD.isSome_datumAt, D89, datum89, look89]
  cases KTD.datumAt (sOf l) T89 <;> rfl
/-- how wide the longest operator is that opens r; else one sign -/
noncomputable def wd (r : List Nat) : Nat := if (look89 (r.take 3)).isSome then 3 else if (look89 (r.take 2)).isSome then 2 else 1
inductive Syms : List Nat → List Int → Prop
  | nil : Syms [] []
  | cons {c : Nat} {r : List Nat} {ns : List Int} : Syms ((c :: r).drop (wd (c :: r))) ns → Syms (c :: r) ((look89 ((c :: r).take (wd (c :: r)))).getD (256 + (c : Int)) :: ns)
theorem wdOk {r : List Nat} {W : Nat} (h1 : 1 ≤ W) (h3 : W ≤ 3) (hno : ∀ j, W < j → j ≤ 3 → look89 (r.take j) = none) (hx : W = 1 ∨ (look89 (r.take W)).isSome = true) : W = wd r := by
  unfold wd
  have e : W = 1 ∨ W = 2 ∨ W = 3 := by omega
  rcases e with e | e | e <;> subst e
  · rw [hno 3 (by decide) (by decide), hno 2 (by decide) (by decide)]; rfl
  · rw [hno 3 (by decide) (by decide)]
    rcases hx with hx | hx
    · cases hx
    · rw [hx]; rfl
  · rcases hx with hx | hx
    · cases hx
    · rw [hx]; rfl
theorem dropLen (x : List Nat) (k W : Nat) : x.drop (k + ((x.drop k).take W).length) = (x.drop k).drop W := by
  rw [← List.drop_drop]
  rw [List.length_take]
  by_cases h : W ≤ (x.drop k).length
  · rw [Nat.min_eq_left h]
  · rw [Nat.min_eq_right (by omega), List.drop_of_length_le (Nat.le_refl _), List.drop_of_length_le (by omega)]
section
variable {prog : Program} {w : World} {A : Around} {E : Value → Shared → Prop} {s : Shared} {value slice : PySem.Expr} {x : List Nat} {t u : Tok} {h₀ : Heap} {L : Addr} {m : Str → Option Value} {news : Led} {Q : Value → Shared → Prop}
theorem cut_kw {k W : Nat} {ui uj : Tok} (hF : Fr h₀ L s.heap m) (hN : News h₀ L s.heap news) (hb : StrB x) (h : ∀ h' t' k', Fr h₀ L h' m → News h₀ L h' news → Q (.str (sOf ((x.drop k).take W)) t') { s with heap := h', toks := k' })
    (hs : subscripted slice false (.str (sOf x) t) (.ref s.heap.objs.size) = operate [.ref s.heap.objs.size, .str (sOf x) t] (getItem (.str (sOf x) t) (.ref s.heap.objs.size)) := by with_unfolding_all rfl)
    (ht : ∀ r, letTemporaryGo value (.str (sOf x) t) r = pure () := by intro _; with_unfolding_all rfl) :
    wpAny (model prog w) A (subscriptTail value slice (.str (sOf x) t) (.ref s.heap.objs.size)) Q E { s with heap := s.heap.push { cls := .type "slice", data := .fields #[.int (k : Int) ui, .int ((k : Int) + (W : Int)) uj, .none] } } := by
  refine cut_ss hF hN hb (Int.natCast_nonneg k) (by omega) (fun h' t' k' F N => ?_) hs ht
  rw [show ((k : Int) + (W : Int)).toNat - ((k : Int)).toNat = W by omega, Int.toNat_natCast]
  exact h h' t' k' F N
theorem notin89 {P : Params} (X : (Kq P).In h₀) (F : Fr h₀ L s.heap m) (h : ∀ tk, Q (.bool (!(look89 x).isSome)) { s with toks := tk }) : wpAny (model prog w) A (compareOp .NotIn (.str (sOf x) t) (.ref 89)) Q E s :=
  KTD.notin_text ⟨tab89 X, F.keep⟩ (by rw [keys89]; exact h _)
theorem getM89 {P : Params} {pl : Sem Bool} {Q : Value × List Value → Shared → Prop} (X : (Kq P).In h₀) (F : Fr h₀ L s.heap m) (h : Q (.builtin "dict.get", [.ref 89]) s) : wpAny (model prog w) A (getMethod (.ref 89) "get" pl) Q E s :=
  KTD.getMethod_text ⟨tab89 X, F.keep⟩ h
theorem get89 {P : Params} {d : Int} (X : (Kq P).In h₀) (F : Fr h₀ L s.heap m) (h : ∀ t tk, Q (.int ((look89 x).getD d) t) { s with toks := tk }) : wpAny (model prog w) A (call (.builtin "dict.get") [.ref 89, .str (sOf x) t, .int d u]) Q E s := by
  refine call_meetsIn PySem.F.slot_dict_get (KTD.Here.typeIs ⟨tab89 X, F.keep⟩) PySem.F.entry_dict_get (PySem.F.args_dict_get_3 _ _ _) (KTD.meets_get2 (h₀ := h₀) (D := D89)) ⟨⟨tab89 X, F.keep⟩, fun dd v ha hv => ?_, fun hn => ?_⟩
  · rw [D89, datum89] at ha
    cases hl : KTD.datumAt (sOf x) T89 with
    | none => rw [hl] at ha; cases ha
    | some n =>
      rw [hl] at ha
      cases ha
      obtain ⟨t', e, _⟩ := reads_int_inv (hv h₀)
      subst e
      have := h t' (s.toks + 1)
      rw [look89, hl] at this
      exact this
  · rw [D89, datum89] at hn
    cases hl : KTD.datumAt (sOf x) T89 with
    | none =>
      have := h u (s.toks + 1)
      rw [look89, hl] at this
      exact this
    | some n => rw [hl] at hn; cases hn
theorem ordOne {c : Nat} (h : ∀ t' tk, Q (.int (c : Nat) t') { s with toks := tk }) : wpAny (model prog w) A (call (.builtin "ord") [.str (sOf [c]) t]) Q E s := ord_of_one rfl (h _ _)
end
noncomputable def WhFin (h₀ : Heap) (L : Addr) (s : Shared) (Fin : (Str → Option Value) → Led → Prop) (f : Flow) (s₂ : Shared) : Prop := f = .next ∧ ∃ h tk m nw, s₂ = { s with heap := h, toks := tk } ∧ Fr h₀ L h m ∧ News h₀ L h nw ∧ Fin m nw
section
variable {prog : Program} {w : World} {A : Around} {E : Value → Shared → Prop} {Q : Flow → Shared → Prop} {s : Shared} {env : Env} {h₀ : Heap} {L : Addr}
/-- a while whose ways out meet -/
theorem While_inv3 {test : PySem.Expr} {body : List Stmt} {pos : Pos} {m : Str → Option Value} {news : Led} (J : Nat → (Str → Option Value) → Led → Prop) (Fin : (Str → Option Value) → Led → Prop) {n₀ : Nat}
    (F : Fr h₀ L s.heap m) (N : News h₀ L s.heap news) (hJ : J n₀ m news)
    (turn : ∀ n m₁ news₁ h₁ tk₁, Fr h₀ L h₁ m₁ → News h₀ L h₁ news₁ → J n m₁ news₁ →
      wpAny (model prog w) A (isTrue test env (eval test env)) (fun b s₂ =>
        if b = true then wpAny (model prog w) A (execs body env) (WhileStep2 h₀ L s J (WhFin h₀ L s Fin) n) E s₂ else WhFin h₀ L s Fin .next s₂) E { s with heap := h₁, toks := tk₁ })
    (rest : ∀ m nw h tk, Fin m nw → Fr h₀ L h m → News h₀ L h nw → Q .next { s with heap := h, toks := tk })
    (hE : PassesOwn (model prog w) A env E) : wpAny (model prog w) A (exec (.While test body [] pos) env) Q E s := by
  refine wpAny_mono (While_inv2 (Q := WhFin h₀ L s Fin) J F N hJ turn hE) (fun f s' h => ?_) fun _ _ e => e
  obtain ⟨rfl, h, tk, m, nw, rfl, F, N, hf⟩ := h
  exact rest m nw h tk hf F N
end
section
example (w : World) : (rwQ = rwQ) ∧ (Kq w.params = Kq w.params) := by
  k_with_none
  k_fill
  (k_with "B" => k_asm)
  (k_with "K" => first | exact rfl | assumption)
  (k_with "C" => first | assumption | trivial)
  (k_with "D" => first | (change dp + 1 + _ < _; omega) | omega | ktr_room)
  (k_with "U" => first | (change un + 3 + _ < _; omega) | omega | ktr_units)
  (k_with "call builtin:divmod" => ((with_reducible show wpAny _ _ (call (Value.builtin _) [Value.int _ _, Value.int _ _]) _ _ _); (rename SmallDiv _ => hSd); refine divmod_N (by assumption) (by assumption) (by assumption) ?_ (Or.inl (PyProof.noPylong_of_log2 hSd)); intro _ _ _))
  (k_with "binaryOp FloorDiv int int" => ((rename SmallDiv _ => hSd); refine floordiv_sd hSd (by first | assumption | omega) ?_))
  (k_with "AllLt" => first | assumption | exact And.right (by assumption) | exact And.right (And.right (by assumption)) | exact And.right (And.right (And.right (by assumption))) | exact And.right (And.right (And.right (And.right (by assumption)))) | exact And.right (And.right (And.right (And.right (And.right (by assumption))))) | exact And.right (And.right (And.right (And.right (And.right (And.right (by assumption)))))) | exact And.right (And.right (And.right (And.right (And.right (And.right (And.right (by assumption)))))))  | exact And.right (And.right (And.right (And.right (And.right (And.right (And.right (And.right (by assumption)))))))))
  (k_with "k_all" => first | with_reducible assumption | exact allNe0 (by walk_at "AllLt") | exact allNe1 (by walk_at "AllLt") | exact allNe2 (by walk_at "AllLt") | exact allNe3 (by walk_at "AllLt") | exact List.forall_mem_nil _ | (refine' List.forall_mem_cons.mpr ⟨?_, ?_⟩; (focus k_ne); k_all))
  (k_with "binaryOp Mult ref int" => (k_here; (rename CntOk _ => hCo); k_dflt (refine' mulRep (by k_asm) (by k_asm) (by k_mem) hCo ?_); k_whole; intro l' h' F' N' l1; (try k_lt l1); (try k_sweep)))
  (k_with "enter" => (refine wpAny_call ?_; k_dflt cell_enter))
  (k_with "enter C" => (refine wpAny_call ?_; k_dflt ((refine' code_defC (by k_asm) (by k_asm) (by k_asm) (by k_asm) (by k_asm) (by exact rfl) (by exact rfl) (by assumption) (by k_is) (by k_is) (by ktr_room) (by exact BindsTo.of_eq rfl) (by exact rfl) (by decide +kernel) ?_ (by exact rfl) (by exact rfl) (by exact rfl)); k_whole; intro g' L' h' tk' cells' FG' F' N' Y' B' X' T' l1; (try k_lt l1); k_cells Y'; (try simp only [List.cons_append, List.nil_append] at N'); (try dsimp only); (try k_lift B'); (try k_fold))))
  (k_with "enter N" => (refine wpAny_call ?_; k_dflt (refine' code_nest (by k_asm) (by k_asm) (by k_asm) (by k_asm) (by k_asm) (by exact rfl) (by exact rfl) (by assumption) (by walk_at "inrest") (codeRec_news (by k_asm) (by walk_at "inrest") (by assumption) (by assumption)) (by ktr_room) (by exact BindsTo.of_eq rfl) (by exact locs rfl) ?_ (by exact rfl) (by exact rfl) (by exact rfl) (by decide); k_whole; intro g' L' h' FG' F' N' B' X' T'; (try dsimp only); (try k_lift B'))))
  (k_with "eval Name" => (k_here; kc_free; k_dflt (refine' nameX_F (by k_asm) (by exact rfl) (by walk_at "inrest") (by with_reducible assumption) ?_ (by exact rfl) (by exact rfl)); k_whole))
  (k_with "inrest" => first | with_reducible assumption | exact List.mem_cons_self .. | assumption | (refine List.mem_cons_of_mem _ ?_; walk_at "inrest"))
  (k_with "FnAt" => (k_dflt (exact FnAt.of (by k_asm) (by walk_at "inrest"))))
  (k_with "callWith ref" => (k_here; kn_here; k_dflt (first
    | (refine' callWith_F (FnAt.of (by k_asm) (by walk_at "inrest")) ?_; k_whole)
    | (refine' callWith_F0 (FnAt.of (by k_asm) (by walk_at "inrest")) ?_; k_whole; try dsimp only [List.nil_append, List.cons_append]))))
  (k_with "mulok" => first | assumption | exact PySem.IntMulOk.of_left (bits64 (by omega)) | exact PySem.IntMulOk.of_right (bits64 (by omega)))
  (k_with "binaryOp Mult int int" => (k_here; k_dflt (refine mul_int ?_ (by walk_at "mulok"))))
  (k_with "setItem ref int" => (k_here; (with_reducible show wpAny _ _ (setItem (Value.ref _) (Value.int _ _) (Value.int _ _)) _ _ _); k_dflt (refine' ksa_set (by k_asm) (by k_asm) (by k_upd) (by with_reducible assumption) (by omega) (by omega) (by omega) ?_); k_whole; intro h' F' N' hi' hl' hs'; (try k_sweep)))
  (k_with "nn" => first | omega | ((rename ShB _ => hShB); exact (hShB _ (by omega) (by omega)).1))
  (k_with "lsz" => ((rename ShB _ => hShB); (rename BitsB _ => hBB); first | exact lsz_of (BitsB.fdiv _ hBB) (hShB _ (by omega) (by omega)).2 | exact lsz_of hBB (hShB _ (by omega) (by omega)).2))
  (k_with "binaryOp RShift int int" => (k_here; k_dflt (refine rshift_int (by walk_at "nn") ?_)))
  (k_with "binaryOp RShift int int" => (k_here; with_reducible refine rshift1 ?_))
  (k_with "binaryOp LShift int int" => (k_here; k_dflt (refine lshift_int (by walk_at "nn") (by walk_at "lsz") ?_)))
  (k_with "truthy ref" => (k_dflt (refine' truthyLed (by k_asm) (by walk_at "inrest") (by walk_at "lenfit") ?_); intro _))
  (k_with "lenfit" => first | omega | ((have hl9 := IntsAre.length (by assumption)); (try simp only [List.length_map, List.length_replicate] at *); omega))
  (k_with "subscriptTail" => (k_here; (with_reducible show wpAny _ _ (subscriptTail _ _ (Value.ref _) (Value.int _ _)) _ _ _); k_dflt (refine' ksa_sub (by k_asm) (by walk_at "inrest") (by with_reducible assumption) (by omega) (by first | omega | (rw [List.length_map]; omega)) (by omega) ?_ (by with_unfolding_all rfl)); intro _))
  (k_with "call builtin:list.append" => (k_here; k_dflt (refine' appendLed (by k_asm) (by k_asm) (by k_upd) (by walk_at "lenfit") ?_; k_whole); intro h' F' N'; (try k_sweep)))
  (k_with "call builtin:list.reverse" => (k_here; k_dflt (refine' reverseLed (by k_asm) (by k_asm) (by k_upd) (by walk_at "lenfit") ?_; k_whole); intro h' F' N'; (try k_sweep)))
  (k_with "call type:reversed" => (k_here; (with_reducible show wpAny _ _ (call (Value.type _) [Value.ref _]) _ _ _); k_dflt (refine' krv_reversed (by k_asm) (by k_asm) (News.isList (by k_asm) (by walk_at "inrest")) ?_); intro D' h' F' N' lrev; have l1 := lrev; (try k_lt l1); (try k_sweep)))
  (k_with "mlook" => first | with_reducible assumption | exact if_pos rfl | exact rfl | (refine (if_neg (by decide)).trans ?_; walk_at "mlook"))
  (k_with "eval Name" => (k_here; (rename MapMark => hMM); k_dflt (refine' nameX_L (by k_asm) (by walk_at "mlook") ?_ (by rfl) (by rfl)); k_whole))
  (k_with "newList" => (k_here; (with_reducible refine' newList_K (by k_asm) (by k_asm) ?_ (by exact Nat.le_of_ble_eq_true rfl)); k_whole; intro l' h' F' N' lnew; have l1 := lnew; (try k_lt l1); (try k_sweep)))
  (k_with "lsz" => ((rename BitsB _ => hBB); exact lsz_of hBB (by omega)))
  (k_with "newTuple" => (k_here; k_dflt (refine' newTupLed (by k_asm) (by k_asm) (by exact Nat.le_of_ble_eq_true rfl) ?_; k_whole); intro q' h' F' N' ltup; have l1 := ltup; (try k_lt l1); (try k_sweep)))
  (k_with "pick" => first | exact Pick.head | (apply Pick.tail; walk_at "pick"))
  (k_with "sub" => (intro q9 hq9; repeat (first | exact hsub0 _ hq9 | exact hq9 | apply List.mem_cons_of_mem)))
  (k_with "call builtin:len" => ((with_reducible show wpAny _ _ (call (Value.builtin "len") [Value.ref _]) _ _ _); k_dflt (refine' lenLed (by k_asm) (by walk_at "inrest") (by first | walk_at "lenfit" | (simp only [List.length_replicate]; omega)) ?_)))
  (k_with "exec FunctionDef" => (k_here; kn_here; k_dflt (refine' nestDef_K (by exact rfl) (by exact rfl) (by exact rfl) ?_); k_dflt (refine' nestTab (by k_asm) (by k_asm) (by k_asm) (by kn_code) (by exact rfl) (by k_updF) (by assumption) (by walk_at "sub") (by walk_at "AllLt") (List.mem_cons_self ..) (by exact rfl) ?_; k_whole); intro f' c' oc' vs' t' ct' dc' h' tk' ps' F' N' d1' d2' tc' hin' l1 l2; have hin2 := hin'.imp And.right And.right; (try dsimp only at N'); (try k_lt2 l1); (try k_lt l2)))
  (k_with "strB" => first | assumption | exact (Nat.le_of_ble_eq_true rfl) | (simp only [StrB, List.length_append, List.length_cons, List.length_nil] at *; omega))
  (k_with "subscriptTail" => (k_here; (with_reducible show wpAny _ _ (subscriptTail _ _ (Value.str _ _) (Value.ref _)) _ _ _); k_dflt (first | refine' cut_to (by k_asm) (by k_asm) (by walk_at "strB") (by omega) ?_ | refine' cut_ss (by k_asm) (by k_asm) (by walk_at "strB") (by omega) (by omega) ?_); k_whole; intro h' t' k' F' N'; (try k_sweep)))
  (k_with "call builtin:len" => (k_here; (with_reducible show wpAny _ _ (call (Value.builtin "len") [Value.str _ _]) _ _ _); k_dflt (refine' lenStr (by walk_at "strB") ?_); intro _ _))
  (k_with "binaryOp Add str str" => (k_here; k_dflt (refine' addStr (by walk_at "strB") (by walk_at "strB") ?_); intro _ _))
  (k_with "compareOp Eq str str" => (k_here; k_dflt (first | refine' eqStrB (by walk_at "streq") ?_ | refine' eqStr ?_)))
  (k_with "compareOp NotEq str str" => (k_here; k_dflt (first | refine' neStrB (by walk_at "streq") ?_ | refine' neStr ?_)))
  (k_with "getItem str int" => (k_here; k_dflt (refine' strAt (by walk_at "strB") (by omega) (by walk_at "strat") ?_); intro _))
  (k_with "subscriptTail" => (k_here; (with_reducible show wpAny _ _ (subscriptTail _ _ (Value.str _ _) (Value.int _ _)) _ _ _); k_dflt (refine' strAtT (by walk_at "strB") (by first | omega | assumption) (by walk_at "strat") ?_); k_whole; intro _))
  (k_with "exec While" => (k_here; refine stopI ?_))
  (k_with "exec While Compare" => (k_here; refine stopI ?_))
  (k_with "exec While Compare cons nil" => (k_here; refine stopI ?_))
  (k_with "execs cons" => ((with_reducible refine wpAny_execs_cons ?_); (try k_fold)))
  (k_with "eval Call" => k_fold)
  (k_with "eval BinOp" => k_fold)
  (k_with "isTrue" => k_fold)
  (k_with "isTrue Compare" => k_fold)
  (k_with "isTrue BoolOp" => k_fold)
  (k_with "eval Subscript" => k_fold)
  (k_with "subscriptTail" => k_fold)
  (k_with "compareOp" => k_fold)
  exact ⟨rfl, rfl⟩
theorem takeWd {x : List Nat} {k c : Nat} {r : List Nat} (h : x.drop k = c :: r) : 0 < ((x.drop k).take (wd (x.drop k))).length := by
  have hw : 1 ≤ wd (x.drop k) := by unfold wd; split; decide; split <;> decide
  rw [List.length_take, h, List.length_cons]
  rw [h] at hw
  omega
theorem strTake {x : List Nat} {k W : Nat} (h : StrB x) : StrB ((x.drop k).take W) := by
  unfold StrB at *
  rw [List.length_take, List.length_drop]
  omega
set_option maxRecDepth 100000 in
set_option maxHeartbeats 1000000 in
theorem symbols_ct (w : World) (x : List Nat) (ns : List Int) (hsy : Syms x ns) (hxl : x.length ≤ 100) (t : Tok) (news : Led) :
   Ct w 133 [.str (sOf x) t] 10 100 news (fun _ => True) fun v nw => ∃ q sv e, v = .ref q ∧ nw = (q, listOf sv.toArray e) :: news ∧ IntsAre sv (ns ++ [0]) ∧ (∀ p ∈ news, p.1 < q) := by
  intro p loose mean mg mb dp un gd cn ccs ca ccd cl outer A₀ base h₀ L m s Q E B F X N T hk hC hd hu hret
  have hb : StrB x := Nat.le_trans hxl (by decide)
  (k_with "subscriptTail Name Slice str ref" => (k_here; k_dflt (refine' cut_kw (by k_asm) (by k_asm) hb ?_); k_whole; intro h' t' k' F' N'; (try k_sweep)))
  (k_with "compareOp NotIn str ref" => (k_here; k_dflt (refine' notin89 (by assumption) (by k_asm) ?_); intro _))
  (k_with "getMethod ref" => (k_here; (with_reducible show wpAny _ _ (getMethod (Value.ref 89) _ _) _ _ _); k_dflt (refine' getM89 (by assumption) (by k_asm) ?_)))
  (k_with "call builtin:dict.get" => (k_here; k_dflt (refine' get89 (by assumption) (by k_asm) ?_); intro _ _))
  (k_with "call builtin:ord" => (k_here; k_dflt (refine' ordOne ?_); intro _ _))
  (k_with "loadName" => (k_here; (rename MapMark => hMM); k_dflt (refine' ldn (by k_asm) (by walk_at "mlook") ?_ (by exact rfl) (by exact rfl)); k_whole))
  (k_with "subscriptTail Name Name str int" => (k_here; k_dflt (refine' strAtT hb (Int.natCast_nonneg _) (by walk_at "strat") ?_); k_whole; intro _))
  walk_at "enter"
  k_steps
  unfold Stop
  rename News _ _ _ (_ :: _) => N2
  rename Fr _ _ _ _ => F2
  k_dflt refine' While_inv2 (fun n m nw => ∃ (k : Nat) (done rest : List Int) (sv : List Value) (e : Nat) (tk tr : Tok), nw = (l', listOf sv.toArray e) :: news ∧ k ≤ x.length ∧ n = x.length - k ∧ Syms (x.drop k) rest ∧ ns = done ++ rest ∧ done.length ≤ k ∧ IntsAre sv done ∧ m "k" = some (.int (k : Nat) tk) ∧ m "name" = some (.str (sOf x) tr) ∧ m "symbols" = some (.ref l')) (n₀ := x.length)
    F2 N2 ⟨0, [], ns, [], 0, _, _, rfl, Nat.zero_le _, rfl, hsy, rfl, Nat.zero_le _, .nil, rfl, rfl, rfl⟩ ?turn ?hE
  case hE => first | passes_own | with_unfolding_all passes_own
  case turn =>
    intro n m1 nw h1 tk1 F3 N3 hJ
    obtain ⟨k, done, rest, sv, e, ti, tr, hnw, hkl, hn, hsr, hns, hdk, hsv, hmk, hmn, hms⟩ := hJ
    subst hnw
    have mm : MapMark := ⟨⟩
    cases hdx : x.drop k with
    | nil =>
      have hkx : k = x.length := by have := congrArg List.length hdx; rw [List.length_drop] at this; simp at this; omega
      rw [hdx] at hsr
      cases hsr
      rw [List.append_nil] at hns
      have hdl : sv.length ≤ 200 := by rw [hsv.length]; omega
      k_steps
      refine hret _ _ _ _ ⟨l', _, _, rfl, rfl, ?_, lnew⟩ (by k_asm) (by k_asm)
      rw [hns]
      exact intsApp hsv (.cons _ _ .nil)
    | cons c r =>
      have hkx : k < x.length := by have := congrArg List.length hdx; rw [List.length_drop] at this; simp at this; omega
      have hat : x[((k : Nat) : Int).toNat]? = some c := by
        rw [Int.toNat_natCast]
        have := congrArg (fun l => l[0]?) hdx
        simpa using this
      have hdl : sv.length ≤ 200 := by rw [hsv.length]; omega
      (k_with "strat" => exact hat)
      rw [hdx] at hsr
      have hsr2 := hsr
      k_steps
      unfold Stop
      rename News _ _ _ (_ :: _) => N4
      rename Fr _ _ _ _ => F4
      k_dflt refine' While_inv3 (fun n m nw => ∃ (W : Nat) (tw : Tok), nw = (l', listOf sv.toArray e) :: news ∧ n = W ∧ 1 ≤ W ∧ W ≤ 3 ∧ (∀ j, W < j → j ≤ 3 → look89 ((x.drop k).take j) = none) ∧ m "wide" = some (.int (W : Nat) tw) ∧ m "k" = some (.int (k : Nat) ti) ∧ m "name" = some (.str (sOf x) tr) ∧ m "symbols" = some (.ref l'))
        (fun m nw => ∃ (tw : Tok), nw = (l', listOf sv.toArray e) :: news ∧ m "wide" = some (.int (wd (x.drop k) : Nat) tw) ∧ m "k" = some (.int (k : Nat) ti) ∧ m "name" = some (.str (sOf x) tr) ∧ m "symbols" = some (.ref l')) (n₀ := 3)
        F4 N4 ⟨3, _, rfl, rfl, by decide, by decide, fun j h1 h2 => absurd h1 (by omega), rfl, hmk, hmn, hms⟩ ?turn2 ?rest2 ?hE2
      case hE2 => first | passes_own | with_unfolding_all passes_own
      case turn2 =>
        intro n2 m2 nw2 h2 tk2 F5 N5 hJ2
        obtain ⟨W, tw, hnw2, hn2, hW1, hW3, hno, hmw2, hmk2, hmn2, hms2⟩ := hJ2
        subst hnw2
        k_steps
        · rename (look89 _).isSome = true => hfound
          exact ⟨rfl, _, _, _, _, rfl, by k_asm, by k_asm, tw, rfl, by rw [← wdOk hW1 hW3 hno (Or.inr hfound)]; exact hmw2, hmk2, hmn2, hms2⟩
        · rename (1 : Int) < _ => hgt
          have hW : 2 ≤ W := by omega
          refine ⟨_, _, _, _, W - 1, rfl, by k_asm, by k_asm, by omega, W - 1, _, rfl, rfl, by omega, by omega, ?_, by rw [show ((W - 1 : Nat) : Int) = (W : Int) - 1 by omega]; walk_at "mlook", by walk_at "mlook", by walk_at "mlook", by walk_at "mlook"⟩
          intro j hj1 hj2
          by_cases e : j = W
          · subst e
            rename (look89 _).isSome = false => hmiss
            exact Option.isNone_iff_eq_none.mp (by rw [← Option.not_isSome, hmiss]; rfl)
          · exact hno j (by omega) hj2
        · exact ⟨rfl, _, _, _, _, rfl, by k_asm, by k_asm, tw, rfl, by rw [← wdOk hW1 hW3 hno (Or.inl (by omega))]; exact hmw2, hmk2, hmn2, hms2⟩
      case rest2 =>
        intro m2 nw2 h2 tk2 hF2 F5 N5
        obtain ⟨tw, hnw2, hmw2, hmk2, hmn2, hms2⟩ := hF2
        subst hnw2
        (k_with "strB" => first | assumption | exact strTake hb)
        k_steps
        have hpos : 0 < ((x.drop k).take (wd (x.drop k))).length := takeWd hdx
        have hle : ((x.drop k).take (wd (x.drop k))).length ≤ x.length - k := by
          rw [← List.length_drop]; exact List.length_take_le' _ _
        cases hsr2 with
        | cons h =>
          rename List Int => ns'
          refine ⟨_, _, _, _, x.length - (k + ((x.drop k).take (wd (x.drop k))).length), rfl, by k_asm, by k_asm, by omega, k + ((x.drop k).take (wd (x.drop k))).length, done ++ [(look89 ((c :: r).take (wd (c :: r)))).getD (256 + (c : Int))], ns', sv ++ [_], _, _, _, rfl, by omega, rfl, ?_, ?_, ?_, ?_, by rw [Int.natCast_add]; walk_at "mlook", by walk_at "mlook", by walk_at "mlook"⟩
          · rw [dropLen, hdx]; exact h
          · rw [hns, List.append_assoc]; rfl
          · rw [List.length_append]; exact Nat.add_le_add hdk hpos
          · rw [← hdx]; exact intsSnoc hsv
end
inductive Rule : List Int → Nat → List Int → List Int → List Int → List Int → Prop
  | eof {r} {c : Nat} {rs ns} : Rule (0 :: r) c rs ns (rs ++ [(c : Int)]) ns
  | sign {x r} {c : Nat} {rs ns R N} : 256 ≤ x → Rule r (c + 1) rs ns R N → Rule (x :: r) c rs ns R N
  | op {x r} {c : Nat} {rs ns R N} : x < 256 → x ≠ 0 → Rule r 0 (rs ++ [(c : Int)]) (ns ++ [x]) R N → Rule (x :: r) c rs ns R N
section
variable {prog : Program} {w : World} {A : Around} {E : Value → Shared → Prop} {s : Shared} {env : Env} {h₀ : Heap} {x : Str} {body : List Stmt} {Q : Flow → Shared → Prop}
theorem listInd {I : Addr} {lp : Addr × Obj} (Inv : List Value → (Str → Option Value) → Led → Prop)
    (step : ∀ v r m news, Inv (v :: r) m news → ∀ (it : Obj) h tk, it.cls = .type "list_iterator" → Fr h₀ env.locals h (fun y => if y = x then some v else m y) → News h₀ env.locals h ((I, it) :: news) →
      wpAny (model prog w) A (execs body env) (UnrPost h₀ env.locals { s with heap := h, toks := tk } I it (fun m' n' => lp ∈ n' ∧ Inv r m' n') Q) E { s with heap := h, toks := tk })
    (fin : ∀ m news, Inv [] m news → ∀ h tk, Fr h₀ env.locals h m → News h₀ env.locals h news → Q .next { s with heap := h, toks := tk }) :
    ∀ r m news, Inv r m news → ListRest prog w A E h₀ env x body Q s I lp r m news := by
  intro r
  induction r with
  | nil => exact fun m news hI => fin m news hI
  | cons v r ih =>
    intro m news hI it h tk hc F N
    exact wpAny_mono (step v r m news hI it h tk hc F N) (fun f s₂ hp => unrPostMono (fun m' n' q => ⟨q.1, ih m' n' q.2⟩) hp) fun _ _ e => e
end
theorem ruleEnd {h0 : Heap} {L : Addr} {h : Heap} {a p b c : Addr × Obj} {news : Led} (N : News h0 L h (a :: p :: b :: c :: news)) : News h0 L h (a :: b :: c :: news) := fun x hx => N x (by
  rcases List.mem_cons.mp hx with q | hx
  · exact q ▸ .head _
  · exact .tail _ (.tail _ hx))
theorem ruleSign {x : Int} {r : List Int} {c : Nat} {rs ns R N : List Int} (h : Rule (x :: r) c rs ns R N) (hx : 256 ≤ x) : Rule r (c + 1) rs ns R N := by
  cases h with
  | eof => omega
  | sign _ h => exact h
  | op h => omega
theorem ruleOp {x : Int} {r : List Int} {c : Nat} {rs ns R N : List Int} (h : Rule (x :: r) c rs ns R N) (hx : x < 256) (h0 : ¬ x = 0) : Rule r 0 (rs ++ [(c : Int)]) (ns ++ [x]) R N := by
  cases h with
  | eof => omega
  | sign h _ => omega
  | op _ _ h => exact h
theorem ruleEof {r : List Int} {c : Nat} {rs ns R N : List Int} (h : Rule (0 :: r) c rs ns R N) : R = rs ++ [(c : Int)] ∧ N = ns := by
  cases h with
  | eof => exact ⟨rfl, rfl⟩
  | sign h _ => omega
  | op _ h => exact absurd rfl h
section
example (w : World) : (rwQ = rwQ) ∧ (Kq w.params = Kq w.params) := by
  k_with_none
  k_fill
  (k_with "B" => k_asm)
  (k_with "K" => first | exact rfl | assumption)
  (k_with "C" => first | assumption | trivial)
  (k_with "D" => first | (change dp + 1 + _ < _; omega) | omega | ktr_room)
  (k_with "U" => first | (change un + 3 + _ < _; omega) | omega | ktr_units)
  (k_with "call builtin:divmod" => ((with_reducible show wpAny _ _ (call (Value.builtin _) [Value.int _ _, Value.int _ _]) _ _ _); (rename SmallDiv _ => hSd); refine divmod_N (by assumption) (by assumption) (by assumption) ?_ (Or.inl (PyProof.noPylong_of_log2 hSd)); intro _ _ _))
  (k_with "binaryOp FloorDiv int int" => ((rename SmallDiv _ => hSd); refine floordiv_sd hSd (by first | assumption | omega) ?_))
  (k_with "AllLt" => first | assumption | exact And.right (by assumption) | exact And.right (And.right (by assumption)) | exact And.right (And.right (And.right (by assumption))) | exact And.right (And.right (And.right (And.right (by assumption)))) | exact And.right (And.right (And.right (And.right (And.right (by assumption))))) | exact And.right (And.right (And.right (And.right (And.right (And.right (by assumption)))))) | exact And.right (And.right (And.right (And.right (And.right (And.right (And.right (by assumption)))))))  | exact And.right (And.right (And.right (And.right (And.right (And.right (And.right (And.right (by assumption)))))))))
  (k_with "k_all" => first | with_reducible assumption | exact allNe0 (by walk_at "AllLt") | exact allNe1 (by walk_at "AllLt") | exact allNe2 (by walk_at "AllLt") | exact allNe3 (by walk_at "AllLt") | exact List.forall_mem_nil _ | (refine' List.forall_mem_cons.mpr ⟨?_, ?_⟩; (focus k_ne); k_all))
  (k_with "binaryOp Mult ref int" => (k_here; (rename CntOk _ => hCo); k_dflt (refine' mulRep (by k_asm) (by k_asm) (by k_mem) hCo ?_); k_whole; intro l' h' F' N' l1; (try k_lt l1); (try k_sweep)))
  (k_with "enter" => (refine wpAny_call ?_; k_dflt cell_enter))
  (k_with "enter C" => (refine wpAny_call ?_; k_dflt ((refine' code_defC (by k_asm) (by k_asm) (by k_asm) (by k_asm) (by k_asm) (by exact rfl) (by exact rfl) (by assumption) (by k_is) (by k_is) (by ktr_room) (by exact BindsTo.of_eq rfl) (by exact rfl) (by decide +kernel) ?_ (by exact rfl) (by exact rfl) (by exact rfl)); k_whole; intro g' L' h' tk' cells' FG' F' N' Y' B' X' T' l1; (try k_lt l1); k_cells Y'; (try simp only [List.cons_append, List.nil_append] at N'); (try dsimp only); (try k_lift B'); (try k_fold))))
  (k_with "enter N" => (refine wpAny_call ?_; k_dflt (refine' code_nest (by k_asm) (by k_asm) (by k_asm) (by k_asm) (by k_asm) (by exact rfl) (by exact rfl) (by assumption) (by walk_at "inrest") (codeRec_news (by k_asm) (by walk_at "inrest") (by assumption) (by assumption)) (by ktr_room) (by exact BindsTo.of_eq rfl) (by exact locs rfl) ?_ (by exact rfl) (by exact rfl) (by exact rfl) (by decide); k_whole; intro g' L' h' FG' F' N' B' X' T'; (try dsimp only); (try k_lift B'))))
  (k_with "eval Name" => (k_here; kc_free; k_dflt (refine' nameX_F (by k_asm) (by exact rfl) (by walk_at "inrest") (by with_reducible assumption) ?_ (by exact rfl) (by exact rfl)); k_whole))
  (k_with "inrest" => first | with_reducible assumption | exact List.mem_cons_self .. | assumption | (refine List.mem_cons_of_mem _ ?_; walk_at "inrest"))
  (k_with "FnAt" => (k_dflt (exact FnAt.of (by k_asm) (by walk_at "inrest"))))
  (k_with "callWith ref" => (k_here; kn_here; k_dflt (first
    | (refine' callWith_F (FnAt.of (by k_asm) (by walk_at "inrest")) ?_; k_whole)
    | (refine' callWith_F0 (FnAt.of (by k_asm) (by walk_at "inrest")) ?_; k_whole; try dsimp only [List.nil_append, List.cons_append]))))
  (k_with "mulok" => first | assumption | exact PySem.IntMulOk.of_left (bits64 (by omega)) | exact PySem.IntMulOk.of_right (bits64 (by omega)))
  (k_with "binaryOp Mult int int" => (k_here; k_dflt (refine mul_int ?_ (by walk_at "mulok"))))
  (k_with "setItem ref int" => (k_here; (with_reducible show wpAny _ _ (setItem (Value.ref _) (Value.int _ _) (Value.int _ _)) _ _ _); k_dflt (refine' ksa_set (by k_asm) (by k_asm) (by k_upd) (by with_reducible assumption) (by omega) (by omega) (by omega) ?_); k_whole; intro h' F' N' hi' hl' hs'; (try k_sweep)))
  (k_with "nn" => first | omega | ((rename ShB _ => hShB); exact (hShB _ (by omega) (by omega)).1))
  (k_with "lsz" => ((rename ShB _ => hShB); (rename BitsB _ => hBB); first | exact lsz_of (BitsB.fdiv _ hBB) (hShB _ (by omega) (by omega)).2 | exact lsz_of hBB (hShB _ (by omega) (by omega)).2))
  (k_with "binaryOp RShift int int" => (k_here; k_dflt (refine rshift_int (by walk_at "nn") ?_)))
  (k_with "binaryOp RShift int int" => (k_here; with_reducible refine rshift1 ?_))
  (k_with "binaryOp LShift int int" => (k_here; k_dflt (refine lshift_int (by walk_at "nn") (by walk_at "lsz") ?_)))
  (k_with "truthy ref" => (k_dflt (refine' truthyLed (by k_asm) (by walk_at "inrest") (by walk_at "lenfit") ?_); intro _))
  (k_with "lenfit" => first | omega | ((have hl9 := IntsAre.length (by assumption)); (try simp only [List.length_map, List.length_replicate] at *); omega))
  (k_with "subscriptTail" => (k_here; (with_reducible show wpAny _ _ (subscriptTail _ _ (Value.ref _) (Value.int _ _)) _ _ _); k_dflt (refine' ksa_sub (by k_asm) (by walk_at "inrest") (by with_reducible assumption) (by omega) (by first | omega | (rw [List.length_map]; omega)) (by omega) ?_ (by with_unfolding_all rfl)); intro _))
  (k_with "call builtin:list.append" => (k_here; k_dflt (refine' appendLed (by k_asm) (by k_asm) (by k_upd) (by walk_at "lenfit") ?_; k_whole); intro h' F' N'; (try k_sweep)))
  (k_with "call builtin:list.reverse" => (k_here; k_dflt (refine' reverseLed (by k_asm) (by k_asm) (by k_upd) (by walk_at "lenfit") ?_; k_whole); intro h' F' N'; (try k_sweep)))
  (k_with "call type:reversed" => (k_here; (with_reducible show wpAny _ _ (call (Value.type _) [Value.ref _]) _ _ _); k_dflt (refine' krv_reversed (by k_asm) (by k_asm) (News.isList (by k_asm) (by walk_at "inrest")) ?_); intro D' h' F' N' lrev; have l1 := lrev; (try k_lt l1); (try k_sweep)))
  (k_with "mlook" => first | with_reducible assumption | exact if_pos rfl | exact rfl | (refine (if_neg (by decide)).trans ?_; walk_at "mlook"))
  (k_with "eval Name" => (k_here; (rename MapMark => hMM); k_dflt (refine' nameX_L (by k_asm) (by walk_at "mlook") ?_ (by rfl) (by rfl)); k_whole))
  (k_with "newList" => (k_here; (with_reducible refine' newList_K (by k_asm) (by k_asm) ?_ (by exact Nat.le_of_ble_eq_true rfl)); k_whole; intro l' h' F' N' lnew; have l1 := lnew; (try k_lt l1); (try k_sweep)))
  (k_with "lsz" => ((rename BitsB _ => hBB); exact lsz_of hBB (by omega)))
  (k_with "newTuple" => (k_here; k_dflt (refine' newTupLed (by k_asm) (by k_asm) (by exact Nat.le_of_ble_eq_true rfl) ?_; k_whole); intro q' h' F' N' ltup; have l1 := ltup; (try k_lt l1); (try k_sweep)))
  (k_with "pick" => first | exact Pick.head | (apply Pick.tail; walk_at "pick"))
  (k_with "sub" => (intro q9 hq9; repeat (first | exact hsub0 _ hq9 | exact hq9 | apply List.mem_cons_of_mem)))
  (k_with "call builtin:len" => ((with_reducible show wpAny _ _ (call (Value.builtin "len") [Value.ref _]) _ _ _); k_dflt (refine' lenLed (by k_asm) (by walk_at "inrest") (by first | walk_at "lenfit" | (simp only [List.length_replicate]; omega)) ?_)))
  (k_with "exec FunctionDef" => (k_here; kn_here; k_dflt (refine' nestDef_K (by exact rfl) (by exact rfl) (by exact rfl) ?_); k_dflt (refine' nestTab (by k_asm) (by k_asm) (by k_asm) (by kn_code) (by exact rfl) (by k_updF) (by assumption) (by walk_at "sub") (by walk_at "AllLt") (List.mem_cons_self ..) (by exact rfl) ?_; k_whole); intro f' c' oc' vs' t' ct' dc' h' tk' ps' F' N' d1' d2' tc' hin' l1 l2; have hin2 := hin'.imp And.right And.right; (try dsimp only at N'); (try k_lt2 l1); (try k_lt l2)))
  (k_with "strB" => first | assumption | exact (Nat.le_of_ble_eq_true rfl) | (simp only [StrB, List.length_append, List.length_cons, List.length_nil] at *; omega))
  (k_with "subscriptTail" => (k_here; (with_reducible show wpAny _ _ (subscriptTail _ _ (Value.str _ _) (Value.ref _)) _ _ _); k_dflt (first | refine' cut_to (by k_asm) (by k_asm) (by walk_at "strB") (by omega) ?_ | refine' cut_ss (by k_asm) (by k_asm) (by walk_at "strB") (by omega) (by omega) ?_); k_whole; intro h' t' k' F' N'; (try k_sweep)))
  (k_with "call builtin:len" => (k_here; (with_reducible show wpAny _ _ (call (Value.builtin "len") [Value.str _ _]) _ _ _); k_dflt (refine' lenStr (by walk_at "strB") ?_); intro _ _))
  (k_with "binaryOp Add str str" => (k_here; k_dflt (refine' addStr (by walk_at "strB") (by walk_at "strB") ?_); intro _ _))
  (k_with "compareOp Eq str str" => (k_here; k_dflt (first | refine' eqStrB (by walk_at "streq") ?_ | refine' eqStr ?_)))
  (k_with "compareOp NotEq str str" => (k_here; k_dflt (first | refine' neStrB (by walk_at "streq") ?_ | refine' neStr ?_)))
  (k_with "getItem str int" => (k_here; k_dflt (refine' strAt (by walk_at "strB") (by omega) (by walk_at "strat") ?_); intro _))
  (k_with "subscriptTail" => (k_here; (with_reducible show wpAny _ _ (subscriptTail _ _ (Value.str _ _) (Value.int _ _)) _ _ _); k_dflt (refine' strAtT (by walk_at "strB") (by first | omega | assumption) (by walk_at "strat") ?_); k_whole; intro _))
  (k_with "exec While" => (k_here; refine stopI ?_))
  (k_with "exec While Compare" => (k_here; refine stopI ?_))
  (k_with "exec While Compare cons nil" => (k_here; refine stopI ?_))
  (k_with "execs cons" => ((with_reducible refine wpAny_execs_cons ?_); (try k_fold)))
  (k_with "eval Call" => k_fold)
  (k_with "eval BinOp" => k_fold)
  (k_with "isTrue" => k_fold)
  (k_with "isTrue Compare" => k_fold)
  (k_with "isTrue BoolOp" => k_fold)
  (k_with "eval Subscript" => k_fold)
  (k_with "subscriptTail" => k_fold)
  (k_with "compareOp" => k_fold)
  exact ⟨rfl, rfl⟩
set_option maxRecDepth 100000 in
theorem iseof_ct (w : World) (x : Int) (t : Tok) (news : Led) : Ct w 112 [.int x t] 2 20 news (fun _ => True) fun v nw => v = .bool (decide (x = 0)) ∧ nw = news := by
  intro p loose mean mg mb dp un gd cn cs ca ccd cl outer A₀ base h₀ L m s Q E B F X N T hk hC hd hu hret
  walk_at "enter"
  k_steps
  exact hret _ _ _ _ ⟨rfl, rfl⟩ (by k_asm) (by k_asm)
set_option maxRecDepth 100000 in
theorem isnon_ct (w : World) (x : Int) (t : Tok) (news : Led) : Ct w 105 [.int x t] 2 20 news (fun _ => True) fun v nw => v = .bool (decide (256 ≤ x)) ∧ nw = news := by
  intro p loose mean mg mb dp un gd cn cs ca ccd cl outer A₀ base h₀ L m s Q E B F X N T hk hC hd hu hret
  walk_at "enter"
  k_steps
  exact hret _ _ _ _ ⟨rfl, rfl⟩ (by k_asm) (by k_asm)
set_option maxRecDepth 100000 in
theorem ister_ct (w : World) (x : Int) (t : Tok) (news : Led) : Ct w 98 [.int x t] 2 20 news (fun _ => True) fun v nw => v = .bool (decide (x < 256)) ∧ nw = news := by
  intro p loose mean mg mb dp un gd cn cs ca ccd cl outer A₀ base h₀ L m s Q E B F X N T hk hC hd hu hret
  walk_at "enter"
  k_steps
  exact hret _ _ _ _ ⟨rfl, rfl⟩ (by k_asm) (by k_asm)
set_option maxRecDepth 100000 in
set_option maxHeartbeats 1000000 in
theorem rule_ct (w : World) (r0 : Addr) (e0 : Nat) (sv : List Value) (xs R Nn : List Int) (hR : Rule xs 0 [] [] R Nn) (hi : IntsAre sv xs) (hxl : xs.length ≤ 200) (news : Led) (hm : (r0, listOf sv.toArray e0) ∈ news) :
   Ct w 140 [.ref r0] 12 120 news (fun _ => True) fun v nw => ∃ q ru nu rv nv e1 e2, v = .ref q ∧ nw = (q, tupObj #[.ref ru, .ref nu]) :: (nu, listOf nv.toArray e2) :: (ru, listOf rv.toArray e1) :: news ∧ IntsAre rv R ∧ IntsAre nv Nn ∧ (∀ p ∈ news, p.1 < ru) ∧ ru < nu ∧ nu < q := by
  intro p loose mean mg mb dp un gd cn ccs ca ccd cl outer A₀ base h₀ L m s Q E B F X N T hk hC hd hu hret
  (k_with "pyIter ref" => (refine stopI ?_))
  (k_with "loadName" => (k_here; (rename MapMark => hMM); k_dflt (refine' ldn (by k_asm) (by walk_at "mlook") ?_ (by exact rfl) (by exact rfl)); k_whole))
  (k_with "newList" => (refine stopI ?_))
  (k_with "call ref" => (k_here; k_dflt (first | refine' ctUse (iseof_ct _ _ _ _) (by k_asm) (by k_asm) (by k_asm) (by k_asm) (by k_asm) (by walk_at "K") (by exact trivial) (by walk_at "D") (by walk_at "U") ?_ | refine' ctUse (isnon_ct _ _ _ _) (by k_asm) (by k_asm) (by k_asm) (by k_asm) (by k_asm) (by walk_at "K") (by exact trivial) (by walk_at "D") (by walk_at "U") ?_ | refine' ctUse (ister_ct _ _ _ _) (by k_asm) (by k_asm) (by k_asm) (by k_asm) (by k_asm) (by walk_at "K") (by exact trivial) (by walk_at "D") (by walk_at "U") ?_); intro v9 nw9 h' tk' hp9 F' N'; obtain ⟨hv9, hn9⟩ := hp9; subst hv9 hn9; (try k_fold)))
  walk_at "enter"
  k_steps
  unfold Stop
  with_reducible refine' newList_K (by k_asm) (by k_asm) ?_ (by exact Nat.le_of_ble_eq_true rfl)
  k_whole
  intro ru h' F' N' lru
  have l1 := lru
  (try k_lt l1)
  (try k_sweep)
  k_steps
  unfold Stop
  with_reducible refine' newList_K (by k_asm) (by k_asm) ?_ (by exact Nat.le_of_ble_eq_true rfl)
  k_whole
  intro nu h' F' N' lnu
  have l2 := lnu
  (try k_lt l2)
  (try k_sweep)
  k_steps
  unfold Stop
  k_dflt refine' iter_listUnr (by exact rfl) (by k_asm) (by k_asm) (by walk_at "inrest") (by exact rfl) (by exact rfl) ?_
  intro I hI
  have hI3 : nu < I ∧ ru < I ∧ ∀ p ∈ news, p.1 < I := ⟨hI _ (.head _), hI _ (.tail _ (.head _)), fun p hp => hI p (.tail _ (.tail _ hp))⟩
  have hIn := ltN (hI _ (.head _))
  have hIr := ltN (hI _ (.tail _ (.head _)))
  dsimp only at hIn hIr
  have hne1 : ∀ p ∈ news, p.1 ≠ ru := fun p hp => Nat.ne_of_lt (lru p hp)
  have hne2 : ∀ p ∈ news, p.1 ≠ nu := fun p hp => Nat.ne_of_lt (lnu p (.tail _ hp))
  refine listInd (fun r m nw => ∃ (xr rs ns : List Int) (c : Nat) (rv nv : List Value) (e1 e2 : Nat) (tc : Tok), nw = (nu, listOf nv.toArray e2) :: (ru, listOf rv.toArray e1) :: news ∧ IntsAre r xr ∧ Rule xr c rs ns R Nn ∧ IntsAre rv rs ∧ IntsAre nv ns ∧ rs.length + xr.length ≤ 200 ∧ ns.length + xr.length ≤ 200 ∧
    m "count" = some (.int (c : Nat) tc) ∧ m "runs" = some (.ref ru) ∧ m "numbers" = some (.ref nu)) ?step ?fin _ _ _ ⟨xs, [], [], 0, [], [], 0, 0, _, rfl, hi, hR, .nil, .nil, by rw [List.length_nil, Nat.zero_add]; exact hxl, by rw [List.length_nil, Nat.zero_add]; exact hxl, rfl, rfl, rfl⟩
  case fin =>
    intro m1 nw hJ
    obtain ⟨xr, rs, ns, c, rv, nv, e1, e2, tc, hnw, hxr, hru, _⟩ := hJ
    cases hxr
    cases hru
  case step =>
    intro v r m1 nw hJ it hh tk1 hcls F2 N2
    obtain ⟨xr, rs, ns, c, rv, nv, e1, e2, tc, hnw, hxr, hru, hrv, hnv, hl1, hl2, hmc, hmr, hmn⟩ := hJ
    subst hnw
    cases hxr with
    | cons x tx hxr =>
      rename List Int => xr
      have mm : MapMark := ⟨⟩
      have hrl : rv.length ≤ 200 := by rw [hrv.length]; omega
      have hnl : nv.length ≤ 200 := by rw [hnv.length]; omega
      k_steps
      · rename x = 0 => hx0
        rw [hx0] at hru
        obtain ⟨e3, e4⟩ := ruleEof hru
        (try dsimp +zetaDelta only)
        k_steps
        rename News h₀ L _ ((q', _) :: _) => N20
        exact hret _ _ _ _ ⟨q', ru, nu, _, nv, _, _, rfl, rfl, by rw [e3]; exact intsSnoc hrv, by rw [e4]; exact hnv, lru, lnu _ (.head _), ltup _ (.tail _ (.head _))⟩ (by k_asm) (ruleEnd N20)
      · rename (256 : Int) ≤ x => hx1
        exact UnrEnd.intro (by k_asm) (by k_asm) _ (fun p hp => hp) (List.forall_mem_cons.mpr ⟨Nat.ne_of_lt hI3.1, List.forall_mem_cons.mpr ⟨Nat.ne_of_lt hI3.2.1, fun p hp => Nat.ne_of_lt (hI3.2.2 p hp)⟩⟩)
          ⟨.tail _ (.tail _ hm), _, rs, ns, c + 1, rv, nv, e1, e2, _, rfl, hxr, ruleSign hru hx1, hrv, hnv, by rw [List.length_cons] at hl1; omega, by rw [List.length_cons] at hl2; omega, by rw [Int.natCast_add]; walk_at "mlook", by walk_at "mlook", by walk_at "mlook"⟩
      · have hx1 : x < 256 := by omega
        rename ¬ x = 0 => hx2
        exact UnrEnd.intro (by k_asm) (by k_asm) _ (fun p hp => hp) (List.forall_mem_cons.mpr ⟨Nat.ne_of_lt hI3.1, List.forall_mem_cons.mpr ⟨Nat.ne_of_lt hI3.2.1, fun p hp => Nat.ne_of_lt (hI3.2.2 p hp)⟩⟩)
          ⟨.tail _ (.tail _ hm), _, rs ++ [(c : Int)], ns ++ [x], 0, rv ++ [_], nv ++ [_], _, _, _, rfl, hxr, ruleOp hru hx1 hx2, intsSnoc hrv, intsSnoc hnv, by rw [List.length_cons] at hl1; rw [List.length_append, List.length_singleton]; omega, by rw [List.length_cons] at hl2; rw [List.length_append, List.length_singleton]; omega, by walk_at "mlook", by walk_at "mlook", by walk_at "mlook"⟩
end
theorem datNone {k : Str} : ∀ {T : List (Str × Int)}, (∀ p ∈ T, p.1 ≠ k) → KTD.datumAt k T = none
  | [], _ => rfl
  | p :: T, h => by
    unfold KTD.datumAt
    rw [if_neg (by simpa using fun e : k = p.1 => h p (List.mem_cons_self ..) e.symm)]
    exact datNone fun q hq => h q (List.mem_cons_of_mem _ hq)
set_option maxRecDepth 100000 in
theorem noQuote : T89.all (fun p => p.1.cps.toList.all fun c => c != 34) = true := by decide +kernel
theorem lookQ {l : List Nat} (h : 34 ∈ l) : look89 l = none := by
  unfold look89
  refine datNone fun p hp e => ?_
  have h1 := List.all_eq_true.mp noQuote p hp
  rw [e] at h1
  have h2 := List.all_eq_true.mp h1 34 (by simpa using h)
  simp at h2
set_option maxRecDepth 100000 in
theorem lookMarks : (List.range 48).all (fun i => decide (look89 (marksL.getD i []) = some (7 + (i : Int))) && (decide ((marksL.getD i []).length = 1) || (decide ((marksL.getD i []).length = 2) || decide ((marksL.getD i []).length = 3)))) = true := by decide +kernel
set_option maxRecDepth 100000 in
theorem look44 : look89 [44] = some 12 := by decide +kernel
theorem lookMark {i : Nat} (h : i < 48) : look89 (marksL.getD i []) = some (7 + (i : Int)) ∧ ((marksL.getD i []).length = 1 ∨ (marksL.getD i []).length = 2 ∨ (marksL.getD i []).length = 3) := by
  have := List.all_eq_true.mp lookMarks i (List.mem_range.mpr h)
  simpa using this
theorem wdQ (r : List Nat) : wd (34 :: r) = 1 := by
  unfold wd
  rw [lookQ (by simp), lookQ (by simp)]; rfl
theorem wdC (r : List Nat) : wd (44 :: 34 :: r) = 1 := by
  unfold wd
  rw [lookQ (by simp), lookQ (by simp)]; rfl
theorem symsQ {r : List Nat} {ns : List Int} (h : Syms r ns) : ∀ a, Syms (List.replicate a 34 ++ r) (List.replicate a 290 ++ ns)
  | 0 => h
  | a + 1 => by
    have h1 : Syms ((34 :: (List.replicate a 34 ++ r)).drop (wd (34 :: (List.replicate a 34 ++ r)))) (List.replicate a 290 ++ ns) := by rw [wdQ]; exact symsQ h a
    have h2 := Syms.cons h1
    rw [wdQ, show (34 :: (List.replicate a 34 ++ r)).take 1 = [34] from rfl, lookQ (by simp)] at h2
    exact h2
theorem symsC {r : List Nat} {ns : List Int} (h : Syms (34 :: r) ns) : Syms (44 :: 34 :: r) (12 :: ns) := by
  have h1 : Syms ((44 :: 34 :: r).drop (wd (44 :: 34 :: r))) ns := by rw [wdC]; exact h
  have h2 := Syms.cons h1
  rw [wdC, show (44 :: 34 :: r).take 1 = [44] from rfl, look44] at h2
  exact h2
theorem symsM {r : List Nat} {ns : List Int} {i : Nat} (hi : i < 48) (h : Syms (34 :: r) ns) : Syms (marksL.getD i [] ++ 34 :: r) ((7 + (i : Int)) :: ns) := by
  obtain ⟨hl, h3⟩ := lookMark hi
  generalize marksL.getD i [] = m at *
  have hw : wd (m ++ 34 :: r) = m.length := by
    unfold wd
    match m, h3 with
    | [a], _ => rw [lookQ (by simp), lookQ (by simp)]; rfl
    | [a, b], _ => rw [lookQ (by simp), show ([a, b] ++ 34 :: r).take 2 = [a, b] from rfl, hl]; rfl
    | [a, b, c], _ => rw [show ([a, b, c] ++ 34 :: r).take 3 = [a, b, c] from rfl, hl]; rfl
    | [], h => simp at h
    | _ :: _ :: _ :: _ :: _, h => simp at h
  match m, h3 with
  | [], h => simp at h
  | a :: m', _ =>
    have h1 : Syms ((a :: (m' ++ 34 :: r)).drop (wd (a :: (m' ++ 34 :: r)))) ns := by
      have hw' : wd (a :: (m' ++ 34 :: r)) = (a :: m').length := hw
      rw [hw', show (a :: (m' ++ 34 :: r)) = (a :: m') ++ 34 :: r from rfl, List.drop_left]
      exact h
    have h2 := Syms.cons h1
    have hw' : wd (a :: (m' ++ 34 :: r)) = (a :: m').length := hw
    rw [hw', show (a :: (m' ++ 34 :: r)) = (a :: m') ++ 34 :: r from rfl, List.take_left, hl] at h2
    exact h2
theorem ruleQ {r : List Int} {rs ns R N : List Int} : ∀ (a c : Nat), Rule r (c + a) rs ns R N → Rule (List.replicate a 290 ++ r) c rs ns R N
  | 0, _, h => h
  | a + 1, c, h => .sign (by decide) (ruleQ a (c + 1) (by rw [Nat.add_right_comm]; exact h))
/-- the symbols of the text -/
noncomputable def tokP (p cs : List Int) (k : Nat) : List Int := List.replicate (p.getD k 0).toNat 290 ++ (7 + ((markI cs k).toNat : Int)) :: List.replicate (p.sum - p.getD k 0).toNat 290
noncomputable def tokF (p cs : List Int) : List Int := tokP p cs 0 ++ 12 :: (tokP p cs 1 ++ 12 :: tokP p cs 2)
noncomputable def numF (cs : List Int) : List Int := [markI cs 0 + 7, 12, markI cs 1 + 7, 12, markI cs 2 + 7]
theorem markLt (cs : List Int) (k : Nat) : (markI cs k).toNat < 48 := by
  have := fm48 (cs.getD (k + 1) 0)
  unfold markI; omega
theorem repSucc {α : Type} {x : α} {a : Nat} (h : 1 ≤ a) : List.replicate a x = x :: List.replicate (a - 1) x := by
  obtain ⟨b, rfl⟩ : ∃ b, a = b + 1 := ⟨a - 1, by omega⟩
  rfl
section
variable {p cs : List Int} (hp : ∀ k : Nat, k < 3 → 1 ≤ p.getD k 0 ∧ p.getD k 0 + 2 ≤ p.sum)
include hp
theorem symsPiece {r : List Nat} {ns : List Int} {k : Nat} (hk : k < 3) (h : Syms r ns) : Syms (pieceF p cs k ++ r) (tokP p cs k ++ ns) := by
  have h1 := hp k hk
  have h2 := symsQ h ((p.sum - p.getD k 0).toNat - 1)
  have h3 := symsQ h (p.sum - p.getD k 0).toNat
  rw [repSucc (by omega : 1 ≤ (p.sum - p.getD k 0).toNat), List.cons_append] at h3
  have h4 := symsM (markLt cs k) h3
  have h5 := symsQ h4 (p.getD k 0).toNat
  unfold pieceF tokP
  rw [repSucc (x := 34) (by omega : 1 ≤ (p.sum - p.getD k 0).toNat)]
  simpa only [List.append_assoc, List.cons_append] using h5
theorem pieceHead {k : Nat} (hk : k < 3) (r : List Nat) : ∃ r', pieceF p cs k ++ r = 34 :: r' := by
  have h1 := hp k hk
  unfold pieceF
  rw [repSucc (by omega : 1 ≤ (p.getD k 0).toNat)]
  exact ⟨_, rfl⟩
theorem symsComma {r : List Nat} {ns : List Int} {k : Nat} (hk : k < 3) (h : Syms (pieceF p cs k ++ r) ns) : Syms (44 :: (pieceF p cs k ++ r)) (12 :: ns) := by
  obtain ⟨r', e⟩ := pieceHead hp hk r
  rw [e] at h ⊢
  exact symsC h
theorem symsText : Syms (textF p cs) (tokF p cs) := by
  have h2 := symsPiece (cs := cs) hp (k := 2) (by decide) Syms.nil
  rw [List.append_nil, List.append_nil] at h2
  have h2' := symsComma hp (k := 2) (r := []) (by decide) (by rw [List.append_nil]; exact h2)
  rw [List.append_nil] at h2'
  have h1 := symsPiece (cs := cs) hp (k := 1) (by decide) h2'
  have h1' := symsComma hp (k := 1) (by decide) h1
  exact symsPiece hp (k := 0) (by decide) h1'
theorem rulePiece {r : List Int} {rs ns R N : List Int} {k : Nat} (hk : k < 3) (h : Rule r (p.sum - p.getD k 0).toNat (rs ++ [p.getD k 0]) (ns ++ [markI cs k + 7]) R N) : Rule (tokP p cs k ++ r) 0 rs ns R N := by
  have h1 := hp k hk
  unfold tokP
  rw [List.append_assoc]
  refine ruleQ _ 0 ?_
  rw [List.cons_append]
  have h48 := markLt cs k
  have hm := fm48 (cs.getD (k + 1) 0)
  have e : (7 + ((markI cs k).toNat : Int)) = markI cs k + 7 := by unfold markI; omega
  refine Rule.op (by omega) (by omega) (ruleQ _ 0 ?_)
  rw [Nat.zero_add, Nat.zero_add, e, Int.toNat_of_nonneg (by omega)]
  exact h
theorem ruleText : Rule (tokF p cs ++ [0]) 0 [] [] (runsF p 3) (numF cs) := by
  unfold tokF
  have e : (tokP p cs 0 ++ 12 :: (tokP p cs 1 ++ 12 :: tokP p cs 2)) ++ [0] = tokP p cs 0 ++ (12 :: (tokP p cs 1 ++ (12 :: (tokP p cs 2 ++ [0])))) := by simp only [List.append_assoc, List.cons_append]
  have a0 := hp 0 (by decide)
  have a1 := hp 1 (by decide)
  have a2 := hp 2 (by decide)
  rw [e]
  refine rulePiece hp (by decide) (Rule.op (by decide) (by decide) ?_)
  refine rulePiece hp (by decide) (Rule.op (by decide) (by decide) ?_)
  refine rulePiece hp (by decide) ?_
  have q := @Rule.eof [] (p.sum - p.getD 2 0).toNat (runsF p 3).dropLast (numF cs)
  rw [Int.toNat_of_nonneg (by omega)] at q
  rw [Int.toNat_of_nonneg (by omega : 0 ≤ p.sum - p.getD 0 0), Int.toNat_of_nonneg (by omega : 0 ≤ p.sum - p.getD 1 0)]
  exact q
end
theorem symsLen {x : List Nat} {ns : List Int} (h : Syms x ns) : ns.length ≤ x.length := by
  induction h with
  | nil => exact Nat.le_refl _
  | @cons c r ns _ ih =>
    have hw : 1 ≤ wd (c :: r) := by unfold wd; split; decide; split <;> decide
    rw [List.length_drop, List.length_cons] at ih
    rw [List.length_cons, List.length_cons]
    omega
theorem lawCsub {a b c d e f g : Addr × Obj} {led : Led} {p : Addr × Obj} (hp : p ∈ c :: d :: led) : p ∈ a :: b :: c :: d :: e :: f :: g :: led := by
  rcases List.mem_cons.mp hp with q | hp
  · exact q ▸ .tail _ (.tail _ (.head _))
  · rcases List.mem_cons.mp hp with q | hp
    · exact q ▸ .tail _ (.tail _ (.tail _ (.head _)))
    · exact .tail _ (.tail _ (.tail _ (.tail _ (.tail _ (.tail _ (.tail _ hp))))))
/-- the drawn numbers -/
noncomputable def drawnF (cs : List Int) (n : Nat) : List Int := ((cs.drop 4).take n).map fun c => 1 + c.fmod 9
section
variable {prog : Program} {w : World} {A : Around} {E : Value → Shared → Prop} {s : Shared} {h₀ : Heap} {L : Addr} {m : Str → Option Value} {news : Led} {value slice : PySem.Expr} {t u v : Tok} {Q : Value → Shared → Prop}
theorem replaceQ {x : List Nat} {y z : Str} (hy : y = sOf [34]) (hz : z = sOf [34, 34]) (hu : u ≠ 0) (hv : v ≠ 0) (huv : u ≠ v) (hb : StrB x) (h : ∀ t' k, Q (.str (sOf (StrLaws.dbl 34 x)) t') { s with toks := k }) :
    wpAny (model prog w) A (call (.builtin "str.replace") [.str (sOf x) t, .str y u, .str z v]) Q E s := by
  refine SC.replaceW hu hv huv (by rw [hy, hz]; decide) (by rw [sOf_len]; exact Nat.le_trans hb (by decide)) (by rw [hz]; decide) fun t' k => ?_
  rw [PyProof.Rows.replace_dbl (sOf x) y z 34 hy hz]
  exact h t' k
/-- one of the three ends of the reply -/
theorem pickEnd {l : Addr} {e : Nat} {i : Int} {a b c : Str} {t1 t2 t3 : Tok} (N : News h₀ L s.heap news) (hm : (l, listOf #[.str a t1, .str b t2, .str c t3] e) ∈ news) (ha : a = sOf []) (hb : b = sOf [32, 109, 97, 100, 101]) (hc : c = sOf [33]) (h0 : 0 ≤ i) (h1 : i < 3)
    (h : ∀ x t', x.head? ≠ some 34 → x.length ≤ 10 → Q (.str (sOf x) t') s)
    (hs : subscripted slice false (.ref l) (.int i u) = operate [.ref l, .int i u] (getItem (.ref l) (.int i u)) := by with_unfolding_all rfl) :
    wpAny (model prog w) A (subscriptTail value slice (.ref l) (.int i u)) Q E s := by
  have hl : s.heap.IsList l #[.str a t1, .str b t2, .str c t3] := News.isList N hm
  have e3 : i = 0 ∨ i = 1 ∨ i = 2 := by omega
  subst ha hb hc
  rcases e3 with rfl | rfl | rfl
  · exact item_listR hl h0 (by decide) rfl (h [] t1 (by decide) (by decide)) hs
  · exact item_listR hl h0 (by decide) rfl (h [32, 109, 97, 100, 101] t2 (by decide) (by decide)) hs
  · exact item_listR hl h0 (by decide) rfl (h [33] t3 (by decide) (by decide)) hs
theorem neSame {a b : Addr} {vs us : List Value} {e1 e2 : Nat} {ns ms : List Int} (N : News h₀ L s.heap news) (hm1 : (a, listOf vs.toArray e1) ∈ news) (hm2 : (b, listOf us.toArray e2) ∈ news) (hi : IntsAre vs ns) (hi' : IntsAre us ms) (e : ns = ms) (hu : A.units + 64 < cLine) (h : Q (.bool false) s) :
    wpAny (model prog w) A (compareOp .NotEq (.ref a) (.ref b)) Q E s :=
  ne_intsK (News.isList N hm1) hi (News.isList N hm2) hi' hu (by rw [decide_eq_true e]; exact h)
end
theorem intBits_le {a : Int} {k : Nat} (h : a.natAbs < 2 ^ k) : Builtin.Int.intBits a ≤ k := by
  unfold Builtin.Int.intBits
  split
  · exact Nat.zero_le _
  · rename_i h0
    have h0' : a.natAbs ≠ 0 := fun e => h0 (by simpa using Int.natAbs_eq_zero.mp e)
    exact (Nat.log2_lt h0').mpr h
theorem mulBig {a b : Int} (ha : a.natAbs < 2 ^ 8000) (hb : b.natAbs < 2 ^ 8000) : PySem.IntMulOk a b := by
  have h1 := intBits_le ha
  have h2 := intBits_le hb
  unfold PySem.IntMulOk Builtin.Int.intTooBig bitsLine
  have : ¬ ((Builtin.Int.intBits a : Nat) : Int) + (Builtin.Int.intBits b : Nat) > (2 ^ 27 : Nat) := by omega
  rw [decide_eq_false this]
  simp
section
variable {prog : Program} {w : World} {A : Around} {E : Value → Shared → Prop} {s : Shared} {value slice : PySem.Expr} {t u : Tok} {h₀ : Heap} {L l : Addr} {m : Str → Option Value} {news : Led} {Q : Value → Shared → Prop} {vs : List Value} {ns : List Int} {e : Nat} {x y : Int}
theorem sliceBoth (F : Fr h₀ L s.heap m) (N : News h₀ L s.heap news) (hm : (l, listOf vs.toArray e) ∈ news) (hi : IntsAre vs ns) (h0 : 0 ≤ x) (h1 : x ≤ y) (h2 : y ≤ ns.length) (hl : ns.length ≤ 100)
    (h : ∀ D ws h', Fr h₀ L h' m → News h₀ L h' ((D, listOf (List.toArray ws) 0) :: news) → (∀ p ∈ news, p.1 < D) → IntsAre ws ((ns.drop x.toNat).take (y - x).toNat) → Q (.ref D) { s with heap := h' })
    (hs : subscripted slice false (.ref l) (.ref s.heap.objs.size) = operate [.ref s.heap.objs.size, .ref l] (getItem (.ref l) (.ref s.heap.objs.size)) := by with_unfolding_all rfl) (ht : ∀ r, letTemporaryGo value (.ref l) r = pure () := by intro _; with_unfolding_all rfl) :
    wpAny (model prog w) A (subscriptTail value slice (.ref l) (.ref s.heap.objs.size)) Q E { s with heap := s.heap.push { cls := .type "slice", data := .fields #[.int x t, .int y u, .none] } } := by
  refine kmk_slice_ints (c := ((ns.drop x.toNat).take (y - x).toNat).length) F N (News.isList N hm) (.int x t) (.int y u) hi (slice_ints hi h0 h1 h2) rfl (fun D ws h' F' N' l1 h1 _ _ => h D ws h' F' N' l1 h1) hs ht ?_
  rw [List.size_toArray, hi.length]
  exact Nat.le_trans hl (by decide)
end
/-- what stood stands -/
noncomputable abbrev Kps (h h' : Heap) : Prop := ∀ b o, h.get? b = some o → h'.get? b = some o
/-- what stood stands, but for the places of a list -/
noncomputable abbrev KpsB (l : List Addr) (h h' : Heap) : Prop := ∀ b o, b ∉ l → h.get? b = some o → h'.get? b = some o
theorem wpAny_lia {M : Model} {A : Around} {E : Value → Shared → Prop} {s : Shared} {a : Addr} {Q : Option Obj → Shared → Prop} (h : Q (s.heap.get? a) s) : wpAny M A (loadIfAlive a) Q E s :=
  fun _ _ _ => by unfold loadIfAlive; rw [Sem.wp_loadIfAlive, Sem.wp_pure]; exact h
/-- a source of a comprehension, whatever it is: turns over any heap that grows -/
structure GT (prog : Program) (w : World) (A : Around) (target : PySem.Expr) (I : Addr) (free wr : List Addr) (n : Nat) (P Md : Nat → Value → Heap → Prop) (St : Nat → Heap → Prop) : Prop where
  frame : ∀ i h h', St i h → KpsB free h h' → St i h'
  obj : ∀ i h, St i h → ∀ b ∈ wr, ∃ o, h.get? b = some o
  item : ∀ i (s : Shared) (Q : Option Value → Shared → Prop) (E : Value → Shared → Prop), i < n → St i s.heap → (∀ b ∈ free, ∃ o, s.heap.get? b = some o) →
    (∀ v h' tk, Md i v h' → KpsB wr s.heap h' → Q (some v) { s with heap := h', toks := tk }) → wpAny (model prog w) A (pyNext (.ref I)) Q E s
  go : ∀ i v (s : Shared) (Q : Unit → Shared → Prop) (E : Value → Shared → Prop), Md i v s.heap →
    (∀ h', P i v h' → St (i + 1) h' → KpsB wr s.heap h' → Q () { s with heap := h' }) → wpAny (model prog w) A (letOwnedTupleGo target (.ref I) v) Q E s
  done : ∀ (s : Shared) (Q : Option Value → Shared → Prop) (E : Value → Shared → Prop), St n s.heap →
    (∀ h' tk, KpsB wr s.heap h' → Q none { s with heap := h', toks := tk }) → wpAny (model prog w) A (pyNext (.ref I)) Q E s
  self : ∀ (s : Shared) (Q : Value → Shared → Prop) (E : Value → Shared → Prop), St 0 s.heap → Q (.ref I) s → wpAny (model prog w) A (pyIter (.ref I)) Q E s
theorem GT.ofK {prog : Program} {w : World} {A : Around} {target : PySem.Expr} {I : Addr} {fp free wr : List Addr} {n : Nat} {P Md : Nat → Value → Heap → Prop} {St : Nat → Heap → Prop} (W : KTurns prog w A target I fp wr n P Md St)
    (hf : ∀ b ∈ fp, b ∉ free) (ho : ∀ i h, St i h → ∀ b ∈ wr, ∃ o, h.get? b = some o)
    (self : ∀ (s : Shared) (Q : Value → Shared → Prop) (E : Value → Shared → Prop), St 0 s.heap → Q (.ref I) s → wpAny (model prog w) A (pyIter (.ref I)) Q E s) : GT prog w A target I free wr n P Md St where
  frame := fun i h h' st k => W.frame i h h' st fun b hb o e => k b o (hf b hb) e
  obj := ho
  item := fun i s Q E hi st _ hQ => W.item i s Q E hi st hQ
  go := W.go
  done := W.done
  self := self
section
variable {prog : Program} {w : World} {A : Around} {E : Value → Shared → Prop} {s : Shared}
/-- the turns of a comprehension over a source -/
theorem compG_loop {elt target iter : PySem.Expr} {scope : Scope} {pos : Pos} {I D : Addr} {cw wr : List Addr} {n : Nat} {P Md : Nat → Value → Heap → Prop} {St : Nat → Heap → Prop} {cenv : Env} {En : Heap → Prop} {Rl : Nat → Value → Heap → Prop} {H0 : Heap} {RR : Result → Shared → Prop}
    (W : GT prog w A target I (D :: cw) wr n P Md St) (hsz : n ≤ sizeLine) (hst : St 0 s.heap) (hen : En s.heap) (hD : s.heap.get? D = some (LCg.lst [])) (hK : Kps H0 s.heap)
    (hDw : D ∉ wr) (hDc : D ∉ cw) (hcw : ∀ b ∈ cw, b ∉ wr) (hH : ∀ b o, H0.get? b = some o → b ≠ D ∧ b ∉ cw ∧ b ∉ wr)
    (enF : ∀ h h', En h → (∀ b ∈ cw, ∀ o, h.get? b = some o → h'.get? b = some o) → En h') (enO : ∀ h, En h → ∀ b ∈ cw, ∃ o, h.get? b = some o)
    (turn : ∀ i v h tk (E' : Value → Shared → Prop), i < n → P i v h → En h → Kps H0 h →
      wpAny (model prog w) A (assign target cenv v) (fun _ s₁ => wpAny (model prog w) A (eval elt cenv) (fun y s₂ => ∃ h' tk', s₂ = { s with heap := h', toks := tk' } ∧ En h' ∧ KpsB cw h h' ∧
        ∀ h'', (∀ b o, h.get? b = none → h'.get? b = some o → h''.get? b = some o) → Rl i y h'') E' s₁) E' { s with heap := h, toks := tk })
    (fin : ∀ ys h tk, h.get? D = some (LCg.lst ys) → ys.length = n → En h → Kps H0 h → (∀ j y, ys[j]? = some y → ∀ h'', KpsB (D :: cw ++ wr) h h'' → Rl j y h'') → RR (.ok .next) { s with heap := h, toks := tk }) :
    codeAny (model prog w) A (.compStart (.ListComp elt [⟨target, iter, [], 0⟩] scope pos) 0 (.ref I) (.ref D) cenv) RR s := by
  have loop : codeAny (model prog w) A (.compLoop (.ListComp elt [⟨target, iter, [], 0⟩] scope pos) 0 (.ref I) (.ref D) cenv) RR s := by
    refine kcp_loop (fun k s' => ∃ h tk i ys, s' = { s with heap := h, toks := tk } ∧ i ≤ n ∧ k = n + 1 - i ∧ ys.length = i ∧ St i h ∧ En h ∧ h.get? D = some (LCg.lst ys) ∧ Kps H0 h ∧
      ∀ j y, ys[j]? = some y → ∀ h'', KpsB (D :: cw ++ wr) h h'' → Rl j y h'') ?_ (n + 1)
      ⟨s.heap, s.toks, 0, [], rfl, Nat.zero_le _, rfl, rfl, hst, hen, hD, hK, fun j y e => by simp at e⟩
    rintro k s' ⟨h, tk, i, ys, rfl, hi, rfl, hyl, hst', hen', hD', hK', hR'⟩
    have hfr : ∀ b ∈ D :: cw, ∃ o, h.get? b = some o := fun b hb => by
      rcases List.mem_cons.mp hb with e | hb
      · exact ⟨_, e ▸ hD'⟩
      · exact enO h hen' b hb
    by_cases hlt : i < n
    · refine W.item i _ _ _ hlt hst' hfr fun v h₁ tk₁ hMd hk₁ => ?_
      refine W.go i v _ _ _ hMd fun h₂ hP hst₂ hk₂ => ?_
      have hk : KpsB wr h h₂ := fun b o hb e => hk₂ b o hb (hk₁ b o hb e)
      have hen₂ : En h₂ := enF _ _ hen' fun b hb o e => hk b o (hcw b hb) e
      have hK₂ : Kps H0 h₂ := fun b o e => hk b o (hH b o e).2.2 (hK' b o e)
      have hD₂ : h₂.get? D = some (LCg.lst ys) := hk D _ hDw hD'
      refine wpAny_mono (turn i v h₂ tk₁ _ hlt hP hen₂ hK₂) (fun _ s₁ h₁' => wpAny_mono h₁' (fun y s₃ h₃ => ?_) fun _ _ e => e) fun _ _ e => e
      obtain ⟨h₃, tk₃, rfl, hen₃, hk₃, hr₃⟩ := h₃
      have hD₃ : h₃.get? D = some (LCg.lst ys) := hk₃ D _ hDc hD₂
      refine append_at (hsz := by show ys.toArray.size ≤ sizeLine; rw [List.size_toArray, hyl]; exact Nat.le_trans hi hsz) hD₃ fun h₄ hs₄ hD₄ => ?_
      have hst₄ : St (i + 1) h₄ := W.frame _ _ _ hst₂ fun b o hb e => hs₄.extBut b o (fun q => hb (q ▸ List.mem_cons_self ..)) (hk₃ b o (fun q => hb (List.mem_cons_of_mem _ q)) e)
      have old₄ : ∀ b o, b ≠ D → b ∉ cw → b ∉ wr → h.get? b = some o → h₄.get? b = some o := fun b o b1 b2 b3 e => hs₄.extBut b o b1 (hk₃ b o b2 (hk b o b3 e))
      refine ⟨n + 1 - (i + 1), by omega, h₄, tk₃, i + 1, ys ++ [y], rfl, hlt, rfl, by rw [List.length_append, List.length_singleton, hyl], hst₄, enF _ _ hen₃ fun b hb o e => hs₄.extBut b o (fun q => hDc (q ▸ hb)) e,
        hD₄.trans (congrArg some (LCg.lst_snoc ys y)), fun b o e => old₄ b o (hH b o e).1 (hH b o e).2.1 (hH b o e).2.2 (hK' b o e), fun j z hz h'' hl => ?_⟩
      rcases Nat.lt_or_ge j ys.length with hj | hj
      · rw [List.getElem?_append_left hj] at hz
        refine hR' j z hz h'' fun b o hb e => hl b o hb (old₄ b o ?_ ?_ ?_ e)
        · exact fun q => hb (by simp [q])
        · exact fun q => hb (by simp [q])
        · exact fun q => hb (by simp [q])
      · rw [List.getElem?_append_right hj] at hz
        have hj0 : j - ys.length = 0 := by
          rcases Nat.eq_zero_or_pos (j - ys.length) with e | e
          · exact e
          · rw [List.getElem?_eq_none (Nat.succ_le_of_lt e)] at hz; cases hz
        rw [hj0] at hz
        have hji : j = i := by omega
        have hzy : y = z := by simpa using hz
        subst hji hzy
        refine hr₃ h'' fun b o hn e => ?_
        have b1 : b ≠ D := fun q => by rw [q, hD₂] at hn; cases hn
        refine hl b o (fun q => ?_) (hs₄.extBut b o b1 e)
        have q' : b = D ∨ b ∈ cw ∨ b ∈ wr := by simpa using q
        rcases q' with q | q | q
        · exact b1 q
        · obtain ⟨o', e'⟩ := enO _ hen₂ b q; rw [e'] at hn; cases hn
        · obtain ⟨o', e'⟩ := W.obj _ _ hst₂ b q; rw [e'] at hn; cases hn
    · obtain rfl : i = n := Nat.le_antisymm hi (Nat.not_lt.mp hlt)
      refine W.done _ _ _ hst' fun h₂ tk₂ hk₂ => ?_
      refine fin ys h₂ tk₂ (hk₂ D _ hDw hD') hyl (enF _ _ hen' fun b hb o e => hk₂ b o (hcw b hb) e) (fun b o e => hk₂ b o (hH b o e).2.2 (hK' b o e)) fun j y e h'' hl => hR' j y e h'' fun b o hb e' => hl b o hb (hk₂ b o (fun q => hb (by simp [q])) e')
  exact codeAny_compStart_list loop (W.self _ _ _ hst loop)
end
/-- a list of lists of ints, in the ledger -/
inductive Mat (l : Led) : List Value → List (List Int) → Prop
  | nil : Mat l [] []
  | cons {r : Addr} {vs : List Value} {e : Nat} {ns : List Int} {vr : List Value} {nr : List (List Int)} : (r, listOf vs.toArray e) ∈ l → IntsAre vs ns → Mat l vr nr → Mat l (.ref r :: vr) (ns :: nr)
theorem Mat.mono {l l' : Led} {vs : List Value} {ns : List (List Int)} (h : Mat l vs ns) (hs : ∀ p ∈ l, p ∈ l') : Mat l' vs ns := by
  induction h with
  | nil => exact .nil
  | cons a b _ ih => exact .cons (hs _ a) b ih
theorem Mat.length {l : Led} {vs : List Value} {ns : List (List Int)} (h : Mat l vs ns) : vs.length = ns.length := by
  induction h with
  | nil => rfl
  | cons _ _ _ ih => rw [List.length_cons, List.length_cons, ih]
theorem Mat.app {l : Led} {vs vs' : List Value} {ns ns' : List (List Int)} (h : Mat l vs ns) (h' : Mat l vs' ns') : Mat l (vs ++ vs') (ns ++ ns') := by
  induction h with
  | nil => exact h'
  | cons a b _ ih => exact .cons a b ih
theorem Mat.at {l : Led} {vs : List Value} {ns : List (List Int)} (h : Mat l vs ns) : ∀ i, i < vs.length → ∃ r us e, vs[i]? = some (.ref r) ∧ (r, listOf us.toArray e) ∈ l ∧ IntsAre us (ns.getD i []) := by
  induction h with
  | nil => intro i hi; exact absurd hi (Nat.not_lt_zero _)
  | cons a b _ ih =>
    intro i hi
    cases i with
    | zero => exact ⟨_, _, _, rfl, a, b⟩
    | succ i =>
      obtain ⟨r, us, e, h1, h2, h3⟩ := ih i (Nat.lt_of_succ_lt_succ hi)
      exact ⟨r, us, e, by simpa using h1, h2, by simpa using h3⟩
section
variable {prog : Program} {w : World} {A : Around} {E : Value → Shared → Prop} {s : Shared} {h₀ : Heap} {L : Addr} {m : Str → Option Value} {news : Led} {env : Env}
/-- a source reached: its turns, and what each turn makes -/
noncomputable def SrcG (prog : Program) (w : World) (A : Around) (E : Value → Shared → Prop) (h₀ : Heap) (L : Addr) (m : Str → Option Value) (news : Led) (target elt : PySem.Expr) (scope : Scope) (cl : List (Str × Addr)) (env : Env)
    (Fin : Heap → Shared → Addr → Addr → List Value → (Nat → Value → Heap → Prop) → Prop) (xv : Value) (s₁ : Shared) : Prop :=
  ∃ (H0 : Heap) (n : Nat) (P Rl : Nat → Value → Heap → Prop), Fr h₀ L H0 m ∧ News h₀ L H0 news ∧ Kps H0 s₁.heap ∧ n ≤ sizeLine ∧
   wpAny (model prog w) A (pyIter xv) (fun it s₂ => ∃ h₂ tk₂ I wr, s₂ = { s₁ with heap := h₂, toks := tk₂ } ∧ it = .ref I ∧ Kps H0 h₂ ∧ H0.objs.size ≤ h₂.objs.size ∧ (∀ b ∈ wr, b < h₂.objs.size ∧ H0.objs.size ≤ b) ∧
      ∀ free, (∀ b ∈ free, h₂.objs.size ≤ b) → ∃ Md St, GT prog w A target I free wr n P Md St ∧ St 0 h₂) E s₁ ∧
   (∀ i v C m₂ h tk (E' : Value → Shared → Prop), i < n → P i v h → h.Ns C m₂ → H0.objs.size ≤ C → Kps H0 h → Fr h₀ L h m → News h₀ L h news →
      wpAny (model prog w) A (assign target (compEnvC scope cl C env) v) (fun _ s' => wpAny (model prog w) A (eval elt (compEnvC scope cl C env)) (fun y s₂ => ∃ h' tk', s₂ = { s₁ with heap := h', toks := tk' } ∧ (∃ m', h'.Ns C m') ∧ KpsB [C] h h' ∧
        ∀ h'', (∀ b o, h.get? b = none → h'.get? b = some o → h''.get? b = some o) → Rl i y h'') E' s') E' { s₁ with heap := h, toks := tk }) ∧
   (∀ D C ys h tk, H0.objs.size ≤ D → H0.objs.size ≤ C → D ≠ C → h.get? D = some (LCg.lst ys) → ys.length = n → Kps H0 h → (∃ m', h.Ns C m') → (∀ j y, ys[j]? = some y → ∀ h'', (∀ b o, b ≠ D → b ≠ C → h.get? b = some o → h''.get? b = some o) → Rl j y h'') →
      Fin H0 { s₁ with heap := h, toks := tk } D C ys Rl)
theorem compG_block {elt target iter : PySem.Expr} {scope : Scope} {cl : List (Str × Addr)} {pos : Pos} {use : Option (Value → Sem Unit)} {Q : Value → Shared → Prop} {xv : Value}
    (hcell : ∀ y ∈ scope.names, y.2 ≠ .cell) (hkind : scope.kind = .function)
    (h : SrcG prog w A E h₀ L m news target elt scope cl env (fun _ s' D C _ _ => compPost (model prog w) A E use Q (.ref D) C (.ok .next) s') xv s) :
    wpAny (model prog w) A (pyIter xv) (fun it s₂ => wpAny (model prog w) A (newList []) (fun acc s₃ =>
      wpAny (model prog w) A (newFunctionEnv scope env.globals cl [] env.qual none .none (some env)) (fun cenv s₄ =>
        codeAny (model prog w) A (.compStart (.ListComp elt [⟨target, iter, [], 0⟩] scope pos) 0 it acc { cenv with scope := relabel scope env }) (compPost (model prog w) A E use Q acc cenv.locals) s₄) E s₃) E s₂) E s := by
  obtain ⟨H0, n, P, Rl, F, N, hk0, hsz, hit, turn, fin⟩ := h
  refine wpAny_mono hit (fun it s₂ h₂ => ?_) fun _ _ e => e
  obtain ⟨h₂, tk₂, I, wr, rfl, rfl, hk₂, hle, hwr, gt⟩ := h₂
  refine wpAny_newObj_type (wpAny_newFunctionEnv hcell (by intro y hy; simp at hy) (fun h₁ hns₁ hsb₁ => ?_) hkind)
  dsimp only at hns₁ hsb₁ ⊢
  generalize hH2 : h₂.push { cls := .type "list", dict := none, data := .seq ([] : List Value).toArray } = H2 at hns₁ hsb₁ ⊢
  have hC : H2.objs.size = h₂.objs.size + 1 := by rw [← hH2, Heap.size_push]
  generalize hCe : H2.objs.size = C at *
  generalize hDe : h₂.objs.size = D at *
  have hDC : D ≠ C := by rw [hC]; exact Nat.ne_of_lt (Nat.lt_succ_self _)
  have old : Kps h₂ h₁ := fun b o e => by
    have hb : b < D := hDe ▸ Heap.lt_size e
    have hbC : b ≠ C := by rw [hC]; exact Nat.ne_of_lt (Nat.lt_succ_of_lt hb)
    exact hsb₁.extBut b o hbC (Heap.get?_push_of_some _ (hH2 ▸ Heap.get?_push_of_some _ e))
  have hacc : h₁.get? D = some (LCg.lst []) := hsb₁.extBut _ _ hDC (Heap.get?_push_of_some _ (hH2 ▸ (hDe ▸ Heap.get?_push_size _ rfl)))
  obtain ⟨Md, St, W, st0⟩ := gt [D, C] (fun b hb => by
    rcases List.mem_cons.mp hb with e | hb
    · exact Nat.le_of_eq e.symm
    · rw [List.mem_singleton.mp hb, hC]; exact Nat.le_succ _)
  have hHD : H0.objs.size ≤ D := hle
  have hHC : H0.objs.size ≤ C := by rw [hC]; exact Nat.le_succ_of_le hle
  refine compG_loop (cw := [C]) (En := fun h => ∃ m', h.Ns C m') (H0 := H0) (Rl := Rl) W hsz (W.frame _ _ _ st0 fun b o _ e => old b o e) ⟨_, hns₁⟩ hacc (fun b o e => old b o (hk₂ b o e)) (fun q => Nat.lt_irrefl _ (hwr D q).1) (fun q => hDC (List.mem_singleton.mp q))
    (fun b hb q => by rw [List.mem_singleton.mp hb] at q; have := (hwr C q).1; omega) (fun b o e => ?_) (fun h h' ⟨m', hn⟩ k => ⟨m', hn.at' fun o e => k C (List.mem_singleton.mpr rfl) o e⟩) (fun h ⟨m', hn⟩ b hb => ?_) ?_ ?_
  · have hb := Heap.lt_size e
    refine ⟨fun q => ?_, fun q => ?_, fun q => ?_⟩
    · rw [q] at hb; exact Nat.lt_irrefl _ (Nat.lt_of_lt_of_le hb hHD)
    · rw [List.mem_singleton.mp q] at hb; exact Nat.lt_irrefl _ (Nat.lt_of_lt_of_le hb hHC)
    · exact Nat.lt_irrefl _ (Nat.lt_of_lt_of_le hb (hwr b q).2)
  · rw [List.mem_singleton.mp hb]; obtain ⟨o, e, _⟩ := LCg.ns_obj hn; exact ⟨o, e⟩
  · intro i v h tk E' hi hP ⟨m₂, hn⟩ hK
    exact turn i v C m₂ h tk E' hi hP hn hHC hK (F.keeps hK) (N.grown hK)
  · intro ys h tk hD hl hn hK hR
    refine fin D C ys h tk hHD hHC hDC hD hl hK hn fun j y e h'' k => hR j y e h'' fun b o hb e' => k b o (fun q => hb (by simp [q])) (fun q => hb (by simp [q])) e'
theorem SrcG.mono {target elt : PySem.Expr} {scope : Scope} {cl : List (Str × Addr)} {Fin Fin' : Heap → Shared → Addr → Addr → List Value → (Nat → Value → Heap → Prop) → Prop} {xv : Value} {s₁ : Shared}
    (hf : ∀ H0 h tk D C ys Rl, Fr h₀ L H0 m → News h₀ L H0 news → H0.objs.size ≤ D → H0.objs.size ≤ C → D ≠ C → h.get? D = some (LCg.lst ys) → Kps H0 h → (∃ m', h.Ns C m') → Fin H0 { s₁ with heap := h, toks := tk } D C ys Rl → Fin' H0 { s₁ with heap := h, toks := tk } D C ys Rl)
    (h : SrcG prog w A E h₀ L m news target elt scope cl env Fin xv s₁) : SrcG prog w A E h₀ L m news target elt scope cl env Fin' xv s₁ := by
  obtain ⟨H0, n, P, Rl, F, N, hk0, hsz, hit, turn, fin⟩ := h
  exact ⟨H0, n, P, Rl, F, N, hk0, hsz, hit, turn, fun D C ys h tk a b c d e f g k => hf H0 h tk D C ys Rl F N a b c d f g (fin D C ys h tk a b c d e f g k)⟩
/-- the end of a comprehension whose list is a value -/
noncomputable def FinV (h₀ : Heap) (L : Addr) (m : Str → Option Value) (news : Led) (Q : Value → Shared → Prop) (H0 : Heap) (s' : Shared) (D C : Addr) (ys : List Value) (_ : Nat → Value → Heap → Prop) : Prop :=
  ∀ h tk, H0.objs.size ≤ D → Kps H0 h → KpsB [C] s'.heap h → Fr h₀ L h m → News h₀ L h ((D, LCg.lst ys) :: news) → (∀ p ∈ news, p.1 < D) → Q (.ref D) { s' with heap := h, toks := tk }
theorem frNew {H0 h : Heap} {D : Addr} {o : Obj} (F : Fr h₀ L H0 m) (N : News h₀ L H0 news) (K : Kps H0 h) (hD : H0.objs.size ≤ D) (e : h.get? D = some o) : News h₀ L h ((D, o) :: news) ∧ ∀ p ∈ news, p.1 < D := by
  have hlt : ∀ b o, H0.get? b = some o → b < D := fun b o e => Nat.lt_of_lt_of_le (Heap.lt_size e) hD
  refine ⟨fun p hp => ?_, fun p hp => hlt _ _ (N p hp).1⟩
  rcases List.mem_cons.mp hp with q | hp
  · subst q
    refine ⟨e, fun q => ?_, ?_⟩
    · have hL := F.ns.lt
      have q' : D = L := q
      rw [q'] at hD
      exact Nat.lt_irrefl _ (Nat.lt_of_lt_of_le hL hD)
    · cases e0 : h₀.get? D with
      | none => rfl
      | some o' => exact absurd (hlt _ _ (F.keep _ _ e0)) (Nat.lt_irrefl _)
  · exact ⟨K _ _ (N p hp).1, (N p hp).2⟩
theorem ListComp_G {elt target iter : PySem.Expr} {scope : Scope} {cl : List (Str × Addr)} {pos : Pos} {Q : Value → Shared → Prop}
    (hclos : closureFor scope env = pure cl) (hcell : ∀ y ∈ scope.names, y.2 ≠ .cell) (hkind : scope.kind = .function)
    (hnames : ∀ y ∈ scope.names, y.2 = .local → scope.names.lookup y.1 = some .local)
    (h : wpAny (model prog w) A (eval iter env) (SrcG prog w A E h₀ L m news target elt scope cl env (FinV h₀ L m news Q)) E s)
    (hs : ∀ x, foldedSetIterable iter env x = pure x := by intro _; rfl) :
    wpAny (model prog w) A (eval (.ListComp elt [⟨target, iter, [], 0⟩] scope pos) env) Q E s := by
  rw [eval_ListComp]
  refine wpAny_comprehension_free (use := none) rfl hs hclos hkind hnames (wpAny_mono h (fun xv s₁ h₁ => ?_) fun _ _ e => e)
  refine compG_block hcell hkind (h₁.mono fun H0 h tk D C ys Rl F N hD hC hDC e K hn fin => ?_)
  obtain ⟨m', hn⟩ := hn
  refine ⟨m', hn, fun h'' hs'' => ?_⟩
  have hK'' : Kps H0 h'' := fun b o e => hs''.extBut b o (fun q => Nat.lt_irrefl _ (Nat.lt_of_lt_of_le (q ▸ Heap.lt_size e) hC)) (K b o e)
  have hn'' := frNew F N hK'' hD (hs''.extBut _ _ hDC e)
  exact fin h'' tk hD hK'' (fun b o hb e => hs''.extBut b o (fun q => hb (by simp [q])) e) (F.keeps hK'') hn''.1 hn''.2
theorem rowsN {H0 h : Heap} (F : Fr h₀ L H0 m) (N : News h₀ L H0 news) (K : Kps H0 h) : ∀ (ys : List Value) (fs : List (List Int)), ys.length = fs.length →
    (∀ j (y : Value), ys[j]? = some y → ∃ r vs, y = .ref r ∧ h.get? r = some (LCg.lst vs) ∧ IntsAre vs (fs.getD j []) ∧ H0.objs.size ≤ r) → ∃ rows : Led, News h₀ L h (rows ++ news) ∧ Mat rows ys fs ∧ ∀ p ∈ rows, H0.objs.size ≤ p.1
  | [], [], _, _ => ⟨[], N.grown K, .nil, fun _ h => nomatch h⟩
  | [], _ :: _, h, _ => nomatch h
  | _ :: _, [], h, _ => nomatch h
  | y :: ys, f :: fs, hl, hR => by
    obtain ⟨rows, N1, M1, h1⟩ := rowsN F N K ys fs (Nat.succ.inj hl) fun j z hz => hR (j + 1) z hz
    obtain ⟨r, vs, rfl, e, hi, hr⟩ := hR 0 y rfl
    have hn := (frNew F N K hr e).1 _ (List.mem_cons_self ..)
    refine ⟨(r, LCg.lst vs) :: rows, fun p hp => ?_, .cons (List.mem_cons_self ..) hi (M1.mono fun p hp => List.mem_cons_of_mem _ hp), fun p hp => ?_⟩
    · rcases List.mem_cons.mp hp with q | hp
      · rw [q]; exact hn
      · exact N1 p hp
    · rcases List.mem_cons.mp hp with q | hp
      · rw [q]; exact hr
      · exact h1 p hp
end
-- zip of three lists, each item under one name
noncomputable abbrev IsZ3 (h : Heap) (z TI TO : Addr) (f0 f1 : Value) : Prop :=
  h.get? z = some { cls := .type "zip", dict := none, data := .fields #[f0, f1, .bool false, .ref TI, .ref TO], slots := #[] }
noncomputable abbrev IsT3 (h : Heap) (T : Addr) (a b c : Value) : Prop := h.get? T = some { cls := .type "tuple", data := .seq #[a, b, c] }
theorem ex_seg {h h' : Heap} {a z : Addr} {o : Obj} (hs : Heap.SameBut z h h') (hz : a ≠ z) (e : h.get? a = some o) : h'.get? a = some o := hs.extBut _ _ hz e
structure Ap3 (z TI TO i1 i2 i3 l1 l2 l3 : Addr) : Prop where
  TIz : TI ≠ z
  TITO : TI ≠ TO
  TOz : TO ≠ z
  TI1 : TI ≠ i1
  TI2 : TI ≠ i2
  TI3 : TI ≠ i3
  TO1 : TO ≠ i1
  TO2 : TO ≠ i2
  TO3 : TO ≠ i3
  i1z : i1 ≠ z
  i2z : i2 ≠ z
  i3z : i3 ≠ z
  i12 : i1 ≠ i2
  i13 : i1 ≠ i3
  i23 : i2 ≠ i3
  l : ∀ l ∈ [l1, l2, l3], l ≠ z ∧ l ≠ TO ∧ l ≠ i1 ∧ l ≠ i2 ∧ l ≠ i3
section
variable {prog : Program} {w : World} {A : Around} {E : Value → Shared → Prop} {s : Shared}
theorem upd3 {T : Addr} {a b c x : Value} {k : Nat} {Q : Unit → Shared → Prop} (hT : IsT3 s.heap T a b c)
    (h : ∀ h', h'.get? T = some { cls := .type "tuple", data := .seq ((#[a, b, c] : Array Value).setIfInBounds k x) } → Heap.SameBut T s.heap h' → Q () { s with heap := h' }) :
    wpAny (model prog w) A (updateSeq T (·.setIfInBounds k x)) Q E s := by
  refine wpAny_updateSeq hT rfl (h _ ?_ (Heap.SameBut.update ..))
  rw [Heap.get?_update_self _ hT rfl]
  simp [Obj.mapSeq]
theorem z3_first {z TI TO i1 i2 i3 l1 l2 l3 : Addr} {k : Nat} {xs ys us : Array Value} {x y u a b c : Value} {Q : Value → Shared → Prop} (D : Ap3 z TI TO i1 i2 i3 l1 l2 l3)
    (hz : IsZ3 s.heap z TI TO .none (.bool false)) (hTI : IsT3 s.heap TI (.ref i1) (.ref i2) (.ref i3)) (hTO : IsT3 s.heap TO a b c)
    (h1 : s.heap.IsListIter i1 l1 k) (h2 : s.heap.IsListIter i2 l2 k) (h3 : s.heap.IsListIter i3 l3 k) (hl1 : s.heap.IsList l1 xs) (hl2 : s.heap.IsList l2 ys) (hl3 : s.heap.IsList l3 us) (hx : xs[k]? = some x) (hy : ys[k]? = some y) (hu : us[k]? = some u)
    (hQ : ∀ h', IsZ3 h' z TI TO (rawInt s.heap.objs.size) (.bool false) → IsT3 h' TO x y u → h'.IsListIter i1 l1 (k + 1) → h'.IsListIter i2 l2 (k + 1) → h'.IsListIter i3 l3 (k + 1) → IsT3 h' s.heap.objs.size x y u →
      KpsB [z, TO, i1, i2, i3] s.heap h' → Q (.ref s.heap.objs.size) { s with heap := h' }) :
    wpAny (model prog w) A (Builtin.«zip.__next__» ⟨[.ref z], []⟩) (fun fin s' => ∃ v, fin = .done (.ret v) ∧ Q v s') E s := by
  show wpAny _ _ (field (.ref z) 2 >>= _) _ _ _
  refine wpAny_bind (wpAny_field hz rfl (x := .bool false) rfl ?_)
  show wpAny _ _ (field (.ref z) 3 >>= _) _ _ _
  refine wpAny_bind (wpAny_field hz rfl (x := .ref TI) rfl ?_)
  refine wpAny_bind (wpAny_seqItems hTI rfl ?_)
  show wpAny _ _ (Builtin.SmallTypes.ownedTupleIsFree (.ref z) >>= _) _ _ _
  refine wpAny_bind ?_
  unfold Builtin.SmallTypes.ownedTupleIsFree
  refine wpAny_bind (wpAny_field hz rfl (x := .none) rfl (wpAny_pure ?_))
  simp only [if_true]
  refine wpAny_bind (wpAny_rule ?_)
  refine wpAny_bind (wpAny_field hz rfl (x := .ref TO) rfl ?_)
  refine wpAny_bind (wpAny_setField_rec hz (by simp) fun h₁ hz₁ hs₁ => ?_)
  replace hz₁ : IsZ3 h₁ z TI TO .ellipsis (.bool false) := hz₁
  refine wpAny_bind ?_
  simp only [List.zipIdx_cons, List.zipIdx_nil, List.forIn_cons, List.forIn_nil]
  have L1 := D.l l1 (by simp)
  have L2 := D.l l2 (by simp)
  have L3 := D.l l3 (by simp)
  refine wpAny_bind (wpAny_bind (wpAny_onRaise ?_))
  show wpAny _ _ (Builtin.SmallTypes.nextOf (.ref i1) >>= _) _ _ _
  refine wpAny_bind (wpAny_nextOf_list_item (h1.extBut hs₁.extBut D.i1z) (hl1.extBut hs₁.extBut L1.1) hx fun h₂ h1₂ hs₂ => wpAny_pure ?_)
  have hTO₂ : IsT3 h₂ TO a b c := hs₂.extBut _ _ D.TO1 (hs₁.extBut _ _ D.TOz hTO)
  refine wpAny_bind (wpAny_seqItems hTO₂ rfl ?_)
  refine wpAny_bind (upd3 hTO₂ fun h₃ hTO₃ hs₃ => ?_)
  replace hTO₃ : IsT3 h₃ TO x b c := hTO₃
  refine wpAny_bind (wpAny_letGo (wpAny_pure ?_))
  refine wpAny_bind (wpAny_bind (wpAny_onRaise ?_))
  show wpAny _ _ (Builtin.SmallTypes.nextOf (.ref i2) >>= _) _ _ _
  refine wpAny_bind (wpAny_nextOf_list_item (((h2.extBut hs₁.extBut D.i2z).extBut hs₂.extBut D.i12.symm).extBut hs₃.extBut D.TO2.symm) (((hl2.extBut hs₁.extBut L2.1).extBut hs₂.extBut L2.2.2.1).extBut hs₃.extBut L2.2.1) hy fun h₄ h2₄ hs₄ => wpAny_pure ?_)
  have hTO₄ : IsT3 h₄ TO x b c := hs₄.extBut _ _ D.TO2 hTO₃
  refine wpAny_bind (wpAny_seqItems hTO₄ rfl ?_)
  refine wpAny_bind (upd3 hTO₄ fun h₅ hTO₅ hs₅ => ?_)
  replace hTO₅ : IsT3 h₅ TO x y c := hTO₅
  refine wpAny_bind (wpAny_letGo (wpAny_pure ?_))
  refine wpAny_bind (wpAny_bind (wpAny_onRaise ?_))
  show wpAny _ _ (Builtin.SmallTypes.nextOf (.ref i3) >>= _) _ _ _
  refine wpAny_bind (wpAny_nextOf_list_item (((((h3.extBut hs₁.extBut D.i3z).extBut hs₂.extBut D.i13.symm).extBut hs₃.extBut D.TO3.symm).extBut hs₄.extBut D.i23.symm).extBut hs₅.extBut D.TO3.symm)
    (((((hl3.extBut hs₁.extBut L3.1).extBut hs₂.extBut L3.2.2.1).extBut hs₃.extBut L3.2.1).extBut hs₄.extBut L3.2.2.2.1).extBut hs₅.extBut L3.2.1) hu fun h₆ h3₆ hs₆ => wpAny_pure ?_)
  have hTO₆ : IsT3 h₆ TO x y c := hs₆.extBut _ _ D.TO3 hTO₅
  refine wpAny_bind (wpAny_seqItems hTO₆ rfl ?_)
  refine wpAny_bind (upd3 hTO₆ fun h₇ hTO₇ hs₇ => ?_)
  replace hTO₇ : IsT3 h₇ TO x y u := hTO₇
  refine wpAny_bind (wpAny_letGo (wpAny_pure (wpAny_pure ?_)))
  refine wpAny_bind (wpAny_seqItems hTO₇ rfl ?_)
  refine wpAny_bind (wpAny_newTuple ?_)
  have hsz : h₇.objs.size = s.heap.objs.size := by rw [hs₇.1, hs₆.1, hs₅.1, hs₄.1, hs₃.1, hs₂.1, hs₁.1]
  have hk₇ : KpsB [z, TO, i1, i2, i3] s.heap h₇ := fun d o hd e => by
    simp only [List.mem_cons, List.not_mem_nil, or_false, not_or] at hd
    exact hs₇.extBut _ _ hd.2.1 (hs₆.extBut _ _ hd.2.2.2.2 (hs₅.extBut _ _ hd.2.1 (hs₄.extBut _ _ hd.2.2.2.1 (hs₃.extBut _ _ hd.2.1 (hs₂.extBut _ _ hd.2.2.1 (hs₁.extBut _ _ hd.1 e))))))
  have hz₇ : IsZ3 h₇ z TI TO .ellipsis (.bool false) := hs₇.extBut _ _ D.TOz.symm (hs₆.extBut _ _ D.i3z.symm (hs₅.extBut _ _ D.TOz.symm (hs₄.extBut _ _ D.i2z.symm (hs₃.extBut _ _ D.TOz.symm (hs₂.extBut _ _ D.i1z.symm hz₁)))))
  have h1₇ : h₇.IsListIter i1 l1 (k + 1) := ((((h1₂.extBut hs₃.extBut D.TO1.symm).extBut hs₄.extBut D.i12).extBut hs₅.extBut D.TO1.symm).extBut hs₆.extBut D.i13).extBut hs₇.extBut D.TO1.symm
  have h2₇ : h₇.IsListIter i2 l2 (k + 1) := ((h2₄.extBut hs₅.extBut D.TO2.symm).extBut hs₆.extBut D.i23).extBut hs₇.extBut D.TO2.symm
  have h3₇ : h₇.IsListIter i3 l3 (k + 1) := h3₆.extBut hs₇.extBut D.TO3.symm
  have hzlt : z < h₇.objs.size := Heap.lt_size hz₇
  show wpAny _ _ (Builtin.SmallTypes.ownedTupleHandOut (.ref z) (.ref h₇.objs.size) >>= _) _ _ _
  refine wpAny_bind ?_
  unfold Builtin.SmallTypes.ownedTupleHandOut
  have hz₈ : IsZ3 (h₇.push { cls := .type "tuple", data := .seq #[x, y, u] }) z TI TO .ellipsis (.bool false) := Heap.get?_push_of_some _ hz₇
  refine wpAny_bind (wpAny_setField_rec hz₈ (by simp) fun h₈ hz₉ hs₈ => ?_)
  replace hz₉ : IsZ3 h₈ z TI TO (rawInt h₇.objs.size) (.bool false) := hz₉
  refine wpAny_setField_rec hz₉ (by simp) fun h₉ hz₁₀ hs₉ => ?_
  replace hz₁₀ : IsZ3 h₉ z TI TO (rawInt h₇.objs.size) (.bool false) := hz₁₀
  have up : ∀ d o, d ≠ z → h₇.get? d = some o → h₉.get? d = some o := fun d o c1 e => hs₉.extBut _ _ c1 (hs₈.extBut _ _ c1 (Heap.get?_push_of_some _ e))
  have hT₉ : IsT3 h₉ h₇.objs.size x y u := hs₉.extBut _ _ (Nat.ne_of_gt hzlt) (hs₈.extBut _ _ (Nat.ne_of_gt hzlt) (Heap.get?_push_size _ rfl))
  rw [hsz] at hz₁₀ hT₉
  refine wpAny_pure ⟨_, rfl, ?_⟩
  show Q (.ref h₇.objs.size) _
  rw [hsz]
  exact hQ h₉ hz₁₀ (up _ _ D.TOz hTO₇) (h1₇.at fun o e => up _ o D.i1z e) (h2₇.at fun o e => up _ o D.i2z e) (h3₇.at fun o e => up _ o D.i3z e) hT₉ fun d o hd e => up d o (fun q => hd (by simp [q])) (hk₇ d o hd e)
/-- the tuple handed out before lives: a further turn -/
theorem z3_owned {z TI TO T : Addr} {f1 : Bool} {o : Obj} {Q : Bool → Shared → Prop} (hz : IsZ3 s.heap z TI TO (rawInt T) (.bool f1)) (hT : s.heap.get? T = some o)
    (h : ∀ h', IsZ3 h' z TI TO (rawInt T) (.bool true) → Heap.SameBut z s.heap h' → Q false { s with heap := h' }) : wpAny (model prog w) A (Builtin.SmallTypes.ownedTupleIsFree (.ref z)) Q E s := by
  unfold Builtin.SmallTypes.ownedTupleIsFree
  refine wpAny_bind (wpAny_field hz rfl (x := rawInt T) rfl ?_)
  show wpAny _ _ (loadIfAlive ((T : Int)).toNat >>= _) _ _ _
  refine wpAny_bind (wpAny_lia ?_)
  rw [Int.toNat_natCast, hT]
  refine wpAny_bind (wpAny_field hz rfl (x := .bool f1) rfl ?_)
  cases f1 with
  | true => exact wpAny_pure (h s.heap hz ⟨rfl, fun _ _ => rfl⟩)
  | false =>
    refine wpAny_bind (wpAny_setField_rec hz (by simp) fun h₁ hz₁ hs₁ => ?_)
    exact wpAny_pure (h h₁ hz₁ hs₁)
theorem z3_next {z TI TO T i1 i2 i3 l1 l2 l3 : Addr} {f1 : Bool} {o : Obj} {k : Nat} {xs ys us : Array Value} {x y u : Value} {Q : Value → Shared → Prop} (D : Ap3 z TI TO i1 i2 i3 l1 l2 l3)
    (hz : IsZ3 s.heap z TI TO (rawInt T) (.bool f1)) (hT : s.heap.get? T = some o) (hTI : IsT3 s.heap TI (.ref i1) (.ref i2) (.ref i3))
    (h1 : s.heap.IsListIter i1 l1 k) (h2 : s.heap.IsListIter i2 l2 k) (h3 : s.heap.IsListIter i3 l3 k) (hl1 : s.heap.IsList l1 xs) (hl2 : s.heap.IsList l2 ys) (hl3 : s.heap.IsList l3 us) (hx : xs[k]? = some x) (hy : ys[k]? = some y) (hu : us[k]? = some u)
    (hQ : ∀ h', IsZ3 h' z TI TO (rawInt T) (.bool true) → h'.IsListIter i1 l1 (k + 1) → h'.IsListIter i2 l2 (k + 1) → h'.IsListIter i3 l3 (k + 1) → IsT3 h' s.heap.objs.size x y u →
      KpsB [z, i1, i2, i3] s.heap h' → Q (.ref s.heap.objs.size) { s with heap := h' }) :
    wpAny (model prog w) A (Builtin.«zip.__next__» ⟨[.ref z], []⟩) (fun fin s' => ∃ v, fin = .done (.ret v) ∧ Q v s') E s := by
  show wpAny _ _ (field (.ref z) 2 >>= _) _ _ _
  refine wpAny_bind (wpAny_field hz rfl (x := .bool false) rfl ?_)
  show wpAny _ _ (field (.ref z) 3 >>= _) _ _ _
  refine wpAny_bind (wpAny_field hz rfl (x := .ref TI) rfl ?_)
  refine wpAny_bind (wpAny_seqItems hTI rfl ?_)
  show wpAny _ _ (Builtin.SmallTypes.ownedTupleIsFree (.ref z) >>= _) _ _ _
  refine wpAny_bind (z3_owned hz hT fun h₁ hz₁ hs₁ => ?_)
  simp only [Bool.false_eq_true, if_false]
  have L1 := D.l l1 (by simp)
  have L2 := D.l l2 (by simp)
  have L3 := D.l l3 (by simp)
  refine wpAny_bind ?_
  show wpAny _ _ (forIn _ _ _) _ _ _
  rw [← Array.forIn_toList]
  simp only [List.forIn_cons, List.forIn_nil]
  refine wpAny_bind (wpAny_bind (wpAny_holding ?_))
  show wpAny _ _ (Builtin.SmallTypes.nextOf (.ref i1) >>= _) _ _ _
  refine wpAny_bind (wpAny_nextOf_list_item (h1.extBut hs₁.extBut D.i1z) (hl1.extBut hs₁.extBut L1.1) hx fun h₂ h1₂ hs₂ => wpAny_pure (wpAny_pure ?_))
  refine wpAny_bind (wpAny_bind (wpAny_holding ?_))
  show wpAny _ _ (Builtin.SmallTypes.nextOf (.ref i2) >>= _) _ _ _
  refine wpAny_bind (wpAny_nextOf_list_item ((h2.extBut hs₁.extBut D.i2z).extBut hs₂.extBut D.i12.symm) ((hl2.extBut hs₁.extBut L2.1).extBut hs₂.extBut L2.2.2.1) hy fun h₃ h2₃ hs₃ => wpAny_pure (wpAny_pure ?_))
  refine wpAny_bind (wpAny_bind (wpAny_holding ?_))
  show wpAny _ _ (Builtin.SmallTypes.nextOf (.ref i3) >>= _) _ _ _
  refine wpAny_bind (wpAny_nextOf_list_item (((h3.extBut hs₁.extBut D.i3z).extBut hs₂.extBut D.i13.symm).extBut hs₃.extBut D.i23.symm) (((hl3.extBut hs₁.extBut L3.1).extBut hs₂.extBut L3.2.2.1).extBut hs₃.extBut L3.2.2.2.1) hu fun h₄ h3₄ hs₄ => wpAny_pure (wpAny_pure (wpAny_pure ?_)))
  show wpAny _ _ (newTuple [x, y, u] >>= _) _ _ _
  refine wpAny_bind (wpAny_newTuple ?_ (Nat.le_of_ble_eq_true rfl))
  have hsz : h₄.objs.size = s.heap.objs.size := by rw [hs₄.1, hs₃.1, hs₂.1, hs₁.1]
  have up : ∀ d o, h₄.get? d = some o → (h₄.push { cls := .type "tuple", data := .seq #[x, y, u] }).get? d = some o := fun d o e => Heap.get?_push_of_some _ e
  refine wpAny_pure ⟨_, rfl, ?_⟩
  show Q (.ref h₄.objs.size) _
  have hT₄ : IsT3 (h₄.push { cls := .type "tuple", data := .seq #[x, y, u] }) h₄.objs.size x y u := Heap.get?_push_size _ rfl
  rw [hsz] at hT₄ ⊢
  refine hQ _ (up _ _ (hs₄.extBut _ _ D.i3z.symm (hs₃.extBut _ _ D.i2z.symm (hs₂.extBut _ _ D.i1z.symm hz₁)))) (((h1₂.extBut hs₃.extBut D.i12).extBut hs₄.extBut D.i13).at fun o e => up _ o e) ((h2₃.extBut hs₄.extBut D.i23).at fun o e => up _ o e) (h3₄.at fun o e => up _ o e) hT₄ fun d o hd e => up d o ?_
  simp only [List.mem_cons, List.not_mem_nil, or_false, not_or] at hd
  exact hs₄.extBut _ _ hd.2.2.2 (hs₃.extBut _ _ hd.2.2.1 (hs₂.extBut _ _ hd.2.1 (hs₁.extBut _ _ hd.1 e)))
theorem z3_end {z TI TO T i1 i2 i3 l1 l2 l3 : Addr} {f1 : Bool} {o : Obj} {k : Nat} {xs : Array Value} {Q : Fin → Shared → Prop} (hh : A.handled = none) (D : Ap3 z TI TO i1 i2 i3 l1 l2 l3)
    (hz : IsZ3 s.heap z TI TO (rawInt T) (.bool f1)) (hT : s.heap.get? T = some o) (hTI : IsT3 s.heap TI (.ref i1) (.ref i2) (.ref i3))
    (h1 : s.heap.IsListIter i1 l1 k) (hl1 : s.heap.IsList l1 xs) (hx : xs[k]? = none)
    (hE : ∀ h' e, KpsB [z, TO, i1, i2, i3] s.heap h' → (∃ o, h'.get? e = some o ∧ o.cls = .type "StopIteration") → E (.ref e) { s with heap := h' }) :
    wpAny (model prog w) A (Builtin.«zip.__next__» ⟨[.ref z], []⟩) Q E s := by
  show wpAny _ _ (field (.ref z) 2 >>= _) _ _ _
  refine wpAny_bind (wpAny_field hz rfl (x := .bool false) rfl ?_)
  show wpAny _ _ (field (.ref z) 3 >>= _) _ _ _
  refine wpAny_bind (wpAny_field hz rfl (x := .ref TI) rfl ?_)
  refine wpAny_bind (wpAny_seqItems hTI rfl ?_)
  show wpAny _ _ (Builtin.SmallTypes.ownedTupleIsFree (.ref z) >>= _) _ _ _
  refine wpAny_bind (z3_owned hz hT fun h₁ hz₁ hs₁ => ?_)
  simp only [Bool.false_eq_true, if_false]
  have L1 := D.l l1 (by simp)
  refine wpAny_bind ?_
  show wpAny _ _ (forIn _ _ _) _ _ _
  rw [← Array.forIn_toList]
  simp only [List.forIn_cons, List.forIn_nil]
  refine wpAny_bind (wpAny_bind (wpAny_holding ?_))
  show wpAny _ _ (Builtin.SmallTypes.nextOf (.ref i1) >>= _) _ _ _
  refine wpAny_bind (wpAny_nextOf_list_end hh (h1.extBut hs₁.extBut D.i1z) (hl1.extBut hs₁.extBut L1.1) hx fun h₂ e hs₂ he => hE h₂ e (fun d o hd q => ?_) he)
  simp only [List.mem_cons, List.not_mem_nil, or_false, not_or] at hd
  exact hs₂ _ _ hd.2.2.1 (hs₁.extBut _ _ hd.1 q)
end
section
variable {prog : Program} {w : World} {A : Around} {E : Value → Shared → Prop} {s : Shared}
theorem args_oi4 (a b c d : Value) : argsOk "object.__init__" ⟨[a, b, c, d], []⟩ := by
  unfold argsOk; rw [signature?_of (id := "object.__init__") (n := ['_', '_', 't', 'i', 'n', 'i', '_', '_']) (o := ['t', 'c', 'e', 'j', 'b', 'o']) (by kernel_rfl) PySem.F.owner_object]; kernel_rfl
theorem tc_zip3 (a b c : Value) : checkTypeCall "zip" ⟨[a, b, c], []⟩ = pure () := by kernel_rfl
theorem nc_zip3 (a b c : Value) : checkBuiltinCall "zip.__new__" ⟨[.type "zip", a, b, c], []⟩ = pure () := by kernel_rfl
noncomputable abbrev z3H (h : Heap) (l1 l2 l3 : Addr) : Heap := ((h.push { cls := .type "list_iterator", data := .fields #[.ref l1, .int 0 0] }).push { cls := .type "list_iterator", data := .fields #[.ref l2, .int 0 0] }).push { cls := .type "list_iterator", data := .fields #[.ref l3, .int 0 0] }
noncomputable abbrev z3H4 (h : Heap) (l1 l2 l3 : Addr) : Heap := (z3H h l1 l2 l3).push { cls := .type "tuple", data := .seq #[.ref h.objs.size, .ref (h.push { cls := .type "list_iterator", data := .fields #[.ref l1, .int 0 0] }).objs.size, .ref ((h.push { cls := .type "list_iterator", data := .fields #[.ref l1, .int 0 0] }).push { cls := .type "list_iterator", data := .fields #[.ref l2, .int 0 0] }).objs.size] }
noncomputable abbrev z3H5 (h : Heap) (l1 l2 l3 : Addr) : Heap := (z3H4 h l1 l2 l3).push { cls := .type "tuple", data := .seq #[.none, .none, .none] }
noncomputable abbrev z3H6 (h : Heap) (l1 l2 l3 : Addr) : Heap := (z3H5 h l1 l2 l3).push { cls := .type "zip", data := .fields #[.none, .bool false, .bool false, .ref (z3H h l1 l2 l3).objs.size, .ref (z3H4 h l1 l2 l3).objs.size] }
set_option maxHeartbeats 4000000 in
theorem meets_zip3 (l1 l2 l3 : Addr) (xs ys us : Array Value) :
    Meets (Builtin.«zip.__new__» ⟨[.type "zip", .ref l1, .ref l2, .ref l3], []⟩) (fun _ R s => s.heap.IsList l1 xs ∧ s.heap.IsList l2 ys ∧ s.heap.IsList l3 us ∧
      R (.ok (.ret (.ref (z3H5 s.heap l1 l2 l3).objs.size))) { s with heap := z3H6 s.heap l1 l2 l3 }) :=
  .of_wp fun prog w A R s h => by
    obtain ⟨hp, g, d, tk, os⟩ := s; obtain ⟨hl1, hl2, hl3, h⟩ := h
    have hsub := sub_zip
    have hL1 : Heap.IsList (Shared.heap ⟨hp, g, d, tk, os⟩) l1 xs := hl1
    have hL2 : Heap.IsList (Shared.heap ⟨hp.push { cls := .type "list_iterator", data := .fields #[.ref l1, .int 0 0] }, g, d, tk, os⟩) l2 ys := Heap.IsList.push hl2 _
    have hL3 : Heap.IsList (Shared.heap ⟨(hp.push { cls := .type "list_iterator", data := .fields #[.ref l1, .int 0 0] }).push { cls := .type "list_iterator", data := .fields #[.ref l2, .int 0 0] }, g, d, tk, os⟩) l3 us := Heap.IsList.push (Heap.IsList.push hl3 _) _
    wp_walk using wpAny_pyIter_list hL1, wpAny_pyIter_list hL2, wpAny_pyIter_list hL3
    exact ⟨_, rfl, h⟩
theorem call_zip3 {l1 l2 l3 : Addr} {xs ys us : Array Value} {Q : Value → Shared → Prop} (hl1 : s.heap.IsList l1 xs) (hl2 : s.heap.IsList l2 ys) (hl3 : s.heap.IsList l3 us)
    (h : ∀ h', IsZ3 h' (s.heap.objs.size + 5) (s.heap.objs.size + 3) (s.heap.objs.size + 4) .none (.bool false) → IsT3 h' (s.heap.objs.size + 3) (.ref s.heap.objs.size) (.ref (s.heap.objs.size + 1)) (.ref (s.heap.objs.size + 2)) →
      IsT3 h' (s.heap.objs.size + 4) .none .none .none → h'.IsListIter s.heap.objs.size l1 0 → h'.IsListIter (s.heap.objs.size + 1) l2 0 → h'.IsListIter (s.heap.objs.size + 2) l3 0 → h'.objs.size = s.heap.objs.size + 6 →
      Kps s.heap h' → Q (.ref (s.heap.objs.size + 5)) { s with heap := h' }) :
    wpAny (model prog w) A (call (.type "zip") [.ref l1, .ref l2, .ref l3]) Q E s := by
  refine callType_new PySem.F.called_zip (by decide) (tc_zip3 _ _ _) (nc_zip3 _ _ _) (fun obj => args_oi4 obj _ _ _) PySem.F.entry_zip_new (meets_zip3 l1 l2 l3 xs ys us) ⟨hl1, hl2, hl3, ?_⟩
  have k6 : Kps s.heap (z3H6 s.heap l1 l2 l3) := fun c o x => Heap.get?_push_of_some _ (Heap.get?_push_of_some _ (Heap.get?_push_of_some _ (Heap.get?_push_of_some _ (Heap.get?_push_of_some _ (Heap.get?_push_of_some _ x)))))
  have g6 : (z3H6 s.heap l1 l2 l3).get? (z3H5 s.heap l1 l2 l3).objs.size = some _ := Heap.get?_push_size _ rfl
  have g5 : (z3H6 s.heap l1 l2 l3).get? (z3H4 s.heap l1 l2 l3).objs.size = some _ := Heap.get?_push_of_some _ (Heap.get?_push_size _ rfl)
  have g4 : (z3H6 s.heap l1 l2 l3).get? (z3H s.heap l1 l2 l3).objs.size = some _ := Heap.get?_push_of_some _ (Heap.get?_push_of_some _ (Heap.get?_push_size _ rfl))
  have g3 : (z3H6 s.heap l1 l2 l3).get? ((s.heap.push { cls := .type "list_iterator", data := .fields #[.ref l1, .int 0 0] }).push { cls := .type "list_iterator", data := .fields #[.ref l2, .int 0 0] }).objs.size = some _ := Heap.get?_push_of_some _ (Heap.get?_push_of_some _ (Heap.get?_push_of_some _ (Heap.get?_push_size _ rfl)))
  have g2 : (z3H6 s.heap l1 l2 l3).get? (s.heap.push { cls := .type "list_iterator", data := .fields #[.ref l1, .int 0 0] }).objs.size = some _ := Heap.get?_push_of_some _ (Heap.get?_push_of_some _ (Heap.get?_push_of_some _ (Heap.get?_push_of_some _ (Heap.get?_push_size _ rfl))))
  have g1 : (z3H6 s.heap l1 l2 l3).get? s.heap.objs.size = some _ := Heap.get?_push_of_some _ (Heap.get?_push_of_some _ (Heap.get?_push_of_some _ (Heap.get?_push_of_some _ (Heap.get?_push_of_some _ (Heap.get?_push_size _ rfl)))))
  have z6 : (z3H6 s.heap l1 l2 l3).objs.size = s.heap.objs.size + 6 := by simp only [Heap.size_push]
  show _ ∧ _
  simp only [Heap.size_push] at g6 g5 g4 g3 g2 ⊢
  exact ⟨⟨_, g6, rfl⟩, h _ g6 g4 g5 ⟨_, g1, rfl, rfl⟩ ⟨_, g2, rfl, rfl⟩ ⟨_, g3, rfl, rfl⟩ z6 k6⟩
/-- the state of such a zip ahead of its i-th turn -/
noncomputable def Z3St (z TI TO i1 i2 i3 l1 l2 l3 : Addr) (xs ys us : Array Value) (free : List Addr) (i : Nat) (h : Heap) : Prop :=
  (i = 0 ∧ IsZ3 h z TI TO .none (.bool false) ∨ 0 < i ∧ ∃ (T : Addr) (o : Obj) (f1 : Bool), IsZ3 h z TI TO (rawInt T) (.bool f1) ∧ h.get? T = some o ∧ T ∉ free) ∧
    IsT3 h TI (.ref i1) (.ref i2) (.ref i3) ∧ (∃ a b c, IsT3 h TO a b c) ∧ h.IsListIter i1 l1 i ∧ h.IsListIter i2 l2 i ∧ h.IsListIter i3 l3 i ∧ h.IsList l1 xs ∧ h.IsList l2 ys ∧ h.IsList l3 us
noncomputable def Z3P (xs ys us : Array Value) (i : Nat) (v : Value) (h : Heap) : Prop := ∃ T x y u, v = .ref T ∧ xs[i]? = some x ∧ ys[i]? = some y ∧ us[i]? = some u ∧ h.IsTuple T #[x, y, u]
theorem z3GT {z TI TO i1 i2 i3 l1 l2 l3 : Addr} {xs ys us : Array Value} {free : List Addr} {n : Nat} {x : Str} {px : Pos} (hh : A.handled = none) (D : Ap3 z TI TO i1 i2 i3 l1 l2 l3) (hn : 0 < n) (hx : xs.size = n) (hy : ys.size = n) (hu : us.size = n)
    (hf : ∀ b ∈ [z, TI, TO, i1, i2, i3, l1, l2, l3], b ∉ free) :
    GT prog w A (.Name x px) z free [z, TO, i1, i2, i3] n (Z3P xs ys us) (fun i v h => Z3P xs ys us i v h ∧ Z3St z TI TO i1 i2 i3 l1 l2 l3 xs ys us free (i + 1) h) (Z3St z TI TO i1 i2 i3 l1 l2 l3 xs ys us free) where
  frame := fun i h h' ⟨hz, hTI, ⟨a, b, c, hTO⟩, h1, h2, h3, hl1, hl2, hl3⟩ k => by
    refine ⟨hz.imp (fun ⟨e, q⟩ => ⟨e, k _ _ (hf z (by simp)) q⟩) (fun ⟨e, T, o, f1, q, hT, nf⟩ => ⟨e, T, o, f1, k _ _ (hf z (by simp)) q, k _ _ nf hT, nf⟩), k _ _ (hf TI (by simp)) hTI, ⟨a, b, c, k _ _ (hf TO (by simp)) hTO⟩,
      h1.at fun o e => k _ o (hf i1 (by simp)) e, h2.at fun o e => k _ o (hf i2 (by simp)) e, h3.at fun o e => k _ o (hf i3 (by simp)) e, hl1.at fun o e => k _ o (hf l1 (by simp)) e, hl2.at fun o e => k _ o (hf l2 (by simp)) e, hl3.at fun o e => k _ o (hf l3 (by simp)) e⟩
  obj := fun i h ⟨hz, hTI, ⟨a, b, c, hTO⟩, ⟨o1, e1, _⟩, ⟨o2, e2, _⟩, ⟨o3, e3, _⟩, _⟩ b hb => by
    simp only [List.mem_cons, List.not_mem_nil, or_false] at hb
    rcases hb with rfl | rfl | rfl | rfl | rfl
    · rcases hz with ⟨_, q⟩ | ⟨_, T, o, f1, q, _⟩
      · exact ⟨_, q⟩
      · exact ⟨_, q⟩
    · exact ⟨_, hTO⟩
    · exact ⟨_, e1⟩
    · exact ⟨_, e2⟩
    · exact ⟨_, e3⟩
  item := fun i s Q E hi ⟨hz, hTI, ⟨a, b, c, hTO⟩, h1, h2, h3, hl1, hl2, hl3⟩ hfr hQ => by
    have ex : xs[i]? = some xs[i] := Array.getElem?_eq_getElem (hx ▸ hi)
    have ey : ys[i]? = some ys[i] := Array.getElem?_eq_getElem (hy ▸ hi)
    have eu : us[i]? = some us[i] := Array.getElem?_eq_getElem (hu ▸ hi)
    have nT : s.heap.objs.size ∉ free := fun q => by obtain ⟨o, e⟩ := hfr _ q; exact Nat.lt_irrefl _ (Heap.lt_size e)
    have L1 := D.l l1 (by simp)
    have L2 := D.l l2 (by simp)
    have L3 := D.l l3 (by simp)
    have keepL : ∀ {h' : Heap} {l : Addr} {vs : Array Value}, KpsB [z, TO, i1, i2, i3] s.heap h' → (l ≠ z ∧ l ≠ TO ∧ l ≠ i1 ∧ l ≠ i2 ∧ l ≠ i3) → s.heap.IsList l vs → h'.IsList l vs := fun k hl x => x.at fun o e => k _ o (by simp [hl]) e
    have fin : ∀ h' (f0T : Addr) (f1 : Bool), IsZ3 h' z TI TO (rawInt f0T) (.bool f1) → (∃ o, h'.get? f0T = some o) → f0T ∉ free → h'.IsListIter i1 l1 (i + 1) → h'.IsListIter i2 l2 (i + 1) → h'.IsListIter i3 l3 (i + 1) → (∃ a b c, IsT3 h' TO a b c) → IsT3 h' s.heap.objs.size xs[i] ys[i] us[i] →
        KpsB [z, TO, i1, i2, i3] s.heap h' → Q (some (.ref s.heap.objs.size)) { s with heap := h' } := fun h' f0T f1 a1 ⟨o, a2⟩ a3 a4 a5 a6 a7 a8 a9 =>
      hQ _ h' s.toks ⟨⟨_, _, _, _, rfl, ex, ey, eu, ⟨_, a8, rfl, _, rfl⟩⟩, .inr ⟨Nat.succ_pos _, f0T, o, f1, a1, a2, a3⟩, a9 _ _ (by simp [D.TIz, D.TITO, D.TI1, D.TI2, D.TI3]) hTI, a7, a4, a5, a6, keepL a9 L1 hl1, keepL a9 L2 hl2, keepL a9 L3 hl3⟩ a9
    unfold pyNext
    rcases hz with ⟨_, hz⟩ | ⟨_, T, o, f1, hz, hT, nf⟩
    · have hty : s.TypeIs (.ref z) "zip" := ⟨_, hz, rfl⟩
      exact wpAny_bind (wpAny_attempt (wpAny_callSpecial?_slot (name := Str.ofString "__next__") hty PySem.F.slot_zip_next (wpAny_call_entry PySem.F.slot_zip_next hty PySem.F.entry_zip_next
        (z3_first D hz hTI hTO h1 h2 h3 hl1 hl2 hl3 ex ey eu fun h' a1 a2 a3 a4 a5 a6 a7 => wpAny_pure (fin h' _ _ a1 ⟨_, a6⟩ nT a3 a4 a5 ⟨_, _, _, a2⟩ a6 a7)) (PySem.F.args_zip_next_1 _))))
    · have hty : s.TypeIs (.ref z) "zip" := ⟨_, hz, rfl⟩
      refine wpAny_bind (wpAny_attempt (wpAny_callSpecial?_slot (name := Str.ofString "__next__") hty PySem.F.slot_zip_next (wpAny_call_entry PySem.F.slot_zip_next hty PySem.F.entry_zip_next
        (z3_next D hz hT hTI h1 h2 h3 hl1 hl2 hl3 ex ey eu fun h' a1 a3 a4 a5 a6 a7 => wpAny_pure ?_) (PySem.F.args_zip_next_1 _))))
      have k5 : KpsB [z, TO, i1, i2, i3] s.heap h' := fun d o hd e => a7 d o (fun q => hd (by simp only [List.mem_cons, List.not_mem_nil, or_false] at q ⊢; rcases q with q | q | q | q <;> simp [q])) e
      have hTn : ∃ o', h'.get? T = some o' := by
        by_cases q : T ∈ [z, i1, i2, i3]
        · simp only [List.mem_cons, List.not_mem_nil, or_false] at q
          rcases q with rfl | rfl | rfl | rfl
          · exact ⟨_, a1⟩
          · obtain ⟨o1, e1, _⟩ := a3; exact ⟨_, e1⟩
          · obtain ⟨o1, e1, _⟩ := a4; exact ⟨_, e1⟩
          · obtain ⟨o1, e1, _⟩ := a5; exact ⟨_, e1⟩
        · exact ⟨_, a7 _ _ q hT⟩
      exact fin h' T true a1 hTn nf a3 a4 a5 ⟨_, _, _, a7 _ _ (by simp [D.TOz, D.TO1, D.TO2, D.TO3]) hTO⟩ a6 k5
  go := fun i v s Q E ⟨hP, hst⟩ hQ => by
    unfold letOwnedTupleGo
    exact wpAny_pure (hQ s.heap hP hst fun _ _ _ e => e)
  done := fun s Q E ⟨hz, hTI, ⟨a, b, c, hTO⟩, h1, h2, h3, hl1, hl2, hl3⟩ hQ => by
    rcases hz with ⟨e, _⟩ | ⟨_, T, o, f1, hz, hT, nf⟩
    · omega
    · have hty : s.TypeIs (.ref z) "zip" := ⟨_, hz, rfl⟩
      unfold pyNext
      refine wpAny_bind (wpAny_attempt (wpAny_callSpecial?_slot (name := Str.ofString "__next__") hty PySem.F.slot_zip_next
        (wpAny_call_entry PySem.F.slot_zip_next hty PySem.F.entry_zip_next (z3_end hh D hz hT hTI h1 hl1 (Array.getElem?_eq_none (Nat.le_of_eq hx)) fun h' e hk he => ?_) (PySem.F.args_zip_next_1 _))))
      obtain ⟨o, ho, hc⟩ := he
      refine wpAny_bind (wpAny_isInstance (T := "StopIteration") (b := true) ⟨o, ho, hc⟩ isSubtype_stop ?_)
      exact wpAny_pure (hQ h' _ hk)
  self := fun s Q E ⟨hz, _⟩ hQ => by
    rcases hz with ⟨_, hz⟩ | ⟨e, _⟩
    · have hty : s.TypeIs (.ref z) "zip" := ⟨_, hz, rfl⟩
      refine wpAny_pyIter_slot hty PySem.F.slot_zip_iter (wpAny_call_entry PySem.F.slot_zip_iter hty PySem.F.entry_zip_iter ?_ (PySem.F.args_zip_iter_1 _))
      show wpAny _ _ (ret (.ref z)) _ _ s
      exact wpAny_pure ⟨_, rfl, "zip", _, hty, PySem.F.slot_zip_next.lookup, hQ⟩
    · omega
end
theorem intsOf : ∀ {ys : List Value} {ns : List Int}, ys.length = ns.length → (∀ j (y : Value), ys[j]? = some y → ∃ t, y = .int (ns.getD j 0) t) → IntsAre ys ns
  | [], [], _, _ => .nil
  | [], _ :: _, h, _ => nomatch h
  | _ :: _, [], h, _ => nomatch h
  | y :: ys, n :: ns, hl, h => by
    obtain ⟨t, e⟩ := h 0 y rfl
    rw [e]
    exact .cons n t (intsOf (Nat.succ.inj hl) fun j z hz => h (j + 1) z hz)
theorem intsAtD : ∀ {ys : List Value} {ns : List Int}, IntsAre ys ns → ∀ (j : Nat) {y : Value}, ys[j]? = some y → ∃ t, y = .int (ns.getD j 0) t
  | _, _, .nil, j, y, h => by simp at h
  | _, _, .cons i t r, 0, y, h => ⟨t, (Option.some.inj h).symm⟩
  | _, _, .cons i t r, j + 1, y, h => intsAtD r j h
section
variable {prog : Program} {w : World} {A : Around} {E : Value → Shared → Prop} {s : Shared} {h₀ : Heap} {L : Addr} {m : Str → Option Value} {news : Led} {env : Env} {elt : PySem.Expr} {scope : Scope} {cl : List (Str × Addr)}
  {Fin : Heap → Shared → Addr → Addr → List Value → (Nat → Value → Heap → Prop) → Prop}
/-- a source under one name -/
theorem srcName {x : Str} {px : Pos} {xv : Value} {H0 : Heap} {n : Nat} {P Rl : Nat → Value → Heap → Prop} (F : Fr h₀ L H0 m) (N : News h₀ L H0 news) (hk : Kps H0 s.heap) (hsz : n ≤ sizeLine)
    (hit : wpAny (model prog w) A (pyIter xv) (fun it s₂ => ∃ h₂ tk₂ I wr, s₂ = { s with heap := h₂, toks := tk₂ } ∧ it = .ref I ∧ Kps H0 h₂ ∧ H0.objs.size ≤ h₂.objs.size ∧ (∀ b ∈ wr, b < h₂.objs.size ∧ H0.objs.size ≤ b) ∧
      ∀ free, (∀ b ∈ free, h₂.objs.size ≤ b) → ∃ Md St, GT prog w A (.Name x px) I free wr n P Md St ∧ St 0 h₂) E s)
    (hkind : scope.kind = .function) (hx : scope.names.lookup x = some .local) (hP : ∀ i v h h' C m₂, P i v h → h.Ns C m₂ → Heap.SameBut C h h' → P i v h')
    (helt : ∀ i v C oC m₂ h tk (E' : Value → Shared → Prop), i < n → P i v h → LCg.NsObj oC m₂ → m₂ x = some v → Fr h₀ L h m → News h₀ L h ((C, oC) :: news) → (∀ p ∈ news, p.1 < C) → H0.objs.size ≤ C → Kps H0 h →
      wpAny (model prog w) A (eval elt (compEnvC scope cl C env)) (fun y s₂ => ∃ h' tk', s₂ = { s with heap := h', toks := tk' } ∧ Kps h h' ∧ ∀ h'', (∀ b o, h.get? b = none → h'.get? b = some o → h''.get? b = some o) → Rl i y h'') E' { s with heap := h, toks := tk })
    (fin : ∀ D C ys h tk, H0.objs.size ≤ D → H0.objs.size ≤ C → D ≠ C → h.get? D = some (LCg.lst ys) → ys.length = n → Kps H0 h → (∀ j y, ys[j]? = some y → ∀ h'', (∀ b o, b ≠ D → b ≠ C → h.get? b = some o → h''.get? b = some o) → Rl j y h'') →
      Fin H0 { s with heap := h, toks := tk } D C ys Rl) :
    SrcG prog w A E h₀ L m news (.Name x px) elt scope cl env Fin xv s := by
  refine ⟨H0, n, P, Rl, F, N, hk, hsz, hit, fun i v C m₂ h tk E' hi hPi hn hC hK F' N' => ?_, fun D C ys h tk a b c d e f _ k => fin D C ys h tk a b c d e f k⟩
  refine wpAny_assign_Name (wpAny_storeName_local (env := compEnvC scope cl C env) (lookup_relabel_local hx) hn (fun h₁ hn₁ hs₁ => ?_) (by simp [compEnvC, relabel, hkind]))
  have hn₁' : h₁.Ns C (fun z => if z = x then some v else m₂ z) := hn₁
  obtain ⟨oC, eC, hoC⟩ := LCg.ns_obj hn₁'
  have hC0 : ∀ b o, H0.get? b = some o → b < C := fun b o e => Nat.lt_of_lt_of_le (Heap.lt_size e) hC
  have hK₁ : Kps H0 h₁ := fun b o e => hs₁.extBut b o (Nat.ne_of_lt (hC0 b o e)) (hK b o e)
  obtain ⟨N₁, lC⟩ := frNew F N hK₁ hC eC
  refine wpAny_mono (helt i v C oC _ h₁ _ E' hi (hP i v h h₁ C m₂ hPi hn hs₁) hoC (by simp) (F.keeps hK₁) N₁ lC hC hK₁) (fun y s₂ hy => ?_) fun _ _ e => e
  obtain ⟨h₂, tk₂, rfl, hk₂, hr⟩ := hy
  have hCn : ∃ o, h.get? C = some o := by obtain ⟨o, e, _⟩ := LCg.ns_obj hn; exact ⟨o, e⟩
  refine ⟨h₂, tk₂, rfl, ⟨_, hn₁'.at' fun o e => hk₂ C o e⟩, fun b o hb e => hk₂ b o (hs₁.extBut b o (fun q => hb (List.mem_singleton.mpr q)) e), fun h'' hh => hr h'' fun b o hb e => hh b o ?_ e⟩
  cases e' : h.get? b with
  | none => rfl
  | some o' =>
    have hbC : b ≠ C := fun q => by rw [q, eC] at hb; cases hb
    rw [hs₁.extBut b o' hbC e'] at hb
    cases hb
/-- a list of the call's own as a source -/
theorem listG {x : Str} {px : Pos} {l : Addr} {vs : List Value} {k : Nat} {Rl : Nat → Value → Heap → Prop} (hh : A.handled = none) (F : Fr h₀ L s.heap m) (N : News h₀ L s.heap news) (hm : (l, listOf vs.toArray k) ∈ news) (hsz : vs.length ≤ 1000)
    (hkind : scope.kind = .function) (hx : scope.names.lookup x = some .local)
    (helt : ∀ i v C oC m₂ h tk (E' : Value → Shared → Prop), i < vs.length → vs[i]? = some v → LCg.NsObj oC m₂ → m₂ x = some v → Fr h₀ L h m → News h₀ L h ((C, oC) :: news) → (∀ p ∈ news, p.1 < C) → s.heap.objs.size ≤ C → Kps s.heap h →
      wpAny (model prog w) A (eval elt (compEnvC scope cl C env)) (fun y s₂ => ∃ h' tk', s₂ = { s with heap := h', toks := tk' } ∧ Kps h h' ∧ ∀ h'', (∀ b o, h.get? b = none → h'.get? b = some o → h''.get? b = some o) → Rl i y h'') E' { s with heap := h, toks := tk })
    (fin : ∀ D C ys h tk, s.heap.objs.size ≤ D → s.heap.objs.size ≤ C → D ≠ C → h.get? D = some (LCg.lst ys) → ys.length = vs.length → Kps s.heap h → (∀ j y, ys[j]? = some y → ∀ h'', (∀ b o, b ≠ D → b ≠ C → h.get? b = some o → h''.get? b = some o) → Rl j y h'') →
      Fin s.heap { s with heap := h, toks := tk } D C ys Rl) :
    SrcG prog w A E h₀ L m news (.Name x px) elt scope cl env Fin (.ref l) s := by
  have hl := News.isList N hm
  have hlt : l < s.heap.objs.size := Heap.lt_size (N _ hm).1
  refine srcName (n := vs.length) (P := fun i v _ => vs.toArray[i]? = some v) F N (fun _ _ e => e) (Nat.le_trans hsz (by decide)) ?_ hkind hx (fun _ _ _ _ _ _ h _ _ => h) (fun i v C oC m₂ h tk E' a b => helt i v C oC m₂ h tk E' a (by simpa using b)) fin
  have up : Kps s.heap (s.heap.push { cls := .type "list_iterator", data := .fields #[.ref l, .int 0 0] }) := fun b o e => Heap.get?_push_of_some _ e
  refine wpAny_pyIter_list hl ⟨_, s.toks, s.heap.objs.size, [s.heap.objs.size], rfl, rfl, up, by rw [Heap.size_push]; exact Nat.le_succ _, fun b hb => by rw [List.mem_singleton.mp hb, Heap.size_push]; exact ⟨Nat.lt_succ_self _, Nat.le_refl _⟩, fun free hf => ?_⟩
  have e1 : vs.length = vs.toArray.size := List.size_toArray.symm
  rw [Heap.size_push] at hf
  rw [e1]
  refine ⟨_, _, GT.ofK (KTurns.ofWalks (Walks.list hh s.heap.objs.size l (Nat.ne_of_lt hlt) vs.toArray) fun i v s Q E st q => ?_) (fun b hb q => ?_) (fun i h st b hb => ?_) (fun s Q E st q => wpAny_pyIter_listiter st.1 q), ⟨⟨_, Heap.get?_push_size _ rfl, rfl, rfl⟩, hl.push _⟩⟩
  · unfold letOwnedTupleGo; exact wpAny_pure q
  · have := hf b q
    rcases List.mem_cons.mp hb with e | hb
    · rw [e] at this; exact Nat.not_succ_le_self _ this
    · rw [List.mem_singleton.mp hb] at this; exact absurd hlt (Nat.not_lt.mpr (Nat.le_of_succ_le this))
  · rw [List.mem_singleton.mp hb]; obtain ⟨o, e, _⟩ := st.1; exact ⟨o, e⟩
/-- a range as a source -/
theorem rangeG {x : Str} {px : Pos} {r : Addr} {a b : Int} {t u v : Tok} {n : Nat} {Rl : Nat → Value → Heap → Prop} (hh : A.handled = none) (F : Fr h₀ L s.heap m) (N : News h₀ L s.heap news) (hr : IsRange s.heap r a b 1 t u v) (hsm : Builtin.Range.small a b 1 = true) (hn : Builtin.Range.rangeSize a b 1 = ((n : Nat) : Int)) (hsz : n ≤ 1000)
    (hkind : scope.kind = .function) (hx : scope.names.lookup x = some .local)
    (helt : ∀ i v C oC m₂ h tk (E' : Value → Shared → Prop), i < n → (∃ t, v = .int (a + (i : Int)) t) → LCg.NsObj oC m₂ → m₂ x = some v → Fr h₀ L h m → News h₀ L h ((C, oC) :: news) → (∀ p ∈ news, p.1 < C) → s.heap.objs.size ≤ C → Kps s.heap h →
      wpAny (model prog w) A (eval elt (compEnvC scope cl C env)) (fun y s₂ => ∃ h' tk', s₂ = { s with heap := h', toks := tk' } ∧ Kps h h' ∧ ∀ h'', (∀ b o, h.get? b = none → h'.get? b = some o → h''.get? b = some o) → Rl i y h'') E' { s with heap := h, toks := tk })
    (fin : ∀ D C ys h tk, s.heap.objs.size ≤ D → s.heap.objs.size ≤ C → D ≠ C → h.get? D = some (LCg.lst ys) → ys.length = n → Kps s.heap h → (∀ j y, ys[j]? = some y → ∀ h'', (∀ b o, b ≠ D → b ≠ C → h.get? b = some o → h''.get? b = some o) → Rl j y h'') →
      Fin s.heap { s with heap := h, toks := tk } D C ys Rl) :
    SrcG prog w A E h₀ L m news (.Name x px) elt scope cl env Fin (.ref r) s := by
  refine srcName (n := n) (P := fun i v _ => ∃ t, v = .int (a + (i : Int)) t) F N (fun _ _ e => e) (Nat.le_trans hsz (by decide)) ?_ hkind hx (fun _ _ _ _ _ _ h _ _ => h) helt fin
  refine wpAny_pyIter_range hr hsm ⟨_, s.toks, s.heap.objs.size, [s.heap.objs.size], rfl, rfl, fun b o e => Heap.get?_push_of_some _ e, by rw [Heap.size_push]; exact Nat.le_succ _, fun b hb => by rw [List.mem_singleton.mp hb, Heap.size_push]; exact ⟨Nat.lt_succ_self _, Nat.le_refl _⟩, fun free hf => ?_⟩
  rw [Heap.size_push] at hf
  refine ⟨_, _, GT.ofK (KTurns.ofWalks (LCg.range_walks hh a n) fun i v s Q E st q => ?_) (fun b hb q => ?_) (fun i h st b hb => ?_) (fun s Q E st q => (LCg.range_walks hh a n).self 0 s Q E st q), ?_⟩
  · unfold letOwnedTupleGo; exact wpAny_pure q
  · have := hf b q
    rw [List.mem_singleton.mp hb] at this; exact Nat.not_succ_le_self _ this
  · rw [List.mem_singleton.mp hb]; exact ⟨_, st⟩
  · show IsRangeIter _ _ _ _ _; rw [hn]; simpa using Heap.get?_push_size _ rfl
end
section
variable {prog : Program} {w : World} {A : Around} {E : Value → Shared → Prop} {s : Shared} {h₀ : Heap} {L : Addr} {m : Str → Option Value} {news : Led} {env : Env} {elt : PySem.Expr} {scope : Scope} {cl : List (Str × Addr)}
  {Fin : Heap → Shared → Addr → Addr → List Value → (Nat → Value → Heap → Prop) → Prop}
theorem zwD : ∀ (g : Int → Int → Int) (ns ms : List Int) (j : Nat), j < ns.length → ns.length = ms.length → (List.zipWith g ns ms).getD j 0 = g (ns.getD j 0) (ms.getD j 0)
  | g, n :: ns, k :: ms, 0, _, _ => rfl
  | g, n :: ns, k :: ms, j + 1, h, e => by
    have := zwD g ns ms j (Nat.lt_of_succ_lt_succ h) (Nat.succ.inj e)
    simpa using this
/-- zip of two lists of ints under two names, an int made of the two -/
theorem zip2G {l1 l2 : Addr} {xs ys : List Value} {n1 n2 : Nat} {ns ms : List Int} {a b : Str} {pa pb tp : Pos} {kk : Nat} (hh : A.handled = none) (F : Fr h₀ L s.heap m) (N : News h₀ L s.heap news) (hm1 : (l1, listOf xs.toArray n1) ∈ news) (hm2 : (l2, listOf ys.toArray n2) ∈ news)
    (hi1 : IntsAre xs ns) (hi2 : IntsAre ys ms) (hl : ns.length = ms.length) (hsz : ns.length ≤ 1000) (g : Int → Int → Int) (hkind : scope.kind = .function) (ha : scope.names.lookup a = some .local) (hb : scope.names.lookup b = some .local) (hab : ¬ a = b)
    (helt : ∀ (x y : Int) C m₂ h tk (t u : Tok) (E' : Value → Shared → Prop), h.Ns C m₂ → m₂ a = some (.int x t) → m₂ b = some (.int y u) →
      wpAny (model prog w) A (eval elt (compEnvC scope cl C env)) (fun v s₂ => ∃ tk' t', s₂ = { s with heap := h, toks := tk' } ∧ v = .int (g x y) t') E' { s with heap := h, toks := tk })
    (fin : ∀ D C ys' h tk Rl, h.get? D = some (LCg.lst ys') → Kps s.heap h → IntsAre ys' (List.zipWith g ns ms) → Fin s.heap { s with heap := h, toks := tk } D C ys' Rl) :
    wpAny (model prog w) A (call (.type "zip") [.ref l1, .ref l2]) (SrcG prog w A E h₀ L m news (.Tuple [.Name a pa, .Name b pb] kk tp) elt scope cl env Fin) E s := by
  have hl1 := News.isList N hm1
  have hl2 := News.isList N hm2
  have hlt1 : l1 < s.heap.objs.size := Heap.lt_size (N _ hm1).1
  have hlt2 : l2 < s.heap.objs.size := Heap.lt_size (N _ hm2).1
  have D := ktu_apart s.heap.objs.size l1 l2 hlt1 hlt2
  have hx : xs.length = ns.length := hi1.length
  have hy : ys.length = ns.length := by rw [hi2.length, hl]
  have hmin : min xs.toArray.size ys.toArray.size = ns.length := by rw [List.size_toArray, List.size_toArray, hx, hy, Nat.min_self]
  have W := KTurns.ofWalksU (elts := [.Name a pa, .Name b pb]) (k := kk) (pos := tp) (WalksT.zip2 (prog := prog) (w := w) hh _ _ _ _ _ _ _ D xs.toArray ys.toArray).toU
  rw [hmin] at W
  refine call_zip_2 hl1 hl2 fun h' hz hTI hTO hi1' hi2' hsz' hk => ?_
  refine ⟨s.heap, ns.length, _, fun i v _ => ∃ t, v = .int (g (ns.getD i 0) (ms.getD i 0)) t, F, N, hk, Nat.le_trans hsz (by decide), wpAny_pyIter_zip hz ⟨h', s.toks, _, _, rfl, rfl, hk, by show s.heap.objs.size ≤ h'.objs.size; rw [hsz']; exact Nat.le_add_right _ _, fun b hb => ?_, fun free hf => ⟨_, _, GT.ofK W (fun b hb q => ?_) (fun i h st b hb => ?_) (fun s Q E st q => wpAny_pyIter_zip st.1 q), ⟨hz, hTI, ⟨_, _, hTO⟩, hi1', hi2', hl1.at fun o e => hk _ o e, hl2.at fun o e => hk _ o e⟩⟩⟩, ?_, ?_⟩
  · simp only [List.mem_cons, List.not_mem_nil, or_false] at hb
    rw [hsz']
    rcases hb with rfl | rfl | rfl | rfl
    · exact ⟨by omega, Nat.le_add_right _ _⟩
    · exact ⟨by omega, Nat.le_add_right _ _⟩
    · exact ⟨by omega, Nat.le_refl _⟩
    · exact ⟨by omega, Nat.le_add_right _ _⟩
  · have := hf b q
    rw [hsz'] at this
    simp only [List.mem_cons, List.not_mem_nil, or_false] at hb
    have h1 := ltN hlt1
    have h2 := ltN hlt2
    rcases hb with rfl | rfl | rfl | rfl | rfl | rfl | rfl <;> omega
  · obtain ⟨hz, hTI, ⟨p, q, hTO⟩, ⟨o1, e1, _⟩, ⟨o2, e2, _⟩, _⟩ := st
    simp only [List.mem_cons, List.not_mem_nil, or_false] at hb
    rcases hb with rfl | rfl | rfl | rfl
    · exact ⟨_, hz⟩
    · exact ⟨_, hTO⟩
    · exact ⟨_, e1⟩
    · exact ⟨_, e2⟩
  · intro i v C m₂ h tk E' hi hP hn hC hK F' N'
    obtain ⟨T, vals, rfl, ⟨x, y, ex, ey, rfl⟩, hT⟩ := hP
    obtain ⟨t, rfl⟩ := intsAtD hi1 i (by simpa using ex)
    obtain ⟨u, rfl⟩ := intsAtD hi2 i (by simpa using ey)
    refine kcp_assign (env := compEnvC scope cl C env) hh hT (lookup_relabel_local ha) (lookup_relabel_local hb) (by simp [compEnvC, relabel, hkind]) hn fun h₁ tk₁ hn₁ hk₁ => ?_
    have hn₁' : h₁.Ns C (fun z => if z = b then some (.int (ms.getD i 0) u) else if z = a then some (.int (ns.getD i 0) t) else m₂ z) := hn₁
    refine wpAny_mono (helt _ _ C _ h₁ tk₁ t u E' hn₁' (by show (if a = b then _ else _) = _; rw [if_neg hab, if_pos rfl]) (if_pos rfl)) (fun y s₂ hy => ?_) fun _ _ e => e
    obtain ⟨tk', t', rfl, rfl⟩ := hy
    exact ⟨h₁, tk', rfl, ⟨_, hn₁'⟩, fun b o hb e => hk₁ b o (fun q => hb (List.mem_singleton.mpr q)) e, fun _ _ => ⟨t', rfl⟩⟩
  · intro D' C ys' h tk _ _ _ hD hlen hK _ hR
    refine fin D' C ys' h tk _ hD hK (intsOf (by rw [hlen, List.length_zipWith, ← hl, Nat.min_self]) fun j y e => ?_)
    have hj : j < ns.length := by
      rcases Nat.lt_or_ge j ns.length with q | q
      · exact q
      · rw [List.getElem?_eq_none (by omega)] at e; cases e
    rw [zwD g ns ms j hj hl]
    exact hR j y e h fun _ _ _ _ e => e
theorem eltAdd {a b : Str} {pa pb p : Pos} (hkind : scope.kind = .function) (ha : scope.names.lookup a = some .local) (hb : scope.names.lookup b = some .local) (da : (a == ("__debug__" : Str)) = false) (db : (b == ("__debug__" : Str)) = false)
    (x y : Int) (C : Addr) (m₂ : Str → Option Value) (h : Heap) (tk : Nat) (t u : Tok) (E' : Value → Shared → Prop) (hn : h.Ns C m₂) (e1 : m₂ a = some (.int x t)) (e2 : m₂ b = some (.int y u)) :
    wpAny (model prog w) A (eval (.BinOp (.Name a pa) .Add (.Name b pb) p) (compEnvC scope cl C env)) (fun v s₂ => ∃ tk' t', s₂ = { s with heap := h, toks := tk' } ∧ v = .int (x + y) t') E' { s with heap := h, toks := tk } :=
  wpAny_BinOp (wpAny_Name (wpAny_loadName_local (env := compEnvC scope cl C env) (by simp [compEnvC, relabel, hkind]) (lookup_relabel_local ha) hn e1 (wpAny_Name (wpAny_loadName_local (env := compEnvC scope cl C env) (by simp [compEnvC, relabel, hkind]) (lookup_relabel_local hb) hn e2 (add_int ⟨_, _, rfl, rfl⟩)) db)) da)
theorem eltSub {a b : Str} {pa pb p : Pos} (hkind : scope.kind = .function) (ha : scope.names.lookup a = some .local) (hb : scope.names.lookup b = some .local) (da : (a == ("__debug__" : Str)) = false) (db : (b == ("__debug__" : Str)) = false)
    (x y : Int) (C : Addr) (m₂ : Str → Option Value) (h : Heap) (tk : Nat) (t u : Tok) (E' : Value → Shared → Prop) (hn : h.Ns C m₂) (e1 : m₂ a = some (.int x t)) (e2 : m₂ b = some (.int y u)) :
    wpAny (model prog w) A (eval (.BinOp (.Name a pa) .Sub (.Name b pb) p) (compEnvC scope cl C env)) (fun v s₂ => ∃ tk' t', s₂ = { s with heap := h, toks := tk' } ∧ v = .int (x - y) t') E' { s with heap := h, toks := tk } :=
  wpAny_BinOp (wpAny_Name (wpAny_loadName_local (env := compEnvC scope cl C env) (by simp [compEnvC, relabel, hkind]) (lookup_relabel_local ha) hn e1 (wpAny_Name (wpAny_loadName_local (env := compEnvC scope cl C env) (by simp [compEnvC, relabel, hkind]) (lookup_relabel_local hb) hn e2 (sub_int ⟨_, _, rfl, rfl⟩)) db)) da)
/-- zip of three lists of ints under one name -/
theorem zip3G {l1 l2 l3 : Addr} {xs ys us : List Value} {n1 n2 n3 : Nat} {ns ms ks : List Int} {x : Str} {px : Pos} {Rl : Nat → Value → Heap → Prop} (hh : A.handled = none) (F : Fr h₀ L s.heap m) (N : News h₀ L s.heap news) (hm1 : (l1, listOf xs.toArray n1) ∈ news) (hm2 : (l2, listOf ys.toArray n2) ∈ news) (hm3 : (l3, listOf us.toArray n3) ∈ news)
    (hi1 : IntsAre xs ns) (hi2 : IntsAre ys ms) (hi3 : IntsAre us ks) (h0 : 0 < ns.length) (hl : ms.length = ns.length) (hl3 : ks.length = ns.length) (hsz : ns.length ≤ 1000) (hkind : scope.kind = .function) (hx : scope.names.lookup x = some .local)
    (helt : ∀ i T C oC m₂ h tk (t u v : Tok) (E' : Value → Shared → Prop), i < ns.length → h.IsTuple T #[.int (ns.getD i 0) t, .int (ms.getD i 0) u, .int (ks.getD i 0) v] → LCg.NsObj oC m₂ → m₂ x = some (.ref T) → Fr h₀ L h m → News h₀ L h ((C, oC) :: news) → (∀ p ∈ news, p.1 < C) → s.heap.objs.size ≤ C → Kps s.heap h →
      wpAny (model prog w) A (eval elt (compEnvC scope cl C env)) (fun y s₂ => ∃ h' tk', s₂ = { s with heap := h', toks := tk' } ∧ Kps h h' ∧ ∀ h'', (∀ b o, h.get? b = none → h'.get? b = some o → h''.get? b = some o) → Rl i y h'') E' { s with heap := h, toks := tk })
    (fin : ∀ D C ys h tk, s.heap.objs.size ≤ D → s.heap.objs.size ≤ C → D ≠ C → h.get? D = some (LCg.lst ys) → ys.length = ns.length → Kps s.heap h → (∀ j y, ys[j]? = some y → ∀ h'', (∀ b o, b ≠ D → b ≠ C → h.get? b = some o → h''.get? b = some o) → Rl j y h'') →
      Fin s.heap { s with heap := h, toks := tk } D C ys Rl) :
    wpAny (model prog w) A (call (.type "zip") [.ref l1, .ref l2, .ref l3]) (SrcG prog w A E h₀ L m news (.Name x px) elt scope cl env Fin) E s := by
  have g1 := News.isList N hm1
  have g2 := News.isList N hm2
  have g3 := News.isList N hm3
  have hlt1 := ltN (Heap.lt_size (N _ hm1).1)
  have hlt2 := ltN (Heap.lt_size (N _ hm2).1)
  have hlt3 := ltN (Heap.lt_size (N _ hm3).1)
  dsimp only at hlt1 hlt2 hlt3
  have D : Ap3 (s.heap.objs.size + 5) (s.heap.objs.size + 3) (s.heap.objs.size + 4) s.heap.objs.size (s.heap.objs.size + 1) (s.heap.objs.size + 2) l1 l2 l3 := by
    generalize s.heap.objs.size = S at *
    constructor
    case l =>
      intro l hl
      simp only [List.mem_cons, List.not_mem_nil, or_false] at hl
      have hls := ltN (show l < S by rcases hl with rfl | rfl | rfl <;> assumption)
      exact ⟨neN (by omega), neN (by omega), neN (by omega), neN (by omega), neN (by omega)⟩
    all_goals exact neN (by omega)
  refine call_zip3 g1 g2 g3 fun h' hz hTI hTO a1 a2 a3 hsz' hk => ?_
  refine srcName (n := ns.length) (P := Z3P xs.toArray ys.toArray us.toArray) F N hk (Nat.le_trans hsz (by decide)) ?_ hkind hx ?_ ?_ fin
  · have hty : ({ s with heap := h' } : Shared).TypeIs (.ref (s.heap.objs.size + 5)) "zip" := ⟨_, hz, rfl⟩
    refine wpAny_pyIter_slot hty PySem.F.slot_zip_iter (wpAny_call_entry PySem.F.slot_zip_iter hty PySem.F.entry_zip_iter ?_ (PySem.F.args_zip_iter_1 _))
    show wpAny _ _ (ret (.ref _)) _ _ _
    refine wpAny_pure ⟨_, rfl, "zip", _, hty, PySem.F.slot_zip_next.lookup, h', s.toks, _, _, rfl, rfl, hk, ?_, ?_, fun free hf => ⟨_, _, z3GT hh D h0 (by rw [List.size_toArray, hi1.length]) (by rw [List.size_toArray, hi2.length, hl]) (by rw [List.size_toArray, hi3.length, hl3]) (fun b hb q => ?_), ⟨.inl ⟨rfl, hz⟩, hTI, ⟨_, _, _, hTO⟩, a1, a2, a3, g1.at fun o e => hk _ o e, g2.at fun o e => hk _ o e, g3.at fun o e => hk _ o e⟩⟩⟩
    · rw [hsz']; exact Nat.le_add_right _ _
    · intro b hb
      rw [hsz']
      simp only [List.mem_cons, List.not_mem_nil, or_false] at hb
      rcases hb with rfl | rfl | rfl | rfl | rfl <;> exact ⟨by omega, by omega⟩
    · have := hf b q
      rw [hsz'] at this
      simp only [List.mem_cons, List.not_mem_nil, or_false] at hb
      rcases hb with rfl | rfl | rfl | rfl | rfl | rfl | rfl | rfl | rfl <;> omega
  · rintro i v h h₁ C m₂ ⟨T, x, y, u, rfl, ex, ey, eu, hT⟩ hn hs
    refine ⟨T, x, y, u, rfl, ex, ey, eu, hT.at fun o e => hs.extBut _ o (fun q => ?_) e⟩
    obtain ⟨o1, e1, _, _, d1⟩ := hT
    obtain ⟨o2, e2, es, ep, hd, _⟩ := LCg.ns_obj hn
    rw [q, e2] at e1
    cases e1
    rw [hd] at d1
    obtain ⟨⟩ := d1
  · rintro i v C oC m₂ h tk E' hi ⟨T, x, y, u, rfl, ex, ey, eu, hT⟩ a b c d e f g
    obtain ⟨t1, rfl⟩ := intsAtD hi1 i (by simpa using ex)
    obtain ⟨t2, rfl⟩ := intsAtD hi2 i (by simpa using ey)
    obtain ⟨t3, rfl⟩ := intsAtD hi3 i (by simpa using eu)
    exact helt i T C oC m₂ h tk t1 t2 t3 E' hi hT a b c d e f g
theorem maxTup {T : Addr} {a b c : Int} {t u v : Tok} {Q : Value → Shared → Prop} (hh : A.handled = none) (hT : s.heap.IsTuple T #[.int a t, .int b u, .int c v]) (h : ∀ h' tk t', Kps s.heap h' → Q (.int (max (max a b) c) t') { s with heap := h', toks := tk }) :
    wpAny (model prog w) A (call (.builtin "max") [.ref T]) Q E s := by
  have hlt : T < s.heap.objs.size := by obtain ⟨_, e, _⟩ := hT; exact Heap.lt_size e
  have hT' : s.heap.IsTuple T (intItems #[(a, t), (b, u), (c, v)]) := by simpa [intItems] using hT
  refine call_max_walk (wpAny_pyIter_tuple hT' ?_)
  refine ⟨_, _, _, _, _, _, _, rfl, Walks.tuple (A := A.in1) hh s.heap.objs.size T (Nat.ne_of_lt hlt) (intItems #[(a, t), (b, u), (c, v)]), ⟨⟨_, Heap.get?_push_size _ rfl, rfl, rfl⟩, hT'.at fun o e => Heap.get?_push_of_some _ e⟩, fun b hb => ?_, by simp [intItems], CmpOf.ints_gt (numAt #[(a, t), (b, u), (c, v)]) (fun _ _ => intItems_at), fun v' h' tk hP hk => ?_⟩
  · show b < (s.heap.push _).objs.size
    rw [Heap.size_push]
    rcases List.mem_cons.mp hb with rfl | hb
    · exact Nat.lt_succ_self _
    · rw [List.mem_singleton.mp hb]; exact Nat.lt_succ_of_lt hlt
  · have kk : Kps s.heap h' := fun b o e => by
      refine hk b o (fun q => ?_) (Heap.get?_push_of_some _ e)
      rw [List.mem_singleton.mp q] at e
      exact Nat.lt_irrefl _ (Heap.lt_size e)
    obtain ⟨t', rfl⟩ := intItems_at hP
    have e : (intItems #[(a, t), (b, u), (c, v)]).size - 1 = 2 := by simp [intItems]
    have e2 : numAt #[(a, t), (b, u), (c, v)] (argBest (fun i j => decide (numAt #[(a, t), (b, u), (c, v)] i > numAt #[(a, t), (b, u), (c, v)] j)) 2) = max (max a b) c := by
      have n0 : numAt #[(a, t), (b, u), (c, v)] 0 = a := rfl
      have n1 : numAt #[(a, t), (b, u), (c, v)] 1 = b := rfl
      have n2 : numAt #[(a, t), (b, u), (c, v)] 2 = c := rfl
      generalize numAt #[(a, t), (b, u), (c, v)] = f at *
      subst n0 n1 n2
      by_cases h1 : f 1 > f 0 <;> by_cases h2 : f 2 > f 1 <;> by_cases h3 : f 2 > f 0 <;> simp [argBest, h1, h2, h3] <;> omega
    rw [e, e2]
    exact h h' tk t' kk
end
section
variable {prog : Program} {w : World} {A : Around} {E : Value → Shared → Prop} {s : Shared} {h₀ : Heap} {L : Addr} {m : Str → Option Value} {news : Led} {env : Env}
end
section
variable {prog : Program} {w : World} {A : Around} {E : Value → Shared → Prop} {s : Shared} {h₀ : Heap} {L : Addr} {m : Str → Option Value} {news rest : Led} {D : Addr} {dv : List Value} {e0 : Nat} {degs : List (List Int)} {value slice : PySem.Expr} {u : Tok} {Q : Value → Shared → Prop}
theorem negIdx {k : Int} {x : Value} (N : News h₀ L s.heap news) (hm : (D, listOf dv.toArray e0) ∈ news) (h0 : k < 0) (h1 : -(dv.length : Int) ≤ k) (hz : dv.length ≤ 1000) (hx : dv[(k + dv.length).toNat]? = some x) (h : Q x s)
    (hs : subscripted slice false (.ref D) (.int k u) = operate [.ref D, .int k u] (getItem (.ref D) (.int k u)) := by with_unfolding_all rfl) :
    wpAny (model prog w) A (subscriptTail value slice (.ref D) (.int k u)) Q E s := by
  have hl := News.isList N hm
  exact subscriptTail_builtinR hl.typeIs slot_list_getitem.lookup (wpAny_getItem_list_neg (Q := fun r s' => r = x ∧ Q r s') hl h0 (by rw [List.size_toArray]; exact h1) (by omega) (by rw [List.size_toArray]; simpa using hx) ⟨rfl, h⟩) hs
/-- one row of a list of lists, counted from its end -/
theorem negMat {x : Int} (N : News h₀ L s.heap news) (hm : (D, listOf dv.toArray e0) ∈ news) (M : Mat rest dv degs) (h0 : 1 ≤ x) (h1 : x ≤ degs.length) (hz : degs.length ≤ 1000) (h : ∀ r us e, (r, listOf us.toArray e) ∈ rest → IntsAre us (degs.getD (degs.length - x.toNat) []) → Q (.ref r) s)
    (hs : subscripted slice false (.ref D) (.int (-x) u) = operate [.ref D, .int (-x) u] (getItem (.ref D) (.int (-x) u)) := by with_unfolding_all rfl) :
    wpAny (model prog w) A (subscriptTail value slice (.ref D) (.int (-x) u)) Q E s := by
  have hl := M.length
  have e : (-x + (dv.length : Int)).toNat = degs.length - x.toNat := by omega
  obtain ⟨r, us, e', h1', h2, h3⟩ := M.at (degs.length - x.toNat) (by omega)
  exact negIdx N hm (by omega) (by omega) (by omega) (by rw [e]; exact h1') (h r us e' h2 h3) hs
end
/-- the sums that the degrees make, their greatest, what lacks -/
noncomputable def degRow (degs : List (List Int)) (x : Int) : List Int := degs.getD (degs.length - x.toNat) []
noncomputable def sumRow (told : List Int) (degs : List (List Int)) (t : Nat) : List Int := List.zipWith (fun x y => x + y) (degRow degs (told.getD (2 * t) 0)) (degRow degs (told.getD (2 * t + 1) 0))
noncomputable def sumsF (told : List Int) (degs : List (List Int)) (i : Nat) : List (List Int) := (List.range i).map (sumRow told degs)
noncomputable def max3 (a b c : List Int) : List Int := (List.range a.length).map fun i => max (max (a.getD i 0) (b.getD i 0)) (c.getD i 0)
noncomputable def topsF (told : List Int) (degs : List (List Int)) : List Int := max3 (sumRow told degs 0) (sumRow told degs 1) (sumRow told degs 2)
noncomputable def newDeg (told : List Int) (degs : List (List Int)) : List Int := List.zipWith (fun x y => x - y) (topsF told degs) (degRow degs ((topsF told degs).length : Int))
noncomputable def lackRow (told : List Int) (degs : List (List Int)) (t : Nat) : List Int := List.zipWith (fun x y => x - y) (topsF told degs) (sumRow told degs t)
noncomputable def lacksF (told : List Int) (degs : List (List Int)) : List (List Int) := (List.range 3).map (lackRow told degs)
theorem sumsF_succ (told : List Int) (degs : List (List Int)) (i : Nat) : sumsF told degs (i + 1) = sumsF told degs i ++ [sumRow told degs i] := by
  unfold sumsF; rw [List.range_succ, List.map_append]; rfl
/-- degrees that are fit to go on -/
structure DegOk (told : List Int) (degs : List (List Int)) (n : Nat) : Prop where
  row : ∀ d ∈ degs, d.length = n
  pos : 1 ≤ n
  le : n ≤ degs.length
  few : degs.length ≤ 100
  six : told.length = 6
  bnd : ∀ x ∈ told, 1 ≤ x ∧ x ≤ (n : Int)
theorem DegOk.told {told : List Int} {degs : List (List Int)} {n : Nat} (h : DegOk told degs n) {i : Nat} (hi : i < 6) : 1 ≤ told.getD i 0 ∧ told.getD i 0 ≤ (degs.length : Int) := by
  have hi' : i < told.length := h.six ▸ hi
  have e : told.getD i 0 = told[i] := by rw [List.getD_eq_getElem?_getD, List.getElem?_eq_getElem hi']; rfl
  have := h.bnd told[i] (List.getElem_mem hi')
  have h2 := h.le
  rw [e]; omega
theorem DegOk.rowLen {told : List Int} {degs : List (List Int)} {n : Nat} (h : DegOk told degs n) {x : Int} (h0 : 1 ≤ x) (h1 : x ≤ degs.length) : (degRow degs x).length = n := by
  have hi : degs.length - x.toNat < degs.length := by omega
  unfold degRow
  rw [List.getD_eq_getElem?_getD, List.getElem?_eq_getElem hi]
  exact h.row _ (List.getElem_mem hi)
theorem DegOk.sumLen {told : List Int} {degs : List (List Int)} {n : Nat} (h : DegOk told degs n) {t : Nat} (ht : t < 3) : (sumRow told degs t).length = n := by
  have a := h.told (i := 2 * t) (by omega)
  have b := h.told (i := 2 * t + 1) (by omega)
  unfold sumRow
  rw [List.length_zipWith, h.rowLen a.1 a.2, h.rowLen b.1 b.2, Nat.min_self]
theorem DegOk.topLen {told : List Int} {degs : List (List Int)} {n : Nat} (h : DegOk told degs n) : (topsF told degs).length = n := by
  unfold topsF max3
  rw [List.length_map, List.length_range, h.sumLen (by decide)]
theorem DegOk.next {told : List Int} {degs : List (List Int)} {n : Nat} (h : DegOk told degs n) (hf : degs.length < 100) : DegOk told (degs ++ [newDeg told degs]) n := by
  have hn := h.le
  refine ⟨fun d hd => ?_, h.pos, ?_, ?_, h.six, h.bnd⟩
  · rcases List.mem_append.mp hd with hd | hd
    · exact h.row d hd
    · rw [List.mem_singleton.mp hd]
      unfold newDeg
      rw [List.length_zipWith, h.topLen, h.rowLen (by have := h.pos; omega) (by omega), Nat.min_self]
  · rw [List.length_append]; omega
  · rw [List.length_append, List.length_singleton]; omega
section
variable {prog : Program} {w : World} {A : Around} {E : Value → Shared → Prop} {s : Shared} {h₀ : Heap} {L : Addr} {m : Str → Option Value} {news : Led} {env : Env}
theorem ListComp_GN (_F : Fr h₀ L s.heap m) (_N : News h₀ L s.heap news) {elt target iter : PySem.Expr} {scope : Scope} {cl : List (Str × Addr)} {pos : Pos} {Q : Value → Shared → Prop}
    (hclos : closureFor scope env = pure cl) (hcell : ∀ y ∈ scope.names, y.2 ≠ .cell) (hkind : scope.kind = .function)
    (hnames : ∀ y ∈ scope.names, y.2 = .local → scope.names.lookup y.1 = some .local)
    (h : wpAny (model prog w) A (eval iter env) (SrcG prog w A E h₀ L m news target elt scope cl env (FinV h₀ L m news Q)) E s)
    (hs : ∀ x, foldedSetIterable iter env x = pure x := by intro _; rfl) :
    wpAny (model prog w) A (eval (.ListComp elt [⟨target, iter, [], 0⟩] scope pos) env) Q E s := ListComp_G hclos hcell hkind hnames h hs
end
theorem subNew {rest ex : Led} {I : Addr × Obj} (a b c n : Addr × Obj) : ∀ p ∈ I :: a :: b :: c :: ((n :: ex) ++ rest), p ∈ n :: I :: a :: b :: c :: (ex ++ rest) := by
  intro p hp
  rw [List.cons_append] at hp
  rcases List.mem_cons.mp hp with q | hp
  · exact q ▸ .tail _ (.head _)
  · rcases List.mem_cons.mp hp with q | hp
    · exact q ▸ .tail _ (.tail _ (.head _))
    · rcases List.mem_cons.mp hp with q | hp
      · exact q ▸ .tail _ (.tail _ (.tail _ (.head _)))
      · rcases List.mem_cons.mp hp with q | hp
        · exact q ▸ .tail _ (.tail _ (.tail _ (.tail _ (.head _))))
        · rcases List.mem_cons.mp hp with q | hp
          · exact q ▸ .head _
          · exact .tail _ (.tail _ (.tail _ (.tail _ (.tail _ hp))))
theorem matThree {l : Led} {sv : List Value} {f : Nat → List Int} (h : Mat l sv ((List.range 3).map f)) : ∃ a0 us0 e0 a1 us1 e1 a2 us2 e2, sv = [.ref a0, .ref a1, .ref a2] ∧ (a0, listOf us0.toArray e0) ∈ l ∧ IntsAre us0 (f 0) ∧ (a1, listOf us1.toArray e1) ∈ l ∧ IntsAre us1 (f 1) ∧ (a2, listOf us2.toArray e2) ∈ l ∧ IntsAre us2 (f 2) := by
  have e : (List.range 3).map f = [f 0, f 1, f 2] := rfl
  rw [e] at h
  cases h with
  | cons a b h => cases h with
    | cons c d h => cases h with
      | cons x y h => cases h; exact ⟨_, _, _, _, _, _, _, _, _, rfl, a, b, c, d, x, y⟩
theorem topsAt {told : List Int} {degs : List (List Int)} {n i : Nat} (h : DegOk told degs n) (hi : i < n) : (topsF told degs).getD i 0 = max (max ((sumRow told degs 0).getD i 0) ((sumRow told degs 1).getD i 0)) ((sumRow told degs 2).getD i 0) := by
  unfold topsF max3
  rw [List.getD_eq_getElem?_getD, List.getElem?_map, List.getElem?_range (by rw [h.sumLen (by decide)]; exact hi)]
  rfl
theorem stopQ {M : Model} {A : Around} {E : Value → Shared → Prop} {s : Shared} {t : Sem Value} {Q : Value → Shared → Prop} (h : wpAny M A t (fun a s => Stop (Q a s)) E s) : wpAny M A t Q E s := h
theorem rangeD {α : Type} {f : Nat → List α} {n j : Nat} (h : j < n) : ((List.range n).map f).getD j [] = f j := by
  rw [List.getD_eq_getElem?_getD, List.getElem?_map, List.getElem?_range h]; rfl
theorem ltOfGet {α : Type} {l : List α} {j : Nat} {y : α} (h : l[j]? = some y) : j < l.length := by
  rcases Nat.lt_or_ge j l.length with q | q
  · exact q
  · rw [List.getElem?_eq_none q] at h; cases h
theorem lackLed {h₀ h : Heap} {L : Addr} {a b c d e f : Addr × Obj} {rws ex rest : Led} (N : News h₀ L h (rws ++ b :: c :: d :: e :: f :: (ex ++ rest))) (N2 : News h₀ L h (a :: b :: c :: d :: e :: f :: (ex ++ rest))) :
    News h₀ L h (a :: f :: ((rws ++ b :: ex) ++ rest)) := fun p hp => by
  rcases List.mem_cons.mp hp with q | hp
  · exact N2 p (q ▸ .head _)
  · rcases List.mem_cons.mp hp with q | hp
    · exact N2 p (q ▸ .tail _ (.tail _ (.tail _ (.tail _ (.tail _ (.head _))))))
    · rcases List.mem_append.mp hp with hp | hp
      · rcases List.mem_append.mp hp with hp | hp
        · exact N p (List.mem_append_left _ hp)
        · rcases List.mem_cons.mp hp with q | hp
          · exact N2 p (q ▸ .tail _ (.head _))
          · exact N2 p (.tail _ (.tail _ (.tail _ (.tail _ (.tail _ (.tail _ (List.mem_append_left _ hp)))))))
      · exact N2 p (.tail _ (.tail _ (.tail _ (.tail _ (.tail _ (.tail _ (List.mem_append_right _ hp)))))))
section
example (w : World) : (rwQ = rwQ) ∧ (Kq w.params = Kq w.params) := by
  k_with_none
  k_fill
  (k_with "B" => k_asm)
  (k_with "K" => first | exact rfl | assumption)
  (k_with "C" => first | assumption | trivial)
  (k_with "D" => first | (change dp + 1 + _ < _; omega) | omega | ktr_room)
  (k_with "U" => first | (change un + 3 + _ < _; omega) | omega | ktr_units)
  (k_with "call builtin:divmod" => ((with_reducible show wpAny _ _ (call (Value.builtin _) [Value.int _ _, Value.int _ _]) _ _ _); (rename SmallDiv _ => hSd); refine divmod_N (by assumption) (by assumption) (by assumption) ?_ (Or.inl (PyProof.noPylong_of_log2 hSd)); intro _ _ _))
  (k_with "binaryOp FloorDiv int int" => ((rename SmallDiv _ => hSd); refine floordiv_sd hSd (by first | assumption | omega) ?_))
  (k_with "AllLt" => first | assumption | exact And.right (by assumption) | exact And.right (And.right (by assumption)) | exact And.right (And.right (And.right (by assumption))) | exact And.right (And.right (And.right (And.right (by assumption)))) | exact And.right (And.right (And.right (And.right (And.right (by assumption))))) | exact And.right (And.right (And.right (And.right (And.right (And.right (by assumption)))))) | exact And.right (And.right (And.right (And.right (And.right (And.right (And.right (by assumption)))))))  | exact And.right (And.right (And.right (And.right (And.right (And.right (And.right (And.right (by assumption)))))))))
  (k_with "k_all" => first | with_reducible assumption | exact allNe0 (by walk_at "AllLt") | exact allNe1 (by walk_at "AllLt") | exact allNe2 (by walk_at "AllLt") | exact allNe3 (by walk_at "AllLt") | exact List.forall_mem_nil _ | (refine' List.forall_mem_cons.mpr ⟨?_, ?_⟩; (focus k_ne); k_all))
  (k_with "binaryOp Mult ref int" => (k_here; (rename CntOk _ => hCo); k_dflt (refine' mulRep (by k_asm) (by k_asm) (by k_mem) hCo ?_); k_whole; intro l' h' F' N' l1; (try k_lt l1); (try k_sweep)))
  (k_with "enter" => (refine wpAny_call ?_; k_dflt cell_enter))
  (k_with "enter C" => (refine wpAny_call ?_; k_dflt ((refine' code_defC (by k_asm) (by k_asm) (by k_asm) (by k_asm) (by k_asm) (by exact rfl) (by exact rfl) (by assumption) (by k_is) (by k_is) (by ktr_room) (by exact BindsTo.of_eq rfl) (by exact rfl) (by decide +kernel) ?_ (by exact rfl) (by exact rfl) (by exact rfl)); k_whole; intro g' L' h' tk' cells' FG' F' N' Y' B' X' T' l1; (try k_lt l1); k_cells Y'; (try simp only [List.cons_append, List.nil_append] at N'); (try dsimp only); (try k_lift B'); (try k_fold))))
  (k_with "enter N" => (refine wpAny_call ?_; k_dflt (refine' code_nest (by k_asm) (by k_asm) (by k_asm) (by k_asm) (by k_asm) (by exact rfl) (by exact rfl) (by assumption) (by walk_at "inrest") (codeRec_news (by k_asm) (by walk_at "inrest") (by assumption) (by assumption)) (by ktr_room) (by exact BindsTo.of_eq rfl) (by exact locs rfl) ?_ (by exact rfl) (by exact rfl) (by exact rfl) (by decide); k_whole; intro g' L' h' FG' F' N' B' X' T'; (try dsimp only); (try k_lift B'))))
  (k_with "eval Name" => (k_here; kc_free; k_dflt (refine' nameX_F (by k_asm) (by exact rfl) (by walk_at "inrest") (by with_reducible assumption) ?_ (by exact rfl) (by exact rfl)); k_whole))
  (k_with "inrest" => first | with_reducible assumption | exact List.mem_cons_self .. | assumption | (refine List.mem_cons_of_mem _ ?_; walk_at "inrest"))
  (k_with "FnAt" => (k_dflt (exact FnAt.of (by k_asm) (by walk_at "inrest"))))
  (k_with "callWith ref" => (k_here; kn_here; k_dflt (first
    | (refine' callWith_F (FnAt.of (by k_asm) (by walk_at "inrest")) ?_; k_whole)
    | (refine' callWith_F0 (FnAt.of (by k_asm) (by walk_at "inrest")) ?_; k_whole; try dsimp only [List.nil_append, List.cons_append]))))
  (k_with "mulok" => first | assumption | exact PySem.IntMulOk.of_left (bits64 (by omega)) | exact PySem.IntMulOk.of_right (bits64 (by omega)))
  (k_with "binaryOp Mult int int" => (k_here; k_dflt (refine mul_int ?_ (by walk_at "mulok"))))
  (k_with "setItem ref int" => (k_here; (with_reducible show wpAny _ _ (setItem (Value.ref _) (Value.int _ _) (Value.int _ _)) _ _ _); k_dflt (refine' ksa_set (by k_asm) (by k_asm) (by k_upd) (by with_reducible assumption) (by omega) (by omega) (by omega) ?_); k_whole; intro h' F' N' hi' hl' hs'; (try k_sweep)))
  (k_with "nn" => first | omega | ((rename ShB _ => hShB); exact (hShB _ (by omega) (by omega)).1))
  (k_with "lsz" => ((rename ShB _ => hShB); (rename BitsB _ => hBB); first | exact lsz_of (BitsB.fdiv _ hBB) (hShB _ (by omega) (by omega)).2 | exact lsz_of hBB (hShB _ (by omega) (by omega)).2))
  (k_with "binaryOp RShift int int" => (k_here; k_dflt (refine rshift_int (by walk_at "nn") ?_)))
  (k_with "binaryOp RShift int int" => (k_here; with_reducible refine rshift1 ?_))
  (k_with "binaryOp LShift int int" => (k_here; k_dflt (refine lshift_int (by walk_at "nn") (by walk_at "lsz") ?_)))
  (k_with "truthy ref" => (k_dflt (refine' truthyLed (by k_asm) (by walk_at "inrest") (by walk_at "lenfit") ?_); intro _))
  (k_with "lenfit" => first | omega | ((have hl9 := IntsAre.length (by assumption)); (try simp only [List.length_map, List.length_replicate] at *); omega))
  (k_with "subscriptTail" => (k_here; (with_reducible show wpAny _ _ (subscriptTail _ _ (Value.ref _) (Value.int _ _)) _ _ _); k_dflt (refine' ksa_sub (by k_asm) (by walk_at "inrest") (by with_reducible assumption) (by omega) (by first | omega | (rw [List.length_map]; omega)) (by omega) ?_ (by with_unfolding_all rfl)); intro _))
  (k_with "call builtin:list.append" => (k_here; k_dflt (refine' appendLed (by k_asm) (by k_asm) (by k_upd) (by walk_at "lenfit") ?_; k_whole); intro h' F' N'; (try k_sweep)))
  (k_with "call builtin:list.reverse" => (k_here; k_dflt (refine' reverseLed (by k_asm) (by k_asm) (by k_upd) (by walk_at "lenfit") ?_; k_whole); intro h' F' N'; (try k_sweep)))
  (k_with "call type:reversed" => (k_here; (with_reducible show wpAny _ _ (call (Value.type _) [Value.ref _]) _ _ _); k_dflt (refine' krv_reversed (by k_asm) (by k_asm) (News.isList (by k_asm) (by walk_at "inrest")) ?_); intro D' h' F' N' lrev; have l1 := lrev; (try k_lt l1); (try k_sweep)))
  (k_with "mlook" => first | with_reducible assumption | exact if_pos rfl | exact rfl | (refine (if_neg (by decide)).trans ?_; walk_at "mlook"))
  (k_with "eval Name" => (k_here; (rename MapMark => hMM); k_dflt (refine' nameX_L (by k_asm) (by walk_at "mlook") ?_ (by rfl) (by rfl)); k_whole))
  (k_with "newList" => (k_here; (with_reducible refine' newList_K (by k_asm) (by k_asm) ?_ (by exact Nat.le_of_ble_eq_true rfl)); k_whole; intro l' h' F' N' lnew; have l1 := lnew; (try k_lt l1); (try k_sweep)))
  (k_with "lsz" => ((rename BitsB _ => hBB); exact lsz_of hBB (by omega)))
  (k_with "newTuple" => (k_here; k_dflt (refine' newTupLed (by k_asm) (by k_asm) (by exact Nat.le_of_ble_eq_true rfl) ?_; k_whole); intro q' h' F' N' ltup; have l1 := ltup; (try k_lt l1); (try k_sweep)))
  (k_with "pick" => first | exact Pick.head | (apply Pick.tail; walk_at "pick"))
  (k_with "sub" => (intro q9 hq9; repeat (first | exact hsub0 _ hq9 | exact hq9 | apply List.mem_cons_of_mem)))
  (k_with "call builtin:len" => ((with_reducible show wpAny _ _ (call (Value.builtin "len") [Value.ref _]) _ _ _); k_dflt (refine' lenLed (by k_asm) (by walk_at "inrest") (by first | walk_at "lenfit" | (simp only [List.length_replicate]; omega)) ?_)))
  (k_with "exec FunctionDef" => (k_here; kn_here; k_dflt (refine' nestDef_K (by exact rfl) (by exact rfl) (by exact rfl) ?_); k_dflt (refine' nestTab (by k_asm) (by k_asm) (by k_asm) (by kn_code) (by exact rfl) (by k_updF) (by assumption) (by walk_at "sub") (by walk_at "AllLt") (List.mem_cons_self ..) (by exact rfl) ?_; k_whole); intro f' c' oc' vs' t' ct' dc' h' tk' ps' F' N' d1' d2' tc' hin' l1 l2; have hin2 := hin'.imp And.right And.right; (try dsimp only at N'); (try k_lt2 l1); (try k_lt l2)))
  (k_with "strB" => first | assumption | exact (Nat.le_of_ble_eq_true rfl) | (simp only [StrB, List.length_append, List.length_cons, List.length_nil] at *; omega))
  (k_with "subscriptTail" => (k_here; (with_reducible show wpAny _ _ (subscriptTail _ _ (Value.str _ _) (Value.ref _)) _ _ _); k_dflt (first | refine' cut_to (by k_asm) (by k_asm) (by walk_at "strB") (by omega) ?_ | refine' cut_ss (by k_asm) (by k_asm) (by walk_at "strB") (by omega) (by omega) ?_); k_whole; intro h' t' k' F' N'; (try k_sweep)))
  (k_with "call builtin:len" => (k_here; (with_reducible show wpAny _ _ (call (Value.builtin "len") [Value.str _ _]) _ _ _); k_dflt (refine' lenStr (by walk_at "strB") ?_); intro _ _))
  (k_with "binaryOp Add str str" => (k_here; k_dflt (refine' addStr (by walk_at "strB") (by walk_at "strB") ?_); intro _ _))
  (k_with "compareOp Eq str str" => (k_here; k_dflt (first | refine' eqStrB (by walk_at "streq") ?_ | refine' eqStr ?_)))
  (k_with "compareOp NotEq str str" => (k_here; k_dflt (first | refine' neStrB (by walk_at "streq") ?_ | refine' neStr ?_)))
  (k_with "getItem str int" => (k_here; k_dflt (refine' strAt (by walk_at "strB") (by omega) (by walk_at "strat") ?_); intro _))
  (k_with "subscriptTail" => (k_here; (with_reducible show wpAny _ _ (subscriptTail _ _ (Value.str _ _) (Value.int _ _)) _ _ _); k_dflt (refine' strAtT (by walk_at "strB") (by first | omega | assumption) (by walk_at "strat") ?_); k_whole; intro _))
  (k_with "exec While" => (k_here; refine stopI ?_))
  (k_with "exec While Compare" => (k_here; refine stopI ?_))
  (k_with "exec While Compare cons nil" => (k_here; refine stopI ?_))
  (k_with "execs cons" => ((with_reducible refine wpAny_execs_cons ?_); (try k_fold)))
  (k_with "eval Call" => k_fold)
  (k_with "eval BinOp" => k_fold)
  (k_with "isTrue" => k_fold)
  (k_with "isTrue Compare" => k_fold)
  (k_with "isTrue BoolOp" => k_fold)
  (k_with "eval Subscript" => k_fold)
  (k_with "subscriptTail" => k_fold)
  (k_with "compareOp" => k_fold)
  exact ⟨rfl, rfl⟩
set_option maxRecDepth 100000 in
set_option maxHeartbeats 4000000 in
theorem lacks_ct (w : World) (D R : Addr) (dv tv : List Value) (e0 te : Nat) (degs : List (List Int)) (told : List Int) (n : Nat) (rest : Led) (hM : Mat rest dv degs) (hR : (R, listOf tv.toArray te) ∈ rest) (hit : IntsAre tv told) (hO : DegOk told degs n) (hD : ∀ p ∈ rest, p.1 ≠ D) :
   Ct w 145 [.ref D, .ref R] 12 120 ((D, listOf dv.toArray e0) :: rest) (fun _ => True) fun v nw => ∃ (q : Addr) (lv : List Value) (e1 e2 : Nat) (r' : Addr) (ex : Led), v = .ref q ∧ nw = (q, listOf lv.toArray e1) :: (D, listOf (dv ++ [Value.ref r']).toArray e2) :: (ex ++ rest) ∧ Mat (ex ++ rest) lv (lacksF told degs) ∧ (∀ sub : Led, Mat sub dv degs → Mat (ex ++ sub) (dv ++ [Value.ref r']) (degs ++ [newDeg told degs])) ∧
     (∀ p ∈ (q, listOf lv.toArray e1) :: ex, ∀ o ∈ (D, listOf dv.toArray e0) :: rest, o.1 < p.1) := by
  intro p loose mean mg mb dp un gd cn ccs ca ccd cl outer A₀ base h₀ L m s Q E B F X N T hk hC hd hu hret
  (k_with "pyIter ref" => (refine stopI ?_))
  (k_with "newList" => (refine stopI ?_))
  (k_with "eval ListComp" => (k_here; k_dflt (refine' ListComp_GN (by k_asm) (by k_asm) (by with_unfolding_all rfl) (by decide) (by rfl) (by decide) ?_)))
  (k_with "call type:zip" => (k_here; refine stopI ?_))
  (k_with "call type:zip" => (k_here; k_dflt (first
    | refine' zip2G (by rfl) (by k_asm) (by k_asm) (by walk_at "inrest") (by walk_at "inrest") (by with_reducible assumption) (by with_reducible assumption) (by walk_at "ziplen") (by walk_at "zipsz") (fun x y => x + y) (by rfl) (by rfl) (by rfl) (by decide) (eltAdd (by rfl) (by rfl) (by rfl) (by rfl) (by rfl)) ?_
    | refine' zip2G (by rfl) (by k_asm) (by k_asm) (by walk_at "inrest") (by walk_at "inrest") (by with_reducible assumption) (by with_reducible assumption) (by walk_at "ziplen") (by walk_at "zipsz") (fun x y => x - y) (by rfl) (by rfl) (by rfl) (by decide) (eltSub (by rfl) (by rfl) (by rfl) (by rfl) (by rfl)) ?_); intro D9 C9 ys9 h9 tk9 R9 hD9 hK9 hI9; unfold FinV; intro h8 tk8 hfr8 hK8 hB8 F' N' lz; have l1 := lz; (try k_lt l1); (try k_sweep)))
  walk_at "enter C"
  have hA0 : AllLt L' rest := by walk_at "AllLt"
  k_steps
  unfold Stop
  with_reducible refine' newList_K (by k_asm) (by k_asm) ?_ (by exact Nat.le_of_ble_eq_true rfl)
  k_whole
  intro S h' F' N' lS
  have l1 := lS
  (try k_lt l1)
  (try k_sweep)
  k_steps
  unfold Stop
  rename IsRange _ _ _ _ _ _ _ _ => hRg
  rename News _ _ _ (_ :: _) => N12
  k_dflt refine' iter_rangeUnr (n := 3) (by exact rfl) hRg (small_one (by decide) (by decide) (by decide) (by decide)) (by decide) (by k_asm) N12 ?_
  intro I hI
  rename Obj => oc
  have hIS := ltN (hI _ (.head _))
  dsimp only at hIS
  have hIr : (L' + 1 < I ∧ D < I) ∧ ∀ p ∈ rest, p.1 < I := ⟨⟨hI _ (.tail _ (.head _)), hI _ (.tail _ (.tail _ (.head _)))⟩, fun p hp => hI p (.tail _ (.tail _ (.tail _ hp)))⟩
  have hSr : ∀ p ∈ rest, p.1 < S := fun p hp => lS p (.tail _ (.tail _ hp))
  (k_with "subscriptTail" => (k_here; (with_reducible show wpAny _ _ (subscriptTail _ _ (Value.ref _) (Value.int (-_) _)) _ _ _); k_dflt (refine' negMat (by k_asm) (by walk_at "inrest") hMx (by omega) (by omega) (by omega) ?_); k_whole; intro r8 us8 e8 hm8 hi8))
  refine rangeInd (fun i m nw => ∃ (sv : List Value) (e : Nat) (ex : Led), nw = (S, listOf sv.toArray e) :: (L' + 1, oc) :: (D, listOf dv.toArray e0) :: (ex ++ rest) ∧ Mat (ex ++ rest) sv (sumsF told degs i) ∧ (∀ p ∈ ex, I < p.1) ∧
    m "degrees" = some (.ref D) ∧ m "told" = some (.ref R) ∧ m "sums" = some (.ref S)) ?step ?fin _ _ _ _ (Nat.zero_add _) ?init
  case init => exact ⟨[], _, [], rfl, .nil, fun _ h => (nomatch h), rfl, rfl, rfl⟩
  case fin =>
    intro m1 nw hJ hh tk1 F2 N2
    obtain ⟨sv, e, ex, hnw, hsv, hex, hmd, hmt, hms⟩ := hJ
    subst hnw
    have mm : MapMark := ⟨⟩
    obtain ⟨a0, us0, f0, a1, us1, f1, a2, us2, f2, rfl, hm0, hi0, hm1, hi1, hm2, hi2⟩ := matThree hsv
    have hneS : ∀ p ∈ ex ++ rest, p.1 ≠ S := fun p hp => (List.mem_append.mp hp).elim (fun h => Nat.ne_of_gt (Nat.lt_trans hIS (hex p h))) fun h => Nat.ne_of_lt (hSr p h)
    have hMx : Mat (ex ++ rest) dv degs := hM.mono fun p hp => List.mem_append_right _ hp
    have hneC : ∀ p ∈ ex ++ rest, p.1 ≠ L' + 1 := fun p hp => (List.mem_append.mp hp).elim (fun h => Nat.ne_of_gt (Nat.lt_trans hIr.1.1 (hex p h))) fun h => allNe1 hA0 p h
    have hneD : ∀ p ∈ ex ++ rest, p.1 ≠ D := fun p hp => (List.mem_append.mp hp).elim (fun h => Nat.ne_of_gt (Nat.lt_trans hIr.1.2 (hex p h))) fun h => hD p h
    (try dsimp only)
    k_steps
    unfold Stop
    have hs0 := hO.sumLen (t := 0) (by decide)
    have hs1 := hO.sumLen (t := 1) (by decide)
    have hs2 := hO.sumLen (t := 2) (by decide)
    have hpos := hO.pos
    have hn100 : n ≤ 100 := Nat.le_trans hO.le hO.few
    (k_with "call builtin:max" => (k_here; refine stopI ?_))
    k_dflt refine' zip3G (Rl := fun i y _ => ∃ t, y = .int ((topsF told degs).getD i 0) t) (by rfl) (by k_asm) (by k_asm) (by walk_at "inrest") (by walk_at "inrest") (by walk_at "inrest") hi0 hi1 hi2 (by rw [hs0]; exact hpos) (hs1.trans hs0.symm) (hs2.trans hs0.symm) (by rw [hs0]; exact Nat.le_trans hn100 (by decide)) (by rfl) (by rfl) ?helt ?hfin
    case helt =>
      intro i T C oC m₂ h tk t u v E' hin hT hoC hx F' N' lC hC hK
      k_steps
      unfold Stop
      k_dflt refine' maxTup (by rfl) hT ?_
      intro h9 tk9 t9 hK9
      (try dsimp +zetaDelta only)
      exact ⟨_, _, rfl, hK9, fun _ _ => ⟨t9, by rw [topsAt hO (by rw [← hs0]; exact hin)]⟩⟩
    case hfin =>
      intro DT CT ysT h9 tk9 hDT hCT hDC hg hlen hK hR
      unfold FinV
      intro h8 tk8 hfr8 hK8 hB8 F' N' lz
      have l1 := lz
      (try k_lt l1)
      (try k_sweep)
      have htl := hO.topLen
      have hIT : IntsAre ysT (topsF told degs) := intsOf (by rw [hlen, hs0, htl]) fun j y e => hR j y e h9 fun _ _ _ _ e => e
      have hyl : ysT.length = n := by rw [hIT.length, htl]
      have hle := hO.le
      have hfew := hO.few
      have hz3 := hO.rowLen (x := ((ysT.length : Nat) : Int)) (by omega) (by omega)
      unfold degRow at hz3
      have hdl : dv.length ≤ 200 := by rw [hM.length]; exact Nat.le_trans hO.few (by decide)
      (k_with "ziplen" => exact htl.trans hz3.symm)
      (k_with "zipsz" => (rw [htl]; omega))
      k_steps
      have hnd : IntsAre ys9 (newDeg told degs) := by
        unfold newDeg
        rw [htl]
        rw [hyl] at hI9
        exact hI9
      have hs' : ∀ i v, [Value.ref a0, Value.ref a1, Value.ref a2][i]? = some v → ∃ a us f, v = .ref a ∧ (a, listOf us.toArray f) ∈ ex ++ rest ∧ IntsAre us (sumRow told degs i) ∧ i < 3 := by
        intro i v hv
        rcases i with _ | _ | _ | i
        · cases hv; exact ⟨_, _, _, rfl, hm0, hi0, by decide⟩
        · cases hv; exact ⟨_, _, _, rfl, hm1, hi1, by decide⟩
        · cases hv; exact ⟨_, _, _, rfl, hm2, hi2, by decide⟩
        · cases hv
      have lz9 := lz
      rename Fr _ _ h' _ => F7
      rename News _ _ h' _ => N7
      have hsD9 : D9 < h'.objs.size := Heap.lt_size (N7 _ (.head _)).1
      k_dflt refine' listG (l := S) (Rl := fun i y h => ∃ r vs, y = .ref r ∧ h.get? r = some (LCg.lst vs) ∧ IntsAre vs (lackRow told degs i) ∧ h'.objs.size ≤ r) (by rfl) (by k_asm) (by k_asm) (by walk_at "inrest") (by exact Nat.le_of_ble_eq_true rfl) (by rfl) (by rfl) ?helt2 ?hfin2
      case helt2 =>
        intro i v C oC m₂ h tk E' hi hv hoC hx F' N' lC hC hK
        obtain ⟨a, us, f, rfl, hma, hia, hi3⟩ := hs' i v hv
        have hsi := hO.sumLen hi3
        (k_with "ziplen" => exact htl.trans hsi.symm)
        refine stopQ ?_
        k_steps
        unfold Stop
        exact ⟨_, _, rfl, hK8, fun h'' hh => ⟨D9, ys9, rfl, hh _ _ (Heap.get?_none_of_le hfr8) (N' _ (List.mem_cons_self ..)).1, hI9, Nat.le_trans hC (Nat.le_of_lt l1.1)⟩⟩
      case hfin2 =>
        intro DL CL ysL h9 tk9 hDL hCL hDCL hg hlen hK hR
        unfold FinV
        intro h8 tk8 hfr8 hK8 hB8 F8 N8 lz8
        obtain ⟨rws, NR, MR, hrow⟩ := rowsN F7 N7 hK8 ysL ((List.range 3).map (lackRow told degs)) hlen fun j y e => by
          obtain ⟨r, vs, h1, h2, h3, h4⟩ := hR j y e h8 fun b o b1 b2 e => hB8 b o (fun q => b2 (List.mem_singleton.mp q)) e
          exact ⟨r, vs, h1, h2, by rw [rangeD (by have h5 := ltOfGet e; rw [hlen] at h5; exact h5)]; exact h3, h4⟩
        have N9 : News g' L' h8 ((DL, listOf ysL.toArray ysL.length) :: (D, listOf (dv ++ [Value.ref D9]).toArray (e0 + 1)) :: ((rws ++ (D9, LCg.lst ys9) :: ex) ++ rest)) := lackLed NR N8
        clear NR N8 N7
        (try dsimp +zetaDelta only)
        k_steps
        rename News h₀ L _ _ => N10
        have hsz : ∀ o ∈ (D, listOf dv.toArray e0) :: rest, o.1 < h'.objs.size ∧ o.1 < D9 ∧ o.1 < DL := by
          intro o ho
          have h9 : o.1 < D9 := lz9 o (by
            rcases List.mem_cons.mp ho with q | h
            · rw [q]; exact .tail _ (.tail _ (.tail _ (.head _)))
            · exact .tail _ (.tail _ (.tail _ (.tail _ (List.mem_append_right _ h)))))
          have h10 : D9 < h'.objs.size := hsD9
          exact ⟨Nat.lt_trans h9 h10, h9, Nat.lt_trans h9 (lz8 _ (.head _))⟩
        refine hret _ _ _ _ ⟨DL, ysL, _, _, D9, rws ++ (D9, LCg.lst ys9) :: ex, rfl, rfl, MR.mono fun p hp => List.mem_append_left _ (List.mem_append_left _ hp), fun sub hS => (hS.mono fun p hp => List.mem_append_right _ hp).app (.cons (List.mem_append_left _ (List.mem_append_right _ (.head _))) hnd .nil), ?_⟩ (by k_asm) N10
        intro p hp o ho
        have h11 := hsz o ho
        rcases List.mem_cons.mp hp with q | hp
        · rw [q]; exact h11.2.2
        · rcases List.mem_append.mp hp with hp | hp
          · exact Nat.lt_of_lt_of_le h11.1 (hrow p hp)
          · rcases List.mem_cons.mp hp with q | hp
            · rw [q]; exact h11.2.1
            · exact Nat.lt_trans ((List.mem_cons.mp ho).elim (fun q => by rw [q]; exact hIr.1.2) fun h => hIr.2 o h) (hex p hp)
  case step =>
    intro i m1 nw hin hJ t hh tk1 F2 N2
    obtain ⟨sv, e, ex, hnw, hsv, hex, hmd, hmt, hms⟩ := hJ
    subst hnw
    have mm : MapMark := ⟨⟩
    have hMx : Mat (ex ++ rest) dv degs := hM.mono fun p hp => List.mem_append_right _ hp
    have hRx : (R, listOf tv.toArray te) ∈ ex ++ rest := List.mem_append_right _ hR
    have hneS : ∀ p ∈ ex ++ rest, p.1 ≠ S := fun p hp => (List.mem_append.mp hp).elim (fun h => Nat.ne_of_gt (Nat.lt_trans hIS (hex p h))) fun h => Nat.ne_of_lt (hSr p h)
    have ht1 := hO.told (i := 2 * i) (by omega)
    have ht2 := hO.told (i := 2 * i + 1) (by omega)
    have hle := hO.le
    have hfew := hO.few
    have hsix := hO.six
    have hz1 := hO.rowLen ht1.1 ht1.2
    have hz2 := hO.rowLen ht2.1 ht2.2
    unfold degRow at hz1 hz2
    have e1 : ((2 : Int) * (0 + (i : Int))).toNat = 2 * i := by omega
    have e2 : ((2 : Int) * (0 + (i : Int)) + 1).toNat = 2 * i + 1 := by omega
    rw [← e1] at ht1 hz1
    rw [← e2] at ht2 hz2
    have hsl : sv.length = i := by rw [hsv.length, sumsF, List.length_map, List.length_range]
    have hsl2 : sv.length ≤ 10 := by omega
    (k_with "ziplen" => exact hz1.trans hz2.symm)
    (k_with "zipsz" => (rw [hz1]; omega))
    k_steps
    have hnew : IntsAre ys9 (sumRow told degs i) := by rw [e1, e2] at hI9; exact hI9
    refine UnrEnd.intro (by k_asm) (by k_asm) ((S, listOf (sv ++ [Value.ref D9]).toArray (e + 1)) :: (L' + 1, oc) :: (D, listOf dv.toArray e0) :: (((D9, listOf ys9.toArray ys9.length) :: ex) ++ rest)) (subNew (S, _) (L' + 1, oc) (D, _) (D9, _))
      (List.forall_mem_cons.mpr ⟨Nat.ne_of_lt hIS, List.forall_mem_cons.mpr ⟨Nat.ne_of_lt hIr.1.1, List.forall_mem_cons.mpr ⟨Nat.ne_of_lt hIr.1.2, List.forall_mem_cons.mpr ⟨Nat.ne_of_gt l1.1, fun p hp => (List.mem_append.mp hp).elim (fun h => Nat.ne_of_gt (hex p h)) fun h => Nat.ne_of_lt (hIr.2 p h)⟩⟩⟩⟩)
      ⟨_, _, (D9, listOf ys9.toArray ys9.length) :: ex, rfl, ?qmat, List.forall_mem_cons.mpr ⟨l1.1, hex⟩, by walk_at "mlook", by walk_at "mlook", by walk_at "mlook"⟩
    rw [sumsF_succ]
    exact (hsv.mono fun p hp => List.mem_cons_of_mem _ hp).app (.cons (List.mem_cons_self ..) hnew .nil)
end
section
variable {prog : Program} {w : World} {A : Around} {E : Value → Shared → Prop} {s : Shared} {h₀ : Heap} {L : Addr} {m : Str → Option Value} {news : Led} {env : Env}
/-- the end of a comprehension whose list is stored under a name -/
noncomputable def FinS (prog : Program) (w : World) (A : Around) (E : Value → Shared → Prop) (h₀ : Heap) (L : Addr) (m : Str → Option Value) (news : Led) (env : Env) (y : Str) (py : Pos) (Q : Flow → Shared → Prop) (_ : Heap) (s' : Shared) (D C : Addr) (ys : List Value) (_ : Nat → Value → Heap → Prop) : Prop :=
  ∀ oC, Fr h₀ L s'.heap m → News h₀ L s'.heap ((D, LCg.lst ys) :: (C, oC) :: news) → (∀ p ∈ (D, LCg.lst ys) :: news, p.1 ≠ C) → (∀ p ∈ news, p.1 < D) →
    wpAny (model prog w) A (assign (.Name y py) env (.ref D)) (fun _ s'' => ∃ h3 tk3 m3 news3, s'' = { s' with heap := h3, toks := tk3 } ∧ Fr h₀ L h3 m3 ∧ News h₀ L h3 ((C, oC) :: news3) ∧ (∀ p ∈ news3, p.1 ≠ C) ∧
      ∀ h tk, Fr h₀ L h m3 → News h₀ L h news3 → Q .next { s' with heap := h, toks := tk }) E s'
theorem Assign_ListComp_G {elt target iter : PySem.Expr} {y : Str} {py : Pos} {scope : Scope} {cl : List (Str × Addr)} {pos spos : Pos} {Q : Flow → Shared → Prop}
    (hsw : swapsWith (.ListComp elt [⟨target, iter, [], 0⟩] scope pos) (some (.Name y py)) spos.line env = pure true)
    (hclos : closureFor scope env = pure cl) (hcell : ∀ y ∈ scope.names, y.2 ≠ .cell) (hkind : scope.kind = .function)
    (hnames : ∀ y ∈ scope.names, y.2 = .local → scope.names.lookup y.1 = some .local)
    (h : wpAny (model prog w) A (eval iter env) (SrcG prog w A E h₀ L m news target elt scope cl env (FinS prog w A E h₀ L m news env y py Q)) E s)
    (hs : ∀ x, foldedSetIterable iter env x = pure x := by intro _; rfl) :
    wpAny (model prog w) A (exec (.Assign [.Name y py] (.ListComp elt [⟨target, iter, [], 0⟩] scope pos) spos) env) Q E s := by
  rw [exec_Assign_Name_used _ _ _ _ hsw]
  refine wpAny_bind (wpAny_standAt (wpAny_bind ?_))
  show wpAny _ A (do let _ ← comprehension (.ListComp elt [⟨target, iter, [], 0⟩] scope pos) scope env _ (newList []) false (eval iter env) (some (assign (.Name y py) env))) _ _ s
  refine wpAny_bind (wpAny_mono (wpAny_comprehension_free (use := some (assign (.Name y py) env)) (Q := fun _ s' => Q .next s') rfl hs hclos hkind hnames
    (wpAny_mono h (fun xv s₁ h₁ => ?_) fun _ _ e => e)) (fun _ s' hq => wpAny_pure (wpAny_pure hq)) fun _ _ e => e)
  refine compG_block hcell hkind (h₁.mono fun H0 h tk D C ys Rl F N hD hC hDC e K hn fin => ?_)
  obtain ⟨m', hn⟩ := hn
  obtain ⟨oC, eC, hoC⟩ := LCg.ns_obj hn
  obtain ⟨NC, lC⟩ := frNew F N K hC eC
  obtain ⟨ND, lD⟩ := frNew F N K hD e
  have N2 : News h₀ L h ((D, LCg.lst ys) :: (C, oC) :: news) := fun p hp => by
    rcases List.mem_cons.mp hp with q | hp
    · exact ND p (q ▸ List.mem_cons_self ..)
    · exact NC p hp
  refine wpAny_mono (fin oC (F.keeps K) N2 (fun p hp => ?_) lD) (fun _ s'' hs'' => ?_) fun _ _ e => e
  · rcases List.mem_cons.mp hp with q | hp
    · rw [q]; exact hDC
    · exact Nat.ne_of_lt (lC p hp)
  · obtain ⟨h3, tk3, m3, news3, rfl, F3, N3, off, hq⟩ := hs''
    have hC3 := N3 _ (List.mem_cons_self ..)
    refine ⟨m', hoC.ns hC3.1, fun h'' hs'' => hq h'' tk3 (F3.change hs'' hC3.2.1 hC3.2.2) fun p hp => ?_⟩
    have hp' := N3 p (List.mem_cons_of_mem _ hp)
    exact ⟨hs''.extBut _ _ (off p hp) hp'.1, hp'.2⟩
theorem Assign_ListComp_GN (_F : Fr h₀ L s.heap m) (_N : News h₀ L s.heap news) {elt target iter : PySem.Expr} {y : Str} {py : Pos} {scope : Scope} {cl : List (Str × Addr)} {pos spos : Pos} {Q : Flow → Shared → Prop}
    (hsw : swapsWith (.ListComp elt [⟨target, iter, [], 0⟩] scope pos) (some (.Name y py)) spos.line env = pure true)
    (hclos : closureFor scope env = pure cl) (hcell : ∀ y ∈ scope.names, y.2 ≠ .cell) (hkind : scope.kind = .function)
    (hnames : ∀ y ∈ scope.names, y.2 = .local → scope.names.lookup y.1 = some .local)
    (h : wpAny (model prog w) A (eval iter env) (SrcG prog w A E h₀ L m news target elt scope cl env (FinS prog w A E h₀ L m news env y py Q)) E s)
    (hs : ∀ x, foldedSetIterable iter env x = pure x := by intro _; rfl) :
    wpAny (model prog w) A (exec (.Assign [.Name y py] (.ListComp elt [⟨target, iter, [], 0⟩] scope pos) spos) env) Q E s := Assign_ListComp_G hsw hclos hcell hkind hnames h hs
end
section
variable {prog : Program} {w : World} {A : Around} {E : Value → Shared → Prop} {h₀ : Heap} {L : Addr} {m : Str → Option Value} {news : Led} {env : Env}
/-- a source that looks at one object more -/
theorem SrcG.drop {q : Addr × Obj} {target elt : PySem.Expr} {scope : Scope} {cl : List (Str × Addr)} {Fin : Heap → Shared → Addr → Addr → List Value → (Nat → Value → Heap → Prop) → Prop} {xv : Value} {s₁ : Shared}
    (h : SrcG prog w A E h₀ L m (q :: news) target elt scope cl env Fin xv s₁) : SrcG prog w A E h₀ L m news target elt scope cl env Fin xv s₁ := by
  obtain ⟨H0, n, P, Rl, F, N, hk0, hsz, hit, turn, fin⟩ := h
  exact ⟨H0, n, P, Rl, F, fun p hp => N p (.tail _ hp), hk0, hsz, hit, fun i v C m₂ h tk E' a b c d e f _ => turn i v C m₂ h tk E' a b c d e f (N.grown e), fin⟩
end
theorem stopU {α : Type} {M : Model} {A : Around} {E : Value → Shared → Prop} {s : Shared} {t : Sem α} {Q : α → Shared → Prop} (h : wpAny M A t (fun a s => Stop (Q a s)) E s) : wpAny M A t Q E s := h
theorem newsSwp {h₀ h : Heap} {L : Addr} {a b : Addr × Obj} {l : Led} (N : News h₀ L h (a :: b :: l)) : News h₀ L h (b :: a :: l) := fun p hp => N p (by
  rcases List.mem_cons.mp hp with q | hp
  · exact q ▸ .tail _ (.head _)
  · rcases List.mem_cons.mp hp with q | hp
    · exact q ▸ .head _
    · exact .tail _ (.tail _ hp))
section
variable {prog : Program} {w : World} {A : Around} {E : Value → Shared → Prop} {s : Shared} {h₀ : Heap} {L : Addr} {m : Str → Option Value} {news : Led} {env : Env}
noncomputable def cellObj : Obj := { cls := .type "cell", data := .cell none }
/-- the namespace of a comprehension that has cells -/
theorem wpAny_newFunctionEnv_comp {M : Model} {scope : Scope} {globals : Addr} {cl : List (Str × Addr)} {qual : Str} {outer : Env} {Q : Env → Shared → Prop}
    (hQ : Q (newEnv scope s.heap.objs.size globals (cellsFrom (s.heap.objs.size + 1) scope.names cl) qual none .none (some outer) builtinsNs)
      { s with heap := pushCells (s.heap.push { cls := .type "dict", data := .dict #[] }) scope.names }) :
    wpAny M A (newFunctionEnv scope globals cl [] qual none .none (some outer)) Q E s := by
  simp only [newFunctionEnv, Option.isSome_some, if_true]
  refine wpAny_bind (wpAny_alloc ?_)
  refine wpAny_bind (wpAny_layCells _ (fun name kind cells => by cases hkc : kind == NameKind.cell <;> simp [hkc]) _ _ _ _ ?_)
  rw [show ({ s with heap := s.heap.push { cls := .type "dict", data := .dict #[] } } : Shared).heap.objs.size = s.heap.objs.size + 1 from Heap.size_push ..]
  rw [List.forIn_nil]
  exact wpAny_bind (wpAny_pure (wpAny_pure hQ))
/-- a source whose name is a cell -/
noncomputable def SrcC (prog : Program) (w : World) (A : Around) (E : Value → Shared → Prop) (h₀ : Heap) (L : Addr) (m : Str → Option Value) (news : Led) (jn : Str) (target elt : PySem.Expr) (scope : Scope) (cl : List (Str × Addr)) (env : Env)
    (Fin : Heap → Shared → Addr → Addr → List Value → (Nat → Value → Heap → Prop) → Prop) (xv : Value) (s₁ : Shared) : Prop :=
  ∃ (H0 : Heap) (n : Nat) (P Rl : Nat → Value → Heap → Prop), Fr h₀ L H0 m ∧ News h₀ L H0 news ∧ Kps H0 s₁.heap ∧ n ≤ sizeLine ∧
   wpAny (model prog w) A (pyIter xv) (fun it s₂ => ∃ h₂ tk₂ I wr, s₂ = { s₁ with heap := h₂, toks := tk₂ } ∧ it = .ref I ∧ Kps H0 h₂ ∧ H0.objs.size ≤ h₂.objs.size ∧ (∀ b ∈ wr, b < h₂.objs.size ∧ H0.objs.size ≤ b) ∧
      ∀ free, (∀ b ∈ free, h₂.objs.size ≤ b) → ∃ Md St, GT prog w A target I free wr n P Md St ∧ St 0 h₂) E s₁ ∧
   (∀ i v C h tk (E' : Value → Shared → Prop), i < n → P i v h → (∃ m', h.Ns C m') → (∃ v₀, h.IsCell (C + 1) v₀) → H0.objs.size ≤ C → Kps H0 h → Fr h₀ L h m → News h₀ L h news →
      wpAny (model prog w) A (assign target (compEnvC scope ((jn, C + 1) :: cl) C env) v) (fun _ s' => wpAny (model prog w) A (eval elt (compEnvC scope ((jn, C + 1) :: cl) C env)) (fun y s₂ => ∃ h' tk', s₂ = { s₁ with heap := h', toks := tk' } ∧ (∃ m', h'.Ns C m') ∧ (∃ v₀, h'.IsCell (C + 1) v₀) ∧ KpsB [C, C + 1] h h' ∧
        ∀ h'', (∀ b o, h.get? b = none → h'.get? b = some o → h''.get? b = some o) → Rl i y h'') E' s') E' { s₁ with heap := h, toks := tk }) ∧
   (∀ D C ys h tk, H0.objs.size ≤ D → H0.objs.size ≤ C → D ≠ C → D ≠ C + 1 → h.get? D = some (LCg.lst ys) → ys.length = n → Kps H0 h → (∃ m', h.Ns C m') → (∀ j y, ys[j]? = some y → ∀ h'', (∀ b o, b ≠ D → b ≠ C → b ≠ C + 1 → h.get? b = some o → h''.get? b = some o) → Rl j y h'') →
      Fin H0 { s₁ with heap := h, toks := tk } D C ys Rl)
theorem compC_block {jn : Str} {elt target iter : PySem.Expr} {scope : Scope} {cl : List (Str × Addr)} {pos : Pos} {use : Option (Value → Sem Unit)} {Q : Value → Shared → Prop} {xv : Value}
    (hcf : ∀ n, cellsFrom n scope.names cl = (jn, n) :: cl) (hpc : ∀ h, pushCells h scope.names = h.push cellObj)
    (h : SrcC prog w A E h₀ L m news jn target elt scope cl env (fun _ s' D C _ _ => compPost (model prog w) A E use Q (.ref D) C (.ok .next) s') xv s) :
    wpAny (model prog w) A (pyIter xv) (fun it s₂ => wpAny (model prog w) A (newList []) (fun acc s₃ =>
      wpAny (model prog w) A (newFunctionEnv scope env.globals cl [] env.qual none .none (some env)) (fun cenv s₄ =>
        codeAny (model prog w) A (.compStart (.ListComp elt [⟨target, iter, [], 0⟩] scope pos) 0 it acc { cenv with scope := relabel scope env }) (compPost (model prog w) A E use Q acc cenv.locals) s₄) E s₃) E s₂) E s := by
  obtain ⟨H0, n, P, Rl, F, N, hk0, hsz, hit, turn, fin⟩ := h
  refine wpAny_mono hit (fun it s₂ h₂ => ?_) fun _ _ e => e
  obtain ⟨h₂, tk₂, I, wr, rfl, rfl, hk₂, hle, hwr, gt⟩ := h₂
  refine wpAny_newObj_type (wpAny_newFunctionEnv_comp ?_)
  dsimp only
  generalize hH2 : h₂.push { cls := .type "list", dict := none, data := .seq ([] : List Value).toArray } = H2
  rw [hcf, hpc]
  have hns0 : (H2.push { cls := .type "dict", data := .dict #[] }).Ns H2.objs.size (fun _ => none) := Heap.Ns.new H2 (.type "dict")
  generalize hH3 : H2.push { cls := .type "dict", data := .dict #[] } = H3 at *
  have s3 : H3.objs.size = H2.objs.size + 1 := by rw [← hH3, Heap.size_push]
  generalize hH4 : H3.push cellObj = h₁ at *
  have hC : H2.objs.size = h₂.objs.size + 1 := by rw [← hH2, Heap.size_push]
  generalize hCe : H2.objs.size = C at *
  have hcell₁ : h₁.IsCell (C + 1) none := ⟨cellObj, by rw [← hH4, ← s3]; exact Heap.get?_push_size _ rfl, rfl⟩
  generalize hDe : h₂.objs.size = D at *
  have hDC : D ≠ C := by rw [hC]; exact Nat.ne_of_lt (Nat.lt_succ_self _)
  have hDC1 : D ≠ C + 1 := by rw [hC]; exact Nat.ne_of_lt (Nat.lt_succ_of_lt (Nat.lt_succ_self _))
  have k34 : Kps H3 h₁ := fun b o e => hH4 ▸ Heap.get?_push_of_some _ e
  have k23 : Kps H2 h₁ := fun b o e => k34 b o (hH3 ▸ Heap.get?_push_of_some _ e)
  have old : Kps h₂ h₁ := fun b o e => k23 b o (hH2 ▸ Heap.get?_push_of_some _ e)
  have hns₁ : h₁.Ns C (fun _ => none) := hns0.at' fun o e => k34 C o e
  have hacc : h₁.get? D = some (LCg.lst []) := k23 _ _ (hH2 ▸ (hDe ▸ Heap.get?_push_size _ rfl))
  have free : ∀ b ∈ [D, C, C + 1], D ≤ b := fun b hb => by
    rcases List.mem_cons.mp hb with e | hb
    · exact Nat.le_of_eq e.symm
    · rcases List.mem_cons.mp hb with e | hb
      · rw [e, hC]; exact Nat.le_succ _
      · rw [List.mem_singleton.mp hb, hC]; exact Nat.le_succ_of_le (Nat.le_succ _)
  obtain ⟨Md, St, W, st0⟩ := gt [D, C, C + 1] free
  have hHD : H0.objs.size ≤ D := hle
  have hHC : H0.objs.size ≤ C := by rw [hC]; exact Nat.le_succ_of_le hle
  refine compG_loop (cw := [C, C + 1]) (En := fun h => (∃ m', h.Ns C m') ∧ ∃ v₀, h.IsCell (C + 1) v₀) (H0 := H0) (Rl := Rl) W hsz (W.frame _ _ _ st0 fun b o _ e => old b o e) ⟨⟨_, hns₁⟩, ⟨_, hcell₁⟩⟩ hacc (fun b o e => old b o (hk₂ b o e)) (fun q => Nat.lt_irrefl _ (hwr D q).1) (fun q => ?_)
    (fun b hb q => ?_) (fun b o e => ?_) (fun h h' ⟨⟨m', hn⟩, ⟨v₀, o, ho, hd⟩⟩ k => ⟨⟨m', hn.at' fun o e => k C (by simp) o e⟩, ⟨v₀, o, k _ (by simp) o ho, hd⟩⟩) (fun h ⟨⟨m', hn⟩, ⟨v₀, o, ho, hd⟩⟩ b hb => ?_) ?_ ?_
  · rcases List.mem_cons.mp q with e | q
    · exact hDC e
    · exact hDC1 (List.mem_singleton.mp q)
  · have h1 := free b (List.mem_cons_of_mem _ hb)
    exact Nat.lt_irrefl _ (Nat.lt_of_lt_of_le (hwr b q).1 h1)
  · have hb := Heap.lt_size e
    refine ⟨fun q => ?_, fun q => ?_, fun q => ?_⟩
    · rw [q] at hb; exact Nat.lt_irrefl _ (Nat.lt_of_lt_of_le hb hHD)
    · have h1 := free b (List.mem_cons_of_mem _ q)
      exact Nat.lt_irrefl _ (Nat.lt_of_lt_of_le hb (Nat.le_trans hHD h1))
    · exact Nat.lt_irrefl _ (Nat.lt_of_lt_of_le hb (hwr b q).2)
  · rcases List.mem_cons.mp hb with q | hb
    · rw [q]; obtain ⟨o, e, _⟩ := LCg.ns_obj hn; exact ⟨o, e⟩
    · rw [List.mem_singleton.mp hb]; exact ⟨o, ho⟩
  · intro i v h tk E' hi hP ⟨hn, hc⟩ hK
    refine wpAny_mono (turn i v C h tk E' hi hP hn hc hHC hK (F.keeps hK) (N.grown hK)) (fun _ s' h' => wpAny_mono h' (fun y s₂ hy => ?_) fun _ _ e => e) fun _ _ e => e
    obtain ⟨h', tk', e, a, b, c, d⟩ := hy
    exact ⟨h', tk', e, ⟨a, b⟩, c, d⟩
  · intro ys h tk hD hl ⟨hn, _⟩ hK hR
    refine fin D C ys h tk hHD hHC hDC hDC1 hD hl hK hn fun j y e h'' k => hR j y e h'' fun b o hb e' => k b o (fun q => hb (by simp [q])) (fun q => hb (by simp [q])) (fun q => hb (by simp [q])) e'
theorem Assign_ListComp_C (_F : Fr h₀ L s.heap m) (_N : News h₀ L s.heap news) {jn : Str} {elt target iter : PySem.Expr} {y : Str} {py : Pos} {scope : Scope} {cl : List (Str × Addr)} {pos spos : Pos} {Q : Flow → Shared → Prop}
    (hsw : swapsWith (.ListComp elt [⟨target, iter, [], 0⟩] scope pos) (some (.Name y py)) spos.line env = pure true)
    (hclos : closureFor scope env = pure cl) (hcf : ∀ n, cellsFrom n scope.names cl = (jn, n) :: cl) (hpc : ∀ h, pushCells h scope.names = h.push cellObj) (hkind : scope.kind = .function)
    (hnames : ∀ y ∈ scope.names, y.2 = .local → scope.names.lookup y.1 = some .local)
    (h : wpAny (model prog w) A (eval iter env) (SrcC prog w A E h₀ L m news jn target elt scope cl env (FinS prog w A E h₀ L m news env y py Q)) E s)
    (hs : ∀ x, foldedSetIterable iter env x = pure x := by intro _; rfl) :
    wpAny (model prog w) A (exec (.Assign [.Name y py] (.ListComp elt [⟨target, iter, [], 0⟩] scope pos) spos) env) Q E s := by
  rw [exec_Assign_Name_used _ _ _ _ hsw]
  refine wpAny_bind (wpAny_standAt (wpAny_bind ?_))
  show wpAny _ A (do let _ ← comprehension (.ListComp elt [⟨target, iter, [], 0⟩] scope pos) scope env _ (newList []) false (eval iter env) (some (assign (.Name y py) env))) _ _ s
  refine wpAny_bind (wpAny_mono (wpAny_comprehension_free (use := some (assign (.Name y py) env)) (Q := fun _ s' => Q .next s') rfl hs hclos hkind hnames
    (wpAny_mono h (fun xv s₁ h₁ => ?_) fun _ _ e => e)) (fun _ s' hq => wpAny_pure (wpAny_pure hq)) fun _ _ e => e)
  refine compC_block (h₀ := h₀) (L := L) (m := m) (news := news) hcf hpc ?_
  obtain ⟨H0, n, P, Rl, F, N, hk0, hsz, hit, turn, fin⟩ := h₁
  refine ⟨H0, n, P, Rl, F, N, hk0, hsz, hit, turn, fun D C ys h tk hD hC hDC hDC1 e hl K hn hR => ?_⟩
  have fin := fin D C ys h tk hD hC hDC hDC1 e hl K hn hR
  obtain ⟨m', hn⟩ := hn
  obtain ⟨oC, eC, hoC⟩ := LCg.ns_obj hn
  obtain ⟨NC, lC⟩ := frNew F N K hC eC
  obtain ⟨ND, lD⟩ := frNew F N K hD e
  have N2 : News h₀ L h ((D, LCg.lst ys) :: (C, oC) :: news) := fun p hp => by
    rcases List.mem_cons.mp hp with q | hp
    · exact ND p (q ▸ List.mem_cons_self ..)
    · exact NC p hp
  refine wpAny_mono (fin oC (F.keeps K) N2 (fun p hp => ?_) lD) (fun _ s'' hs'' => ?_) fun _ _ e => e
  · rcases List.mem_cons.mp hp with q | hp
    · rw [q]; exact hDC
    · exact Nat.ne_of_lt (lC p hp)
  · obtain ⟨h3, tk3, m3, news3, rfl, F3, N3, off, hq⟩ := hs''
    have hC3 := N3 _ (List.mem_cons_self ..)
    refine ⟨m', hoC.ns hC3.1, fun h'' hs'' => hq h'' tk3 (F3.change hs'' hC3.2.1 hC3.2.2) fun p hp => ?_⟩
    have hp' := N3 p (List.mem_cons_of_mem _ hp)
    exact ⟨hs''.extBut _ _ (off p hp) hp'.1, hp'.2⟩
/-- a range as a source whose name is a cell -/
theorem rangeC {jn : Str} {px : Pos} {r : Addr} {a b : Int} {t u v : Tok} {n : Nat} {Rl : Nat → Value → Heap → Prop} {elt : PySem.Expr} {scope : Scope} {cl : List (Str × Addr)} {Fin : Heap → Shared → Addr → Addr → List Value → (Nat → Value → Heap → Prop) → Prop}
    (hh : A.handled = none) (F : Fr h₀ L s.heap m) (N : News h₀ L s.heap news) (hr : IsRange s.heap r a b 1 t u v) (hsm : Builtin.Range.small a b 1 = true) (hn : Builtin.Range.rangeSize a b 1 = ((n : Nat) : Int)) (hsz : n ≤ 1000)
    (hkind : (relabel scope env).kind = .function) (hx : (relabel scope env).names.lookup jn = some .cell)
    (helt : ∀ i v C oc h tk (E' : Value → Shared → Prop), i < n → (∃ t, v = .int (a + (i : Int)) t) → oc.data = .cell (some v) → Fr h₀ L h m → News h₀ L h ((C + 1, oc) :: news) → (∀ p ∈ news, p.1 < C) → s.heap.objs.size ≤ C → Kps s.heap h →
      wpAny (model prog w) A (eval elt (compEnvC scope ((jn, C + 1) :: cl) C env)) (fun y s₂ => ∃ h' tk', s₂ = { s with heap := h', toks := tk' } ∧ Kps h h' ∧ ∀ h'', (∀ b o, h.get? b = none → h'.get? b = some o → h''.get? b = some o) → Rl i y h'') E' { s with heap := h, toks := tk })
    (fin : ∀ D C ys h tk, s.heap.objs.size ≤ D → s.heap.objs.size ≤ C → D ≠ C → D ≠ C + 1 → h.get? D = some (LCg.lst ys) → ys.length = n → Kps s.heap h → (∃ m', h.Ns C m') → (∀ j y, ys[j]? = some y → ∀ h'', (∀ b o, b ≠ D → b ≠ C → b ≠ C + 1 → h.get? b = some o → h''.get? b = some o) → Rl j y h'') →
      Fin s.heap { s with heap := h, toks := tk } D C ys Rl) :
    SrcC prog w A E h₀ L m news jn (.Name jn px) elt scope cl env Fin (.ref r) s := by
  refine ⟨s.heap, n, fun i v _ => ∃ t, v = .int (a + (i : Int)) t, Rl, F, N, fun _ _ e => e, Nat.le_trans hsz (by decide), ?_, ?_, fun D C ys h tk q1 q2 q3 q4 q5 q6 q7 q8 q9 => fin D C ys h tk q1 q2 q3 q4 q5 q6 q7 q8 q9⟩
  · refine wpAny_pyIter_range hr hsm ⟨_, s.toks, s.heap.objs.size, [s.heap.objs.size], rfl, rfl, fun b o e => Heap.get?_push_of_some _ e, by rw [Heap.size_push]; exact Nat.le_succ _, fun b hb => by rw [List.mem_singleton.mp hb, Heap.size_push]; exact ⟨Nat.lt_succ_self _, Nat.le_refl _⟩, fun free hf => ?_⟩
    rw [Heap.size_push] at hf
    refine ⟨_, _, GT.ofK (KTurns.ofWalks (LCg.range_walks hh a n) fun i v s Q E st q => ?_) (fun b hb q => ?_) (fun i h st b hb => ?_) (fun s Q E st q => (LCg.range_walks hh a n).self 0 s Q E st q), ?_⟩
    · unfold letOwnedTupleGo; exact wpAny_pure q
    · have := hf b q
      rw [List.mem_singleton.mp hb] at this; exact Nat.not_succ_le_self _ this
    · rw [List.mem_singleton.mp hb]; exact ⟨_, st⟩
    · show IsRangeIter _ _ _ _ _; rw [hn]; simpa using Heap.get?_push_size _ rfl
  · intro i v C h tk E' hi hv ⟨m', hns⟩ ⟨v₀, hcell⟩ hC hK F' N'
    refine wpAny_assign_Name (wpAny_storeName_cell (env := compEnvC scope ((jn, C + 1) :: cl) C env) hkind hx (by simp [compEnvC, List.lookup]) hcell fun h₁ hc₁ hs₁ => ?_)
    obtain ⟨oc, eoc, hoc⟩ := hc₁
    have hC0 : ∀ b o, s.heap.get? b = some o → b < C := fun b o e => Nat.lt_of_lt_of_le (Heap.lt_size e) hC
    have hK₁ : Kps s.heap h₁ := fun b o e => hs₁.extBut b o (Nat.ne_of_lt (Nat.lt_succ_of_lt (hC0 b o e))) (hK b o e)
    obtain ⟨N₁, _⟩ := frNew F N hK₁ (Nat.le_succ_of_le hC) eoc
    refine wpAny_mono (helt i v C oc h₁ _ E' hi hv hoc (F.keeps hK₁) N₁ (fun p hp => hC0 _ _ (N p hp).1) hC hK₁) (fun y s₂ hy => ?_) fun _ _ e => e
    obtain ⟨h₂, tk₂, rfl, hk₂, hr⟩ := hy
    obtain ⟨oo, hoo, _⟩ := hcell
    refine ⟨h₂, tk₂, rfl, ⟨_, (hns.sameBut hs₁ (Nat.ne_of_lt (Nat.lt_succ_self _))).at' fun o e => hk₂ C o e⟩, ⟨_, oc, hk₂ _ _ eoc, hoc⟩, fun b o hb e => hk₂ b o (hs₁.extBut b o (fun q => hb (by simp [q])) e), fun h'' hh => hr h'' fun b o hb e => hh b o ?_ e⟩
    cases e' : h.get? b with
    | none => rfl
    | some o' =>
      have hbC : b ≠ C + 1 := fun q => by rw [q, eoc] at hb; cases hb
      rw [hs₁.extBut b o' hbC e'] at hb
      cases hb
end
theorem newsMid {h₀ h : Heap} {L : Addr} {a b : Addr × Obj} {r l : Led} (N : News h₀ L h (a :: b :: l)) (N2 : News h₀ L h (r ++ l)) : News h₀ L h (a :: b :: (r ++ l)) := fun p hp => by
  rcases List.mem_cons.mp hp with q | hp
  · exact N p (q ▸ .head _)
  · rcases List.mem_cons.mp hp with q | hp
    · exact N p (q ▸ .tail _ (.head _))
    · exact N2 p hp
theorem offRows {h₀ h : Heap} {L D C : Addr} {oC o : Obj} {r l : Led} {m' : Str → Option Value} (N : News h₀ L h ((D, o) :: (C, oC) :: (r ++ l))) (hC : h.Ns C m') (hr : ∀ p ∈ r, ∃ vs, p.2 = LCg.lst vs) (off : ∀ p ∈ (D, o) :: l, p.1 ≠ C) : ∀ p ∈ (D, o) :: (r ++ l), p.1 ≠ C := fun p hp => by
  rcases List.mem_cons.mp hp with q | hp
  · exact off p (q ▸ .head _)
  · rcases List.mem_append.mp hp with hp | hp
    · intro q
      obtain ⟨vs, e⟩ := hr p hp
      have e1 := (N p (.tail _ (.tail _ (List.mem_append_left _ hp)))).1
      obtain ⟨o', e2, es, ep, hd, _⟩ := LCg.ns_obj hC
      rw [q, e2, e] at e1
      rw [Option.some.inj e1] at hd
      exact absurd hd (by intro h; cases h)
    · exact off p (.tail _ hp)
theorem rowsN2 {h₀ H0 h : Heap} {L : Addr} {m : Str → Option Value} {news : Led} (F : Fr h₀ L H0 m) (N : News h₀ L H0 news) (K : Kps H0 h) : ∀ (ys : List Value) (fs : List (List Int)), ys.length = fs.length →
    (∀ j (y : Value), ys[j]? = some y → ∃ r vs, y = .ref r ∧ h.get? r = some (LCg.lst vs) ∧ IntsAre vs (fs.getD j []) ∧ H0.objs.size ≤ r) → ∃ rows : Led, News h₀ L h (rows ++ news) ∧ Mat rows ys fs ∧ (∀ p ∈ rows, H0.objs.size ≤ p.1) ∧ ∀ p ∈ rows, ∃ vs f, p.2 = LCg.lst vs ∧ IntsAre vs f
  | [], [], _, _ => ⟨[], N.grown K, .nil, (fun _ h => nomatch h), fun _ h => nomatch h⟩
  | [], _ :: _, h, _ => nomatch h
  | _ :: _, [], h, _ => nomatch h
  | y :: ys, f :: fs, hl, hR => by
    obtain ⟨rows, N1, M1, h1, h2⟩ := rowsN2 F N K ys fs (Nat.succ.inj hl) fun j z hz => hR (j + 1) z hz
    obtain ⟨r, vs, rfl, e, hi, hr⟩ := hR 0 y rfl
    have hn := (frNew F N K hr e).1 _ (List.mem_cons_self ..)
    refine ⟨(r, LCg.lst vs) :: rows, fun p hp => ?_, .cons (List.mem_cons_self ..) hi (M1.mono fun p hp => List.mem_cons_of_mem _ hp), fun p hp => ?_, fun p hp => ?_⟩
    · rcases List.mem_cons.mp hp with q | hp
      · rw [q]; exact hn
      · exact N1 p hp
    · rcases List.mem_cons.mp hp with q | hp
      · rw [q]; exact hr
      · exact h1 p hp
    · rcases List.mem_cons.mp hp with q | hp
      · rw [q]; exact ⟨_, _, rfl, hi⟩
      · exact h2 p hp
theorem rowsOff {h₀ h : Heap} {L D : Addr} {ys : List Value} {fs : List (List Int)} {r l : Led} (N : News h₀ L h l) (hs : ∀ p ∈ r, p ∈ l) (hD : (D, LCg.lst ys) ∈ l) (M : Mat r ys fs) (hy : 0 < ys.length) (hr : ∀ p ∈ r, ∃ vs f, p.2 = LCg.lst vs ∧ IntsAre vs f) : ∀ p ∈ r, p.1 ≠ D := by
  intro p hp q
  obtain ⟨vs, f, e, hi⟩ := hr p hp
  have e1 := (N p (hs p hp)).1
  have e2 := (N _ hD).1
  rw [q, e2, e] at e1
  have e3 : vs = ys := by
    have h4 := Option.some.inj e1
    have h5 : Data.seq ys.toArray ys.length = Data.seq vs.toArray vs.length := congrArg Obj.data h4
    injection h5 with h6 h7
    have h8 : ys.toArray.toList = vs.toArray.toList := congrArg Array.toList h6
    exact h8.symm
  subst e3
  cases M with
  | nil => exact absurd hy (Nat.lt_irrefl _)
  | cons a b c => cases hi
section
example (w : World) : (rwQ = rwQ) ∧ (Kq w.params = Kq w.params) := by
  k_with_none
  k_fill
  (k_with "B" => k_asm)
  (k_with "K" => first | exact rfl | assumption)
  (k_with "C" => first | assumption | trivial)
  (k_with "D" => first | (change dp + 1 + _ < _; omega) | omega | ktr_room)
  (k_with "U" => first | (change un + 3 + _ < _; omega) | omega | ktr_units)
  (k_with "call builtin:divmod" => ((with_reducible show wpAny _ _ (call (Value.builtin _) [Value.int _ _, Value.int _ _]) _ _ _); (rename SmallDiv _ => hSd); refine divmod_N (by assumption) (by assumption) (by assumption) ?_ (Or.inl (PyProof.noPylong_of_log2 hSd)); intro _ _ _))
  (k_with "binaryOp FloorDiv int int" => ((rename SmallDiv _ => hSd); refine floordiv_sd hSd (by first | assumption | omega) ?_))
  (k_with "AllLt" => first | assumption | exact And.right (by assumption) | exact And.right (And.right (by assumption)) | exact And.right (And.right (And.right (by assumption))) | exact And.right (And.right (And.right (And.right (by assumption)))) | exact And.right (And.right (And.right (And.right (And.right (by assumption))))) | exact And.right (And.right (And.right (And.right (And.right (And.right (by assumption)))))) | exact And.right (And.right (And.right (And.right (And.right (And.right (And.right (by assumption)))))))  | exact And.right (And.right (And.right (And.right (And.right (And.right (And.right (And.right (by assumption)))))))))
  (k_with "k_all" => first | with_reducible assumption | exact allNe0 (by walk_at "AllLt") | exact allNe1 (by walk_at "AllLt") | exact allNe2 (by walk_at "AllLt") | exact allNe3 (by walk_at "AllLt") | exact List.forall_mem_nil _ | (refine' List.forall_mem_cons.mpr ⟨?_, ?_⟩; (focus k_ne); k_all))
  (k_with "binaryOp Mult ref int" => (k_here; (rename CntOk _ => hCo); k_dflt (refine' mulRep (by k_asm) (by k_asm) (by k_mem) hCo ?_); k_whole; intro l' h' F' N' l1; (try k_lt l1); (try k_sweep)))
  (k_with "enter" => (refine wpAny_call ?_; k_dflt cell_enter))
  (k_with "enter C" => (refine wpAny_call ?_; k_dflt ((refine' code_defC (by k_asm) (by k_asm) (by k_asm) (by k_asm) (by k_asm) (by exact rfl) (by exact rfl) (by assumption) (by k_is) (by k_is) (by ktr_room) (by exact BindsTo.of_eq rfl) (by exact rfl) (by decide +kernel) ?_ (by exact rfl) (by exact rfl) (by exact rfl)); k_whole; intro g' L' h' tk' cells' FG' F' N' Y' B' X' T' l1; (try k_lt l1); k_cells Y'; (try simp only [List.cons_append, List.nil_append] at N'); (try dsimp only); (try k_lift B'); (try k_fold))))
  (k_with "enter N" => (refine wpAny_call ?_; k_dflt (refine' code_nest (by k_asm) (by k_asm) (by k_asm) (by k_asm) (by k_asm) (by exact rfl) (by exact rfl) (by assumption) (by walk_at "inrest") (codeRec_news (by k_asm) (by walk_at "inrest") (by assumption) (by assumption)) (by ktr_room) (by exact BindsTo.of_eq rfl) (by exact locs rfl) ?_ (by exact rfl) (by exact rfl) (by exact rfl) (by decide); k_whole; intro g' L' h' FG' F' N' B' X' T'; (try dsimp only); (try k_lift B'))))
  (k_with "eval Name" => (k_here; kc_free; k_dflt (refine' nameX_F (by k_asm) (by exact rfl) (by walk_at "inrest") (by with_reducible assumption) ?_ (by exact rfl) (by exact rfl)); k_whole))
  (k_with "inrest" => first | with_reducible assumption | exact List.mem_cons_self .. | assumption | (refine List.mem_cons_of_mem _ ?_; walk_at "inrest"))
  (k_with "FnAt" => (k_dflt (exact FnAt.of (by k_asm) (by walk_at "inrest"))))
  (k_with "callWith ref" => (k_here; kn_here; k_dflt (first
    | (refine' callWith_F (FnAt.of (by k_asm) (by walk_at "inrest")) ?_; k_whole)
    | (refine' callWith_F0 (FnAt.of (by k_asm) (by walk_at "inrest")) ?_; k_whole; try dsimp only [List.nil_append, List.cons_append]))))
  (k_with "mulok" => first | assumption | exact PySem.IntMulOk.of_left (bits64 (by omega)) | exact PySem.IntMulOk.of_right (bits64 (by omega)))
  (k_with "binaryOp Mult int int" => (k_here; k_dflt (refine mul_int ?_ (by walk_at "mulok"))))
  (k_with "setItem ref int" => (k_here; (with_reducible show wpAny _ _ (setItem (Value.ref _) (Value.int _ _) (Value.int _ _)) _ _ _); k_dflt (refine' ksa_set (by k_asm) (by k_asm) (by k_upd) (by with_reducible assumption) (by omega) (by omega) (by omega) ?_); k_whole; intro h' F' N' hi' hl' hs'; (try k_sweep)))
  (k_with "nn" => first | omega | ((rename ShB _ => hShB); exact (hShB _ (by omega) (by omega)).1))
  (k_with "lsz" => ((rename ShB _ => hShB); (rename BitsB _ => hBB); first | exact lsz_of (BitsB.fdiv _ hBB) (hShB _ (by omega) (by omega)).2 | exact lsz_of hBB (hShB _ (by omega) (by omega)).2))
  (k_with "binaryOp RShift int int" => (k_here; k_dflt (refine rshift_int (by walk_at "nn") ?_)))
  (k_with "binaryOp RShift int int" => (k_here; with_reducible refine rshift1 ?_))
  (k_with "binaryOp LShift int int" => (k_here; k_dflt (refine lshift_int (by walk_at "nn") (by walk_at "lsz") ?_)))
  (k_with "truthy ref" => (k_dflt (refine' truthyLed (by k_asm) (by walk_at "inrest") (by walk_at "lenfit") ?_); intro _))
  (k_with "lenfit" => first | omega | ((have hl9 := IntsAre.length (by assumption)); (try simp only [List.length_map, List.length_replicate] at *); omega))
  (k_with "subscriptTail" => (k_here; (with_reducible show wpAny _ _ (subscriptTail _ _ (Value.ref _) (Value.int _ _)) _ _ _); k_dflt (refine' ksa_sub (by k_asm) (by walk_at "inrest") (by with_reducible assumption) (by omega) (by first | omega | (rw [List.length_map]; omega)) (by omega) ?_ (by with_unfolding_all rfl)); intro _))
  (k_with "call builtin:list.append" => (k_here; k_dflt (refine' appendLed (by k_asm) (by k_asm) (by k_upd) (by walk_at "lenfit") ?_; k_whole); intro h' F' N'; (try k_sweep)))
  (k_with "call builtin:list.reverse" => (k_here; k_dflt (refine' reverseLed (by k_asm) (by k_asm) (by k_upd) (by walk_at "lenfit") ?_; k_whole); intro h' F' N'; (try k_sweep)))
  (k_with "call type:reversed" => (k_here; (with_reducible show wpAny _ _ (call (Value.type _) [Value.ref _]) _ _ _); k_dflt (refine' krv_reversed (by k_asm) (by k_asm) (News.isList (by k_asm) (by walk_at "inrest")) ?_); intro D' h' F' N' lrev; have l1 := lrev; (try k_lt l1); (try k_sweep)))
  (k_with "mlook" => first | with_reducible assumption | exact if_pos rfl | exact rfl | (refine (if_neg (by decide)).trans ?_; walk_at "mlook"))
  (k_with "eval Name" => (k_here; (rename MapMark => hMM); k_dflt (refine' nameX_L (by k_asm) (by walk_at "mlook") ?_ (by rfl) (by rfl)); k_whole))
  (k_with "newList" => (k_here; (with_reducible refine' newList_K (by k_asm) (by k_asm) ?_ (by exact Nat.le_of_ble_eq_true rfl)); k_whole; intro l' h' F' N' lnew; have l1 := lnew; (try k_lt l1); (try k_sweep)))
  (k_with "lsz" => ((rename BitsB _ => hBB); exact lsz_of hBB (by omega)))
  (k_with "newTuple" => (k_here; k_dflt (refine' newTupLed (by k_asm) (by k_asm) (by exact Nat.le_of_ble_eq_true rfl) ?_; k_whole); intro q' h' F' N' ltup; have l1 := ltup; (try k_lt l1); (try k_sweep)))
  (k_with "pick" => first | exact Pick.head | (apply Pick.tail; walk_at "pick"))
  (k_with "sub" => (intro q9 hq9; repeat (first | exact hsub0 _ hq9 | exact hq9 | apply List.mem_cons_of_mem)))
  (k_with "call builtin:len" => ((with_reducible show wpAny _ _ (call (Value.builtin "len") [Value.ref _]) _ _ _); k_dflt (refine' lenLed (by k_asm) (by walk_at "inrest") (by first | walk_at "lenfit" | (simp only [List.length_replicate]; omega)) ?_)))
  (k_with "exec FunctionDef" => (k_here; kn_here; k_dflt (refine' nestDef_K (by exact rfl) (by exact rfl) (by exact rfl) ?_); k_dflt (refine' nestTab (by k_asm) (by k_asm) (by k_asm) (by kn_code) (by exact rfl) (by k_updF) (by assumption) (by walk_at "sub") (by walk_at "AllLt") (List.mem_cons_self ..) (by exact rfl) ?_; k_whole); intro f' c' oc' vs' t' ct' dc' h' tk' ps' F' N' d1' d2' tc' hin' l1 l2; have hin2 := hin'.imp And.right And.right; (try dsimp only at N'); (try k_lt2 l1); (try k_lt l2)))
  (k_with "strB" => first | assumption | exact (Nat.le_of_ble_eq_true rfl) | (simp only [StrB, List.length_append, List.length_cons, List.length_nil] at *; omega))
  (k_with "subscriptTail" => (k_here; (with_reducible show wpAny _ _ (subscriptTail _ _ (Value.str _ _) (Value.ref _)) _ _ _); k_dflt (first | refine' cut_to (by k_asm) (by k_asm) (by walk_at "strB") (by omega) ?_ | refine' cut_ss (by k_asm) (by k_asm) (by walk_at "strB") (by omega) (by omega) ?_); k_whole; intro h' t' k' F' N'; (try k_sweep)))
  (k_with "call builtin:len" => (k_here; (with_reducible show wpAny _ _ (call (Value.builtin "len") [Value.str _ _]) _ _ _); k_dflt (refine' lenStr (by walk_at "strB") ?_); intro _ _))
  (k_with "binaryOp Add str str" => (k_here; k_dflt (refine' addStr (by walk_at "strB") (by walk_at "strB") ?_); intro _ _))
  (k_with "compareOp Eq str str" => (k_here; k_dflt (first | refine' eqStrB (by walk_at "streq") ?_ | refine' eqStr ?_)))
  (k_with "compareOp NotEq str str" => (k_here; k_dflt (first | refine' neStrB (by walk_at "streq") ?_ | refine' neStr ?_)))
  (k_with "getItem str int" => (k_here; k_dflt (refine' strAt (by walk_at "strB") (by omega) (by walk_at "strat") ?_); intro _))
  (k_with "subscriptTail" => (k_here; (with_reducible show wpAny _ _ (subscriptTail _ _ (Value.str _ _) (Value.int _ _)) _ _ _); k_dflt (refine' strAtT (by walk_at "strB") (by first | omega | assumption) (by walk_at "strat") ?_); k_whole; intro _))
  (k_with "exec While" => (k_here; refine stopI ?_))
  (k_with "exec While Compare" => (k_here; refine stopI ?_))
  (k_with "exec While Compare cons nil" => (k_here; refine stopI ?_))
  (k_with "execs cons" => ((with_reducible refine wpAny_execs_cons ?_); (try k_fold)))
  (k_with "eval Call" => k_fold)
  (k_with "eval BinOp" => k_fold)
  (k_with "isTrue" => k_fold)
  (k_with "isTrue Compare" => k_fold)
  (k_with "isTrue BoolOp" => k_fold)
  (k_with "eval Subscript" => k_fold)
  (k_with "subscriptTail" => k_fold)
  (k_with "compareOp" => k_fold)
  exact ⟨rfl, rfl⟩
noncomputable def lawB : List Stmt := nestB (stQ 73)
noncomputable def lawS : Scope := nestS (stQ 73)
set_option maxRecDepth 100000 in
set_option maxHeartbeats 8000000 in
theorem law_A (w : World) (r : Addr) (vs : List Value) (ns : List Int) (hI : IntsAre vs ns) (hlen : ns.length ≤ 63) (led : Led)
   {rs : List Stmt}
   {p : Program} {loose : List Str} {mean : ExcName → Option Value} {mg mb : Str → Option Value} {dp un : Nat} {gd : Option (List Code)} {fa : Addr} {cd : Value} {outer : List Env} {A₀ : Around} {base h₀ : Heap} {L : Addr} {m : Str → Option Value} {s : Shared} {Q : Flow → Shared → Prop} {E : Value → Shared → Prop}
   (B : Below A₀ base outer h₀) (F : Fr h₀ L s.heap m) (X : (Kq w.params).In h₀) (T : Top p loose mean mg mb h₀) (hd : dp + 60 < recursionLimit) (hu : un + 600 < cLine) (hL : 37 < L)
   (N : News h₀ L s.heap led) (hm : m "script" = some (.ref r)) (hl0 : base.IsList r vs.toArray)
   (next : ∀ (h' : Heap) (tk' : Nat) (m' : Str → Option Value) (cc ru fa1 : Addr) (cv rv fv : List Value) (cs : List Int) (e1 e2 : Nat) (t1 t2 : Tok), Fr h₀ L h' m' →
     News h₀ L h' ((fa1, listOf fv.toArray e2) :: (ru, listOf rv.toArray e1) :: (cc, listOf cv.toArray 0) :: led) → IntsAre cv cs → cs.length = 11 → (∀ c ∈ cs, 0 ≤ c ∧ c < 2 ^ 40) → IntsAre rv (runsF (partsOf (cs.getD 0 0)) 3) → IntsAre fv (factF cs 3) →
     (∀ p ∈ led, p.1 < cc) → cc < ru → ru < fa1 →
     m' "cells" = some (.ref cc) → m' "text" = some (.str (sOf (textF (partsOf (cs.getD 0 0)) cs)) t1) → m' "runs" = some (.ref ru) → m' "factors" = some (.ref fa1) → m' "name" = some (.str (sOf (textF (partsOf (cs.getD 0 0)) cs)) t2) → m' "script" = some (.ref r) →
     wpAny (model LP w) (ktrTop dp un gd "law" lawS L fa cd [("back", L + 1)] outer) (execs rs (envX "law" lawS L fa cd [("back", L + 1)])) Q E { s with heap := h', toks := tk' }) :
   wpAny (model LP w) (ktrTop dp un gd "law" lawS L fa cd [("back", L + 1)] outer) (execs (stN 0 lawB :: stN 1 lawB :: stN 2 lawB :: rs) (envX "law" lawS L fa cd [("back", L + 1)])) Q E s := by
  have mm : MapMark := ⟨⟩
  have hlh : h₀.IsList r vs.toArray := stays_list B.stays hl0
  (k_with "call ref" => (refine stopI ?_))
  (k_with "call builtin:str.replace" => (k_here; k_dflt (refine' replaceQ (by decide) (by decide) (Nat.succ_ne_zero _) (Nat.succ_ne_zero _) (by show @Ne Nat _ _; omega) (by walk_at "strB") ?_); intro _ _))
  (k_with "subscriptTail" => (k_here; (with_reducible show wpAny _ _ (subscriptTail (PySem.Expr.List _ _) _ (Value.ref _) (Value.int _ _)) _ _ _); k_dflt (refine' pickEnd (by k_asm) (by walk_at "inrest") (by decide) (by decide) (by decide) (by exact (fm3 _).1) (by exact (fm3 _).2) ?_); intro e7 _ he7 hl7))
  (conv in stN 0 lawB => whnf)
  (conv in stN 1 lawB => whnf)
  (conv in stN 2 lawB => whnf)
  (conv in (occs := *) lawS => all_goals whnf)
  k_steps
  unfold Stop
  k_dflt refine' ctUseN N (cells_ct _ _ _ ns hI hlen _) B F X T (by exact rfl) hl0 (by omega) (by omega) ?_
  intro v nw h' tk' hp F' N'
  obtain ⟨cc, cv, cs, hv, hnw, hics, hcl, hcb, lcc⟩ := hp
  subst hv hnw
  k_steps
  unfold Stop
  rename News _ _ _ _ => N2
  k_dflt refine' ctUseN N2 (drawn_ct _ _ _ _ cs _ (by k_mem) hics hcl hcb) B (by k_asm) X T (by exact rfl) trivial (by omega) (by omega) ?_
  intro v nw h' tk' hp F' N'
  obtain ⟨q1, t1, ru, fa1, e1, e2, rv, fv, hv, hnw, hrv, hfv, lru, lfa, lq1⟩ := hp
  subst hv hnw
  have hpl : ∀ k, k < 3 → (pieceF (partsOf (cs.getD 0 0)) cs k).length ≤ 30 := pieceLen (cs.getD 0 0) cs
  obtain ⟨pp, hpp⟩ : ∃ pp, pp = partsOf (cs.getD 0 0) := ⟨_, rfl⟩
  rw [← hpp] at hpl hrv N'
  have htx : (textF pp cs).length ≤ 92 := by
    have := hpl 0 (by decide); have := hpl 1 (by decide); have := hpl 2 (by decide)
    unfold textF
    simp only [List.length_append, List.length_cons]
    omega
  have htb : StrB (textF pp cs) := Nat.le_trans htx (by decide)
  have hdb : (StrLaws.dbl 34 (textF pp cs)).length ≤ 184 := Nat.le_trans (dblLen _) (by omega)
  have hA1 : cpsOfBytes 0 0 "257 \"".toByteArray.data.toList = [50, 53, 55, 32, 34] := rfl
  have hA2 : cpsOfBytes 0 0 "\"".toByteArray.data.toList = [34] := rfl
  have hSB0 : StrB (cpsOfBytes 0 0 "257 \"".toByteArray.data.toList) := by rw [hA1]; exact Nat.le_of_ble_eq_true rfl
  have hSB3 : StrB (cpsOfBytes 0 0 "\"".toByteArray.data.toList) := by rw [hA2]; exact Nat.le_of_ble_eq_true rfl
  have hSB4 : StrB (StrLaws.dbl 34 (textF pp cs)) := Nat.le_trans hdb (by decide)
  have hSB1 : StrB (cpsOfBytes 0 0 "257 \"".toByteArray.data.toList ++ StrLaws.dbl 34 (textF pp cs)) := by rw [hA1]; unfold StrB; rw [List.length_append]; exact Nat.le_trans (Nat.add_le_add_left hdb _) (by decide)
  have hSB2 : StrB ((cpsOfBytes 0 0 "257 \"".toByteArray.data.toList ++ StrLaws.dbl 34 (textF pp cs)) ++ cpsOfBytes 0 0 "\"".toByteArray.data.toList) := by rw [hA1, hA2]; unfold StrB; rw [List.length_append, List.length_append]; exact Nat.le_trans (Nat.add_le_add_right (Nat.add_le_add_left hdb _) _) (by decide)
  (k_with "strB" => first | with_reducible assumption | with_reducible exact Nat.le_trans hl7 (by decide))
  (try k_fold)
  k_steps
  unfold Stop
  have hrs : ((cpsOfBytes 0 0 "257 \"".toByteArray.data.toList ++ StrLaws.dbl 34 (textF pp cs)) ++ cpsOfBytes 0 0 "\"".toByteArray.data.toList) ++ e7 = [50, 53, 55, 32, 34] ++ StrLaws.dbl 34 (textF pp cs) ++ 34 :: e7 := by
    rw [hA1, hA2, List.append_assoc, List.append_assoc]; rfl
  rename News _ _ _ _ => N4
  k_dflt refine' ctUseN N4 (parse257_ct w _ (textF pp cs) e7 _ _ hrs he7 (Nat.le_trans htx (by decide)) (Nat.le_trans hl7 (by decide))) B (by k_asm) X T (by exact rfl) trivial (by omega) (by omega) ?_
  intro v nw h' tk' hp F' N'
  obtain ⟨t2, hv, hnw⟩ := hp
  subst hv hnw
  k_steps
  rename News _ _ _ _ => N5
  exact next _ _ _ cc ru fa1 cv rv fv cs e1 e2 _ _ (by k_asm) (fun p hp => N5 p (by
    rcases List.mem_cons.mp hp with q | hp
    · exact q ▸ .tail _ (.tail _ (.head _))
    · rcases List.mem_cons.mp hp with q | hp
      · exact q ▸ .tail _ (.tail _ (.tail _ (.head _)))
      · exact .tail _ (.tail _ (.tail _ (.tail _ hp))))) hics hcl hcb (by rw [← hpp]; exact hrv) hfv lcc (lru _ (.head _)) lfa rfl (by rw [← hpp]; rfl) rfl rfl (by rw [← hpp]; rfl) (by walk_at "mlook")
end
section
example (w : World) : (rwQ = rwQ) ∧ (Kq w.params = Kq w.params) := by
  k_with_none
  k_fill
  (k_with "B" => k_asm)
  (k_with "K" => first | exact rfl | assumption)
  (k_with "C" => first | assumption | trivial)
  (k_with "D" => first | (change dp + 1 + _ < _; omega) | omega | ktr_room)
  (k_with "U" => first | (change un + 3 + _ < _; omega) | omega | ktr_units)
  (k_with "call builtin:divmod" => ((with_reducible show wpAny _ _ (call (Value.builtin _) [Value.int _ _, Value.int _ _]) _ _ _); (rename SmallDiv _ => hSd); refine divmod_N (by assumption) (by assumption) (by assumption) ?_ (Or.inl (PyProof.noPylong_of_log2 hSd)); intro _ _ _))
  (k_with "binaryOp FloorDiv int int" => ((rename SmallDiv _ => hSd); refine floordiv_sd hSd (by first | assumption | omega) ?_))
  (k_with "AllLt" => first | assumption | exact And.right (by assumption) | exact And.right (And.right (by assumption)) | exact And.right (And.right (And.right (by assumption))) | exact And.right (And.right (And.right (And.right (by assumption)))) | exact And.right (And.right (And.right (And.right (And.right (by assumption))))) | exact And.right (And.right (And.right (And.right (And.right (And.right (by assumption)))))) | exact And.right (And.right (And.right (And.right (And.right (And.right (And.right (by assumption)))))))  | exact And.right (And.right (And.right (And.right (And.right (And.right (And.right (And.right (by assumption)))))))))
  (k_with "k_all" => first | with_reducible assumption | exact allNe0 (by walk_at "AllLt") | exact allNe1 (by walk_at "AllLt") | exact allNe2 (by walk_at "AllLt") | exact allNe3 (by walk_at "AllLt") | exact List.forall_mem_nil _ | (refine' List.forall_mem_cons.mpr ⟨?_, ?_⟩; (focus k_ne); k_all))
  (k_with "binaryOp Mult ref int" => (k_here; (rename CntOk _ => hCo); k_dflt (refine' mulRep (by k_asm) (by k_asm) (by k_mem) hCo ?_); k_whole; intro l' h' F' N' l1; (try k_lt l1); (try k_sweep)))
  (k_with "enter" => (refine wpAny_call ?_; k_dflt cell_enter))
  (k_with "enter C" => (refine wpAny_call ?_; k_dflt ((refine' code_defC (by k_asm) (by k_asm) (by k_asm) (by k_asm) (by k_asm) (by exact rfl) (by exact rfl) (by assumption) (by k_is) (by k_is) (by ktr_room) (by exact BindsTo.of_eq rfl) (by exact rfl) (by decide +kernel) ?_ (by exact rfl) (by exact rfl) (by exact rfl)); k_whole; intro g' L' h' tk' cells' FG' F' N' Y' B' X' T' l1; (try k_lt l1); k_cells Y'; (try simp only [List.cons_append, List.nil_append] at N'); (try dsimp only); (try k_lift B'); (try k_fold))))
  (k_with "enter N" => (refine wpAny_call ?_; k_dflt (refine' code_nest (by k_asm) (by k_asm) (by k_asm) (by k_asm) (by k_asm) (by exact rfl) (by exact rfl) (by assumption) (by walk_at "inrest") (codeRec_news (by k_asm) (by walk_at "inrest") (by assumption) (by assumption)) (by ktr_room) (by exact BindsTo.of_eq rfl) (by exact locs rfl) ?_ (by exact rfl) (by exact rfl) (by exact rfl) (by decide); k_whole; intro g' L' h' FG' F' N' B' X' T'; (try dsimp only); (try k_lift B'))))
  (k_with "eval Name" => (k_here; kc_free; k_dflt (refine' nameX_F (by k_asm) (by exact rfl) (by walk_at "inrest") (by with_reducible assumption) ?_ (by exact rfl) (by exact rfl)); k_whole))
  (k_with "inrest" => first | with_reducible assumption | exact List.mem_cons_self .. | assumption | (refine List.mem_cons_of_mem _ ?_; walk_at "inrest"))
  (k_with "FnAt" => (k_dflt (exact FnAt.of (by k_asm) (by walk_at "inrest"))))
  (k_with "callWith ref" => (k_here; kn_here; k_dflt (first
    | (refine' callWith_F (FnAt.of (by k_asm) (by walk_at "inrest")) ?_; k_whole)
    | (refine' callWith_F0 (FnAt.of (by k_asm) (by walk_at "inrest")) ?_; k_whole; try dsimp only [List.nil_append, List.cons_append]))))
  (k_with "mulok" => first | assumption | exact PySem.IntMulOk.of_left (bits64 (by omega)) | exact PySem.IntMulOk.of_right (bits64 (by omega)))
  (k_with "binaryOp Mult int int" => (k_here; k_dflt (refine mul_int ?_ (by walk_at "mulok"))))
  (k_with "setItem ref int" => (k_here; (with_reducible show wpAny _ _ (setItem (Value.ref _) (Value.int _ _) (Value.int _ _)) _ _ _); k_dflt (refine' ksa_set (by k_asm) (by k_asm) (by k_upd) (by with_reducible assumption) (by omega) (by omega) (by omega) ?_); k_whole; intro h' F' N' hi' hl' hs'; (try k_sweep)))
  (k_with "nn" => first | omega | ((rename ShB _ => hShB); exact (hShB _ (by omega) (by omega)).1))
  (k_with "lsz" => ((rename ShB _ => hShB); (rename BitsB _ => hBB); first | exact lsz_of (BitsB.fdiv _ hBB) (hShB _ (by omega) (by omega)).2 | exact lsz_of hBB (hShB _ (by omega) (by omega)).2))
  (k_with "binaryOp RShift int int" => (k_here; k_dflt (refine rshift_int (by walk_at "nn") ?_)))
  (k_with "binaryOp RShift int int" => (k_here; with_reducible refine rshift1 ?_))
  (k_with "binaryOp LShift int int" => (k_here; k_dflt (refine lshift_int (by walk_at "nn") (by walk_at "lsz") ?_)))
  (k_with "truthy ref" => (k_dflt (refine' truthyLed (by k_asm) (by walk_at "inrest") (by walk_at "lenfit") ?_); intro _))
  (k_with "lenfit" => first | omega | ((have hl9 := IntsAre.length (by assumption)); (try simp only [List.length_map, List.length_replicate] at *); omega))
  (k_with "subscriptTail" => (k_here; (with_reducible show wpAny _ _ (subscriptTail _ _ (Value.ref _) (Value.int _ _)) _ _ _); k_dflt (refine' ksa_sub (by k_asm) (by walk_at "inrest") (by with_reducible assumption) (by omega) (by first | omega | (rw [List.length_map]; omega)) (by omega) ?_ (by with_unfolding_all rfl)); intro _))
  (k_with "call builtin:list.append" => (k_here; k_dflt (refine' appendLed (by k_asm) (by k_asm) (by k_upd) (by walk_at "lenfit") ?_; k_whole); intro h' F' N'; (try k_sweep)))
  (k_with "call builtin:list.reverse" => (k_here; k_dflt (refine' reverseLed (by k_asm) (by k_asm) (by k_upd) (by walk_at "lenfit") ?_; k_whole); intro h' F' N'; (try k_sweep)))
  (k_with "call type:reversed" => (k_here; (with_reducible show wpAny _ _ (call (Value.type _) [Value.ref _]) _ _ _); k_dflt (refine' krv_reversed (by k_asm) (by k_asm) (News.isList (by k_asm) (by walk_at "inrest")) ?_); intro D' h' F' N' lrev; have l1 := lrev; (try k_lt l1); (try k_sweep)))
  (k_with "mlook" => first | with_reducible assumption | exact if_pos rfl | exact rfl | (refine (if_neg (by decide)).trans ?_; walk_at "mlook"))
  (k_with "eval Name" => (k_here; (rename MapMark => hMM); k_dflt (refine' nameX_L (by k_asm) (by walk_at "mlook") ?_ (by rfl) (by rfl)); k_whole))
  (k_with "newList" => (k_here; (with_reducible refine' newList_K (by k_asm) (by k_asm) ?_ (by exact Nat.le_of_ble_eq_true rfl)); k_whole; intro l' h' F' N' lnew; have l1 := lnew; (try k_lt l1); (try k_sweep)))
  (k_with "lsz" => ((rename BitsB _ => hBB); exact lsz_of hBB (by omega)))
  (k_with "newTuple" => (k_here; k_dflt (refine' newTupLed (by k_asm) (by k_asm) (by exact Nat.le_of_ble_eq_true rfl) ?_; k_whole); intro q' h' F' N' ltup; have l1 := ltup; (try k_lt l1); (try k_sweep)))
  (k_with "pick" => first | exact Pick.head | (apply Pick.tail; walk_at "pick"))
  (k_with "sub" => (intro q9 hq9; repeat (first | exact hsub0 _ hq9 | exact hq9 | apply List.mem_cons_of_mem)))
  (k_with "call builtin:len" => ((with_reducible show wpAny _ _ (call (Value.builtin "len") [Value.ref _]) _ _ _); k_dflt (refine' lenLed (by k_asm) (by walk_at "inrest") (by first | walk_at "lenfit" | (simp only [List.length_replicate]; omega)) ?_)))
  (k_with "exec FunctionDef" => (k_here; kn_here; k_dflt (refine' nestDef_K (by exact rfl) (by exact rfl) (by exact rfl) ?_); k_dflt (refine' nestTab (by k_asm) (by k_asm) (by k_asm) (by kn_code) (by exact rfl) (by k_updF) (by assumption) (by walk_at "sub") (by walk_at "AllLt") (List.mem_cons_self ..) (by exact rfl) ?_; k_whole); intro f' c' oc' vs' t' ct' dc' h' tk' ps' F' N' d1' d2' tc' hin' l1 l2; have hin2 := hin'.imp And.right And.right; (try dsimp only at N'); (try k_lt2 l1); (try k_lt l2)))
  (k_with "strB" => first | assumption | exact (Nat.le_of_ble_eq_true rfl) | (simp only [StrB, List.length_append, List.length_cons, List.length_nil] at *; omega))
  (k_with "subscriptTail" => (k_here; (with_reducible show wpAny _ _ (subscriptTail _ _ (Value.str _ _) (Value.ref _)) _ _ _); k_dflt (first | refine' cut_to (by k_asm) (by k_asm) (by walk_at "strB") (by omega) ?_ | refine' cut_ss (by k_asm) (by k_asm) (by walk_at "strB") (by omega) (by omega) ?_); k_whole; intro h' t' k' F' N'; (try k_sweep)))
  (k_with "call builtin:len" => (k_here; (with_reducible show wpAny _ _ (call (Value.builtin "len") [Value.str _ _]) _ _ _); k_dflt (refine' lenStr (by walk_at "strB") ?_); intro _ _))
  (k_with "binaryOp Add str str" => (k_here; k_dflt (refine' addStr (by walk_at "strB") (by walk_at "strB") ?_); intro _ _))
  (k_with "compareOp Eq str str" => (k_here; k_dflt (first | refine' eqStrB (by walk_at "streq") ?_ | refine' eqStr ?_)))
  (k_with "compareOp NotEq str str" => (k_here; k_dflt (first | refine' neStrB (by walk_at "streq") ?_ | refine' neStr ?_)))
  (k_with "getItem str int" => (k_here; k_dflt (refine' strAt (by walk_at "strB") (by omega) (by walk_at "strat") ?_); intro _))
  (k_with "subscriptTail" => (k_here; (with_reducible show wpAny _ _ (subscriptTail _ _ (Value.str _ _) (Value.int _ _)) _ _ _); k_dflt (refine' strAtT (by walk_at "strB") (by first | omega | assumption) (by walk_at "strat") ?_); k_whole; intro _))
  (k_with "exec While" => (k_here; refine stopI ?_))
  (k_with "exec While Compare" => (k_here; refine stopI ?_))
  (k_with "exec While Compare cons nil" => (k_here; refine stopI ?_))
  (k_with "execs cons" => ((with_reducible refine wpAny_execs_cons ?_); (try k_fold)))
  (k_with "eval Call" => k_fold)
  (k_with "eval BinOp" => k_fold)
  (k_with "isTrue" => k_fold)
  (k_with "isTrue Compare" => k_fold)
  (k_with "isTrue BoolOp" => k_fold)
  (k_with "eval Subscript" => k_fold)
  (k_with "subscriptTail" => k_fold)
  (k_with "compareOp" => k_fold)
  exact ⟨rfl, rfl⟩
set_option maxRecDepth 100000 in
set_option maxHeartbeats 8000000 in
theorem law_C (w : World) (cs : List Int) (pp : List Int) (hpz : ∀ k : Nat, k < 3 → 1 ≤ pp.getD k 0 ∧ pp.getD k 0 + 2 ≤ pp.sum) (hps : pp.sum ≤ 7) (rv fv : List Value) (e1 e2 : Nat) (t1 t2 : Tok) (ru fa1 : Addr) (led : Led) (hrv : IntsAre rv (runsF pp 3)) (hfv : IntsAre fv (factF cs 3)) (htx : (textF pp cs).length ≤ 92)
   {rs : List Stmt}
   {p : Program} {loose : List Str} {mean : ExcName → Option Value} {mg mb : Str → Option Value} {dp un : Nat} {gd : Option (List Code)} {fa : Addr} {cd : Value} {outer : List Env} {A₀ : Around} {base h₀ : Heap} {L : Addr} {m : Str → Option Value} {s : Shared} {Q : Flow → Shared → Prop} {E : Value → Shared → Prop}
   (B : Below A₀ base outer h₀) (F : Fr h₀ L s.heap m) (X : (Kq w.params).In h₀) (T : Top p loose mean mg mb h₀) (hd : dp + 60 < recursionLimit) (hu : un + 600 < cLine) (hL : 37 < L)
   (N : News h₀ L s.heap ((fa1, listOf fv.toArray e2) :: (ru, listOf rv.toArray e1) :: led)) (hmx : m "text" = some (.str (sOf (textF pp cs)) t1)) (hmr : m "runs" = some (.ref ru)) (hmf : m "factors" = some (.ref fa1)) (hmn : m "name" = some (.str (sOf (textF pp cs)) t2))
   (next : ∀ (h' : Heap) (tk' : Nat) (tr nr : Addr) (tv nv : List Value) (f1 f2 : Nat), Fr h₀ L h' (fun y => if y = "numbers" then some (.ref nr) else if y = "told" then some (.ref tr) else m y) →
     News h₀ L h' ((nr, listOf nv.toArray f2) :: (tr, listOf tv.toArray f1) :: led) → IntsAre tv (runsF pp 3) → IntsAre nv (numF cs) → (∀ p ∈ led, p.1 < tr) → tr < nr →
     wpAny (model LP w) (ktrTop dp un gd "law" lawS L fa cd [("back", L + 1)] outer) (execs rs (envX "law" lawS L fa cd [("back", L + 1)])) Q E { s with heap := h', toks := tk' }) :
   wpAny (model LP w) (ktrTop dp un gd "law" lawS L fa cd [("back", L + 1)] outer) (execs (stN 3 lawB :: stN 4 lawB :: rs) (envX "law" lawS L fa cd [("back", L + 1)])) Q E s := by
  have mm : MapMark := ⟨⟩
  have hsy := symsText (cs := cs) hpz
  have hru := ruleText (cs := cs) hpz
  have htl : (tokF pp cs ++ [0]).length ≤ 200 := by
    have := symsLen hsy
    rw [List.length_append]; exact Nat.le_trans (Nat.add_le_add_right this _) (Nat.le_trans (Nat.add_le_add_right htx _) (by decide))
  have hfl : (factF cs 3).length = 3 := rfl
  (k_with "call ref" => (refine stopI ?_))
  (k_with "streq" => exact beq_self_eq_true _)
  (k_with "compareOp NotEq ref ref" => (k_here; k_dflt (first | refine' neSame (by k_asm) (by walk_at "inrest") (by walk_at "inrest") (by with_reducible assumption) (by with_reducible assumption) rfl (by omega) ?_ | refine' neSame (by k_asm) (by walk_at "inrest") (by walk_at "inrest") (by with_reducible assumption) (by repeat (first | exact .nil | refine .cons _ _ ?_)) rfl (by omega) ?_)))
  (conv in stN 3 lawB => whnf)
  (conv in stN 4 lawB => whnf)
  (conv in (occs := *) lawS => all_goals whnf)
  k_steps
  unfold Stop
  k_dflt refine' ctUseN N (symbols_ct w _ _ hsy (Nat.le_trans htx (by decide)) _ _) B F X T (by exact rfl) trivial (by omega) (by omega) ?_
  intro v nw h' tk' hp F' N'
  obtain ⟨q, sv, e, hv, hnw, hsv, lq⟩ := hp
  subst hv hnw
  k_steps
  unfold Stop
  rename News _ _ _ _ => N2
  k_dflt refine' ctUseN N2 (rule_ct w q e sv _ _ _ hru hsv htl _ (List.mem_cons_self ..)) B (by k_asm) X T (by exact rfl) trivial (by omega) (by omega) ?_
  intro v nw h' tk' hp F' N'
  obtain ⟨q2, tr, nr, tv, nv, f1, f2, hv, hnw, htv, hnv, ltr, ltn, lq2⟩ := hp
  subst hv hnw
  k_steps
  all_goals first
    | (rename ¬ _ => hno; exact absurd rfl hno)
    | (rename News _ _ _ _ => N5
       exact next _ _ tr nr tv nv f1 f2 (by k_asm) (fun p hp => N5 p (lawCsub hp)) htv hnv (fun p hp => ltr p (.tail _ (.tail _ (.tail _ hp)))) ltn)
end
section
example (w : World) : (rwQ = rwQ) ∧ (Kq w.params = Kq w.params) := by
  k_with_none
  k_fill
  (k_with "B" => k_asm)
  (k_with "K" => first | exact rfl | assumption)
  (k_with "C" => first | assumption | trivial)
  (k_with "D" => first | (change dp + 1 + _ < _; omega) | omega | ktr_room)
  (k_with "U" => first | (change un + 3 + _ < _; omega) | omega | ktr_units)
  (k_with "call builtin:divmod" => ((with_reducible show wpAny _ _ (call (Value.builtin _) [Value.int _ _, Value.int _ _]) _ _ _); (rename SmallDiv _ => hSd); refine divmod_N (by assumption) (by assumption) (by assumption) ?_ (Or.inl (PyProof.noPylong_of_log2 hSd)); intro _ _ _))
  (k_with "binaryOp FloorDiv int int" => ((rename SmallDiv _ => hSd); refine floordiv_sd hSd (by first | assumption | omega) ?_))
  (k_with "AllLt" => first | assumption | exact And.right (by assumption) | exact And.right (And.right (by assumption)) | exact And.right (And.right (And.right (by assumption))) | exact And.right (And.right (And.right (And.right (by assumption)))) | exact And.right (And.right (And.right (And.right (And.right (by assumption))))) | exact And.right (And.right (And.right (And.right (And.right (And.right (by assumption)))))) | exact And.right (And.right (And.right (And.right (And.right (And.right (And.right (by assumption)))))))  | exact And.right (And.right (And.right (And.right (And.right (And.right (And.right (And.right (by assumption)))))))))
  (k_with "k_all" => first | with_reducible assumption | exact allNe0 (by walk_at "AllLt") | exact allNe1 (by walk_at "AllLt") | exact allNe2 (by walk_at "AllLt") | exact allNe3 (by walk_at "AllLt") | exact List.forall_mem_nil _ | (refine' List.forall_mem_cons.mpr ⟨?_, ?_⟩; (focus k_ne); k_all))
  (k_with "binaryOp Mult ref int" => (k_here; (rename CntOk _ => hCo); k_dflt (refine' mulRep (by k_asm) (by k_asm) (by k_mem) hCo ?_); k_whole; intro l' h' F' N' l1; (try k_lt l1); (try k_sweep)))
  (k_with "enter" => (refine wpAny_call ?_; k_dflt cell_enter))
  (k_with "enter C" => (refine wpAny_call ?_; k_dflt ((refine' code_defC (by k_asm) (by k_asm) (by k_asm) (by k_asm) (by k_asm) (by exact rfl) (by exact rfl) (by assumption) (by k_is) (by k_is) (by ktr_room) (by exact BindsTo.of_eq rfl) (by exact rfl) (by decide +kernel) ?_ (by exact rfl) (by exact rfl) (by exact rfl)); k_whole; intro g' L' h' tk' cells' FG' F' N' Y' B' X' T' l1; (try k_lt l1); k_cells Y'; (try simp only [List.cons_append, List.nil_append] at N'); (try dsimp only); (try k_lift B'); (try k_fold))))
  (k_with "enter N" => (refine wpAny_call ?_; k_dflt (refine' code_nest (by k_asm) (by k_asm) (by k_asm) (by k_asm) (by k_asm) (by exact rfl) (by exact rfl) (by assumption) (by walk_at "inrest") (codeRec_news (by k_asm) (by walk_at "inrest") (by assumption) (by assumption)) (by ktr_room) (by exact BindsTo.of_eq rfl) (by exact locs rfl) ?_ (by exact rfl) (by exact rfl) (by exact rfl) (by decide); k_whole; intro g' L' h' FG' F' N' B' X' T'; (try dsimp only); (try k_lift B'))))
  (k_with "eval Name" => (k_here; kc_free; k_dflt (refine' nameX_F (by k_asm) (by exact rfl) (by walk_at "inrest") (by with_reducible assumption) ?_ (by exact rfl) (by exact rfl)); k_whole))
  (k_with "inrest" => first | with_reducible assumption | exact List.mem_cons_self .. | assumption | (refine List.mem_cons_of_mem _ ?_; walk_at "inrest"))
  (k_with "FnAt" => (k_dflt (exact FnAt.of (by k_asm) (by walk_at "inrest"))))
  (k_with "callWith ref" => (k_here; kn_here; k_dflt (first
    | (refine' callWith_F (FnAt.of (by k_asm) (by walk_at "inrest")) ?_; k_whole)
    | (refine' callWith_F0 (FnAt.of (by k_asm) (by walk_at "inrest")) ?_; k_whole; try dsimp only [List.nil_append, List.cons_append]))))
  (k_with "mulok" => first | assumption | exact PySem.IntMulOk.of_left (bits64 (by omega)) | exact PySem.IntMulOk.of_right (bits64 (by omega)))
  (k_with "binaryOp Mult int int" => (k_here; k_dflt (refine mul_int ?_ (by walk_at "mulok"))))
  (k_with "setItem ref int" => (k_here; (with_reducible show wpAny _ _ (setItem (Value.ref _) (Value.int _ _) (Value.int _ _)) _ _ _); k_dflt (refine' ksa_set (by k_asm) (by k_asm) (by k_upd) (by with_reducible assumption) (by omega) (by omega) (by omega) ?_); k_whole; intro h' F' N' hi' hl' hs'; (try k_sweep)))
  (k_with "nn" => first | omega | ((rename ShB _ => hShB); exact (hShB _ (by omega) (by omega)).1))
  (k_with "lsz" => ((rename ShB _ => hShB); (rename BitsB _ => hBB); first | exact lsz_of (BitsB.fdiv _ hBB) (hShB _ (by omega) (by omega)).2 | exact lsz_of hBB (hShB _ (by omega) (by omega)).2))
  (k_with "binaryOp RShift int int" => (k_here; k_dflt (refine rshift_int (by walk_at "nn") ?_)))
  (k_with "binaryOp RShift int int" => (k_here; with_reducible refine rshift1 ?_))
  (k_with "binaryOp LShift int int" => (k_here; k_dflt (refine lshift_int (by walk_at "nn") (by walk_at "lsz") ?_)))
  (k_with "truthy ref" => (k_dflt (refine' truthyLed (by k_asm) (by walk_at "inrest") (by walk_at "lenfit") ?_); intro _))
  (k_with "lenfit" => first | omega | ((have hl9 := IntsAre.length (by assumption)); (try simp only [List.length_map, List.length_replicate] at *); omega))
  (k_with "subscriptTail" => (k_here; (with_reducible show wpAny _ _ (subscriptTail _ _ (Value.ref _) (Value.int _ _)) _ _ _); k_dflt (refine' ksa_sub (by k_asm) (by walk_at "inrest") (by with_reducible assumption) (by omega) (by first | omega | (rw [List.length_map]; omega)) (by omega) ?_ (by with_unfolding_all rfl)); intro _))
  (k_with "call builtin:list.append" => (k_here; k_dflt (refine' appendLed (by k_asm) (by k_asm) (by k_upd) (by walk_at "lenfit") ?_; k_whole); intro h' F' N'; (try k_sweep)))
  (k_with "call builtin:list.reverse" => (k_here; k_dflt (refine' reverseLed (by k_asm) (by k_asm) (by k_upd) (by walk_at "lenfit") ?_; k_whole); intro h' F' N'; (try k_sweep)))
  (k_with "call type:reversed" => (k_here; (with_reducible show wpAny _ _ (call (Value.type _) [Value.ref _]) _ _ _); k_dflt (refine' krv_reversed (by k_asm) (by k_asm) (News.isList (by k_asm) (by walk_at "inrest")) ?_); intro D' h' F' N' lrev; have l1 := lrev; (try k_lt l1); (try k_sweep)))
  (k_with "mlook" => first | with_reducible assumption | exact if_pos rfl | exact rfl | (refine (if_neg (by decide)).trans ?_; walk_at "mlook"))
  (k_with "eval Name" => (k_here; (rename MapMark => hMM); k_dflt (refine' nameX_L (by k_asm) (by walk_at "mlook") ?_ (by rfl) (by rfl)); k_whole))
  (k_with "newList" => (k_here; (with_reducible refine' newList_K (by k_asm) (by k_asm) ?_ (by exact Nat.le_of_ble_eq_true rfl)); k_whole; intro l' h' F' N' lnew; have l1 := lnew; (try k_lt l1); (try k_sweep)))
  (k_with "lsz" => ((rename BitsB _ => hBB); exact lsz_of hBB (by omega)))
  (k_with "newTuple" => (k_here; k_dflt (refine' newTupLed (by k_asm) (by k_asm) (by exact Nat.le_of_ble_eq_true rfl) ?_; k_whole); intro q' h' F' N' ltup; have l1 := ltup; (try k_lt l1); (try k_sweep)))
  (k_with "pick" => first | exact Pick.head | (apply Pick.tail; walk_at "pick"))
  (k_with "sub" => (intro q9 hq9; repeat (first | exact hsub0 _ hq9 | exact hq9 | apply List.mem_cons_of_mem)))
  (k_with "call builtin:len" => ((with_reducible show wpAny _ _ (call (Value.builtin "len") [Value.ref _]) _ _ _); k_dflt (refine' lenLed (by k_asm) (by walk_at "inrest") (by first | walk_at "lenfit" | (simp only [List.length_replicate]; omega)) ?_)))
  (k_with "exec FunctionDef" => (k_here; kn_here; k_dflt (refine' nestDef_K (by exact rfl) (by exact rfl) (by exact rfl) ?_); k_dflt (refine' nestTab (by k_asm) (by k_asm) (by k_asm) (by kn_code) (by exact rfl) (by k_updF) (by assumption) (by walk_at "sub") (by walk_at "AllLt") (List.mem_cons_self ..) (by exact rfl) ?_; k_whole); intro f' c' oc' vs' t' ct' dc' h' tk' ps' F' N' d1' d2' tc' hin' l1 l2; have hin2 := hin'.imp And.right And.right; (try dsimp only at N'); (try k_lt2 l1); (try k_lt l2)))
  (k_with "strB" => first | assumption | exact (Nat.le_of_ble_eq_true rfl) | (simp only [StrB, List.length_append, List.length_cons, List.length_nil] at *; omega))
  (k_with "subscriptTail" => (k_here; (with_reducible show wpAny _ _ (subscriptTail _ _ (Value.str _ _) (Value.ref _)) _ _ _); k_dflt (first | refine' cut_to (by k_asm) (by k_asm) (by walk_at "strB") (by omega) ?_ | refine' cut_ss (by k_asm) (by k_asm) (by walk_at "strB") (by omega) (by omega) ?_); k_whole; intro h' t' k' F' N'; (try k_sweep)))
  (k_with "call builtin:len" => (k_here; (with_reducible show wpAny _ _ (call (Value.builtin "len") [Value.str _ _]) _ _ _); k_dflt (refine' lenStr (by walk_at "strB") ?_); intro _ _))
  (k_with "binaryOp Add str str" => (k_here; k_dflt (refine' addStr (by walk_at "strB") (by walk_at "strB") ?_); intro _ _))
  (k_with "compareOp Eq str str" => (k_here; k_dflt (first | refine' eqStrB (by walk_at "streq") ?_ | refine' eqStr ?_)))
  (k_with "compareOp NotEq str str" => (k_here; k_dflt (first | refine' neStrB (by walk_at "streq") ?_ | refine' neStr ?_)))
  (k_with "getItem str int" => (k_here; k_dflt (refine' strAt (by walk_at "strB") (by omega) (by walk_at "strat") ?_); intro _))
  (k_with "subscriptTail" => (k_here; (with_reducible show wpAny _ _ (subscriptTail _ _ (Value.str _ _) (Value.int _ _)) _ _ _); k_dflt (refine' strAtT (by walk_at "strB") (by first | omega | assumption) (by walk_at "strat") ?_); k_whole; intro _))
  (k_with "exec While" => (k_here; refine stopI ?_))
  (k_with "exec While Compare" => (k_here; refine stopI ?_))
  (k_with "exec While Compare cons nil" => (k_here; refine stopI ?_))
  (k_with "execs cons" => ((with_reducible refine wpAny_execs_cons ?_); (try k_fold)))
  (k_with "eval Call" => k_fold)
  (k_with "eval BinOp" => k_fold)
  (k_with "isTrue" => k_fold)
  (k_with "isTrue Compare" => k_fold)
  (k_with "isTrue BoolOp" => k_fold)
  (k_with "eval Subscript" => k_fold)
  (k_with "subscriptTail" => k_fold)
  (k_with "compareOp" => k_fold)
  exact ⟨rfl, rfl⟩
theorem flatOnes {α : Type} (x : α) (n : Nat) : (List.replicate n [x]).flatten = List.replicate n x := by
  induction n with
  | zero => rfl
  | succ n ih => rw [List.replicate_succ, List.replicate_succ, List.flatten_cons, ih]; rfl
theorem lawDsub {led : Led} {a b c d e f g : Addr × Obj} : ∀ {p}, p ∈ a :: c :: d :: e :: f :: g :: led → p ∈ a :: b :: c :: d :: e :: f :: g :: led := fun hp => by
  rcases List.mem_cons.mp hp with q | hp
  · exact q ▸ .head _
  · exact .tail _ (.tail _ hp)
theorem drawnLen {cs : List Int} {k : Int} (h : cs.length = 11) (h4 : 4 ≤ k) (h7 : k ≤ 7) : (drawnF cs k.toNat).length = k.toNat := by
  unfold drawnF
  rw [List.length_map, List.length_take, List.length_drop, h]; omega
theorem drawnAt {cs : List Int} {k n : Nat} (e : k = n) (i : Nat) (h : i < ((cs.drop (Int.toNat 4)).take k).length) : 1 + (((cs.drop (Int.toNat 4)).take k).getD i 0).fmod 9 = (drawnF cs n).getD i 0 := by
  subst e
  unfold drawnF
  rw [List.getD_eq_getElem?_getD, List.getD_eq_getElem?_getD, List.getElem?_map]
  have h' : i < ((cs.drop 4).take k).length := h
  have e' : ((cs.drop (Int.toNat 4)).take k)[i]? = some (((cs.drop 4).take k)[i]) := List.getElem?_eq_getElem h'
  have e2 : ((cs.drop 4).take k)[i]? = some (((cs.drop 4).take k)[i]) := e'
  rw [e', e2]; rfl
set_option maxRecDepth 100000 in
set_option maxHeartbeats 8000000 in
theorem law_D (w : World) (r : Addr) (vs : List Value) (ns : List Int) (hI : IntsAre vs ns) (hlen : ns.length ≤ 63) (cs pp : List Int) (hps : 4 ≤ pp.sum ∧ pp.sum ≤ 7) (cv tv nv : List Value) (f1 f2 : Nat) (cc tr nr : Addr) (oc : Obj) (ov : Option Value) (led : Led)
   (hics : IntsAre cv cs) (hcl : cs.length = 11) (htv : IntsAre tv (runsF pp 3)) (hoc : oc.data = .cell ov)
   {rs : List Stmt}
   {p : Program} {loose : List Str} {mean : ExcName → Option Value} {mg mb : Str → Option Value} {dp un : Nat} {gd : Option (List Code)} {fa : Addr} {cd : Value} {outer : List Env} {A₀ : Around} {base h₀ : Heap} {L : Addr} {m : Str → Option Value} {s : Shared} {Q : Flow → Shared → Prop} {E : Value → Shared → Prop}
   (B : Below A₀ base outer h₀) (F : Fr h₀ L s.heap m) (X : (Kq w.params).In h₀) (T : Top p loose mean mg mb h₀) (hd : dp + 60 < recursionLimit) (hu : un + 600 < cLine) (hL : 37 < L)
   (N : News h₀ L s.heap ((nr, listOf nv.toArray f2) :: (tr, listOf tv.toArray f1) :: (cc, listOf cv.toArray 0) :: (L + 1, oc) :: led)) (hl0 : base.IsList r vs.toArray) (a1 : L + 1 < cc) (a2 : cc < tr) (a3 : tr < nr) (a4 : ∀ p ∈ led, p.1 < L)
   (hmt : m "told" = some (.ref tr)) (hmc : m "cells" = some (.ref cc)) (hms : m "script" = some (.ref r))
   (next : ∀ (h' : Heap) (tk' : Nat) (m' : Str → Option Value) (dr rw1 : Addr) (dv rv : List Value) (g1 g2 : Nat) (oc' : Obj) (t t3 : Tok), Fr h₀ L h' m' →
     News h₀ L h' ((rw1, listOf rv.toArray g2) :: (dr, listOf dv.toArray g1) :: (nr, listOf nv.toArray f2) :: (tr, listOf tv.toArray f1) :: (cc, listOf cv.toArray 0) :: (L + 1, oc') :: led) → oc'.data = .cell (some (.int pp.sum t)) →
     IntsAre dv (drawnF cs pp.sum.toNat) → IntsAre rv (List.replicate pp.sum.toNat 1) → nr < dr → dr < rw1 →
     (∀ y : Str, y ≠ "back" → y ≠ "drawn" → y ≠ "power" → y ≠ "row" → m' y = m y) → m' "drawn" = some (.ref dr) → m' "power" = some (.int (2 ^ (16 + (ns.length : Int).fmod 64).toNat) t3) → m' "row" = some (.ref rw1) →
     wpAny (model LP w) (ktrTop dp un gd "law" lawS L fa cd [("back", L + 1)] outer) (execs rs (envX "law" lawS L fa cd [("back", L + 1)])) Q E { s with heap := h', toks := tk' }) :
   wpAny (model LP w) (ktrTop dp un gd "law" lawS L fa cd [("back", L + 1)] outer) (execs (stN 5 lawB :: stN 6 lawB :: stN 7 lawB :: stN 8 lawB :: rs) (envX "law" lawS L fa cd [("back", L + 1)])) Q E s := by
  have mm : MapMark := ⟨⟩
  have hlh : h₀.IsList r vs.toArray := stays_list B.stays hl0
  have htl : (runsF pp 3).length = 6 := runsF_len _ _
  have hbk : (runsF pp 3).getD (Int.toNat 0) 0 + (runsF pp 3).getD (Int.toNat 1) 0 = pp.sum := by
    show pp.getD 0 0 + (pp.sum - pp.getD 0 0) = pp.sum
    omega
  have b1 := ltN a1
  have b2 := ltN a2
  have b3 := ltN a3
  have hled : ∀ p ∈ led, p.1 ≠ L + 1 := fun p hp => Nat.ne_of_lt (Nat.lt_succ_of_lt (a4 p hp))
  (k_with "call ref" => (refine stopI ?_))
  (k_with "subscriptTail Name Slice ref ref" => (k_here; k_dflt (refine' sliceBoth (by k_asm) (by k_asm) (by walk_at "inrest") (by with_reducible assumption) (by omega) (by omega) (by omega) (by omega) ?_); k_whole; intro D9 ws9 h9 F' N' lz hI9; have l1 := lz; (try k_lt l1); (try k_sweep)))
  (k_with "exec Assign cons ListComp" => (k_here; k_dflt (refine' Assign_ListComp_GN (by k_asm) (by k_asm) (by with_unfolding_all rfl) (by with_unfolding_all rfl) (by decide) (by rfl) (by decide) ?_)))
  (k_with "eval ListComp" => (k_here; k_dflt (refine' ListComp_GN (by k_asm) (by k_asm) (by with_unfolding_all rfl) (by decide) (by rfl) (by decide) ?_)))
  (conv in stN 5 lawB => whnf)
  (conv in stN 6 lawB => whnf)
  (conv in stN 7 lawB => whnf)
  (conv in stN 8 lawB => whnf)
  (conv in (occs := *) lawS => all_goals whnf)
  k_steps
  rename News _ _ h9 _ => N7
  rename Fr _ _ h9 _ => F7
  have e9 : (4 + ((runsF pp 3).getD (Int.toNat 0) 0 + (runsF pp 3).getD (Int.toNat 1) 0) - 4).toNat = pp.sum.toNat := by rw [hbk]; omega
  have hcl9 : (List.take (4 + ((runsF pp 3).getD (Int.toNat 0) 0 + (runsF pp 3).getD (Int.toNat 1) 0) - 4).toNat (List.drop (Int.toNat 4) cs)).length = pp.sum.toNat := by
    rw [List.length_take, List.length_drop, hcl]; omega
  (try dsimp +zetaDelta only)
  refine SrcG.drop (q := (D9, listOf ws9.toArray 0)) ?_
  k_dflt refine' listG (l := D9) (Rl := fun i y _ => ∃ t, y = .int ((drawnF cs pp.sum.toNat).getD i 0) t) (by rfl) F7 N7 (List.mem_cons_self ..) (by rw [hI9.length, hcl9]; omega) (by rfl) (by rfl) ?helt ?hfin
  case helt =>
    intro i v C oC m₂ h tk E' hi hv hoC hx F' N' lC hC hK
    obtain ⟨t, rfl⟩ := intsAtD hI9 i hv
    refine stopQ ?_
    k_steps
    unfold Stop
    refine ⟨_, _, rfl, fun _ _ e => e, fun _ _ => ⟨_, congrArg (fun z => Value.int z _) (drawnAt e9 i (by rw [hI9.length] at hi; exact hi))⟩⟩
  case hfin =>
    intro DL CL ysL h8 tk8 hDL hCL hDCL hg hlen hK hR
    unfold FinS
    intro oC F' N' off lz7
    refine stopU ?_
    k_steps
    unfold Stop
    rename News _ _ _ _ => N8
    refine ⟨_, _, _, _, rfl, by k_asm, newsSwp N8, off, ?_⟩
    clear N8
    intro h6 tk6 F6 N6
    have hID : IntsAre ysL (drawnF cs pp.sum.toNat) := intsOf (by rw [hlen, hI9.length, hcl9, drawnLen hcl hps.1 hps.2]) fun j y e => hR j y e h8 fun _ _ _ _ e => e
    clear hR hg hK off
    have l2 := lz7
    try k_lt l2
    k_steps
    rename News _ _ _ _ => N9
    rename (_ < _) ∧ (DL < _) ∧ _ => l9
    rename IntsAre (List.flatten _) _ => i9
    rename Obj.data _ = _ => od9
    refine next _ _ _ DL _ ysL _ _ 0 _ _ ?t3 (by k_asm) (fun p hp => N9 p (lawDsub hp)) (od9.trans (by rw [hbk])) hID ?g1 (l2.1) (l9.2.1) (fun y y1 y2 y3 y4 => ?g2) ?g3 ?g4 ?g5
    case g4 => rfl
    case g3 => rfl
    case g5 => rfl
    case g1 =>
      have e : List.replicate pp.sum.toNat (1 : Int) = (List.replicate ((runsF pp 3).getD (Int.toNat 0) 0 + (runsF pp 3).getD (Int.toNat 1) 0).toNat [1]).flatten := by
        rw [hbk, flatOnes]
      rw [e]; exact i9
    case g2 => first | (simp only [if_neg y2, if_neg y3, if_neg y4]) | (dsimp only; rw [if_neg y4, if_neg y3, if_neg y2])
end
section
example (w : World) : (rwQ = rwQ) ∧ (Kq w.params = Kq w.params) := by
  k_with_none
  k_fill
  (k_with "B" => k_asm)
  (k_with "K" => first | exact rfl | assumption)
  (k_with "C" => first | assumption | trivial)
  (k_with "D" => first | (change dp + 1 + _ < _; omega) | omega | ktr_room)
  (k_with "U" => first | (change un + 3 + _ < _; omega) | omega | ktr_units)
  (k_with "call builtin:divmod" => ((with_reducible show wpAny _ _ (call (Value.builtin _) [Value.int _ _, Value.int _ _]) _ _ _); (rename SmallDiv _ => hSd); refine divmod_N (by assumption) (by assumption) (by assumption) ?_ (Or.inl (PyProof.noPylong_of_log2 hSd)); intro _ _ _))
  (k_with "binaryOp FloorDiv int int" => ((rename SmallDiv _ => hSd); refine floordiv_sd hSd (by first | assumption | omega) ?_))
  (k_with "AllLt" => first | assumption | exact And.right (by assumption) | exact And.right (And.right (by assumption)) | exact And.right (And.right (And.right (by assumption))) | exact And.right (And.right (And.right (And.right (by assumption)))) | exact And.right (And.right (And.right (And.right (And.right (by assumption))))) | exact And.right (And.right (And.right (And.right (And.right (And.right (by assumption)))))) | exact And.right (And.right (And.right (And.right (And.right (And.right (And.right (by assumption)))))))  | exact And.right (And.right (And.right (And.right (And.right (And.right (And.right (And.right (by assumption)))))))))
  (k_with "k_all" => first | with_reducible assumption | exact allNe0 (by walk_at "AllLt") | exact allNe1 (by walk_at "AllLt") | exact allNe2 (by walk_at "AllLt") | exact allNe3 (by walk_at "AllLt") | exact List.forall_mem_nil _ | (refine' List.forall_mem_cons.mpr ⟨?_, ?_⟩; (focus k_ne); k_all))
  (k_with "binaryOp Mult ref int" => (k_here; (rename CntOk _ => hCo); k_dflt (refine' mulRep (by k_asm) (by k_asm) (by k_mem) hCo ?_); k_whole; intro l' h' F' N' l1; (try k_lt l1); (try k_sweep)))
  (k_with "enter" => (refine wpAny_call ?_; k_dflt cell_enter))
  (k_with "enter C" => (refine wpAny_call ?_; k_dflt ((refine' code_defC (by k_asm) (by k_asm) (by k_asm) (by k_asm) (by k_asm) (by exact rfl) (by exact rfl) (by assumption) (by k_is) (by k_is) (by ktr_room) (by exact BindsTo.of_eq rfl) (by exact rfl) (by decide +kernel) ?_ (by exact rfl) (by exact rfl) (by exact rfl)); k_whole; intro g' L' h' tk' cells' FG' F' N' Y' B' X' T' l1; (try k_lt l1); k_cells Y'; (try simp only [List.cons_append, List.nil_append] at N'); (try dsimp only); (try k_lift B'); (try k_fold))))
  (k_with "enter N" => (refine wpAny_call ?_; k_dflt (refine' code_nest (by k_asm) (by k_asm) (by k_asm) (by k_asm) (by k_asm) (by exact rfl) (by exact rfl) (by assumption) (by walk_at "inrest") (codeRec_news (by k_asm) (by walk_at "inrest") (by assumption) (by assumption)) (by ktr_room) (by exact BindsTo.of_eq rfl) (by exact locs rfl) ?_ (by exact rfl) (by exact rfl) (by exact rfl) (by decide); k_whole; intro g' L' h' FG' F' N' B' X' T'; (try dsimp only); (try k_lift B'))))
  (k_with "eval Name" => (k_here; kc_free; k_dflt (refine' nameX_F (by k_asm) (by exact rfl) (by walk_at "inrest") (by with_reducible assumption) ?_ (by exact rfl) (by exact rfl)); k_whole))
  (k_with "inrest" => first | with_reducible assumption | exact List.mem_cons_self .. | assumption | (refine List.mem_cons_of_mem _ ?_; walk_at "inrest"))
  (k_with "FnAt" => (k_dflt (exact FnAt.of (by k_asm) (by walk_at "inrest"))))
  (k_with "callWith ref" => (k_here; kn_here; k_dflt (first
    | (refine' callWith_F (FnAt.of (by k_asm) (by walk_at "inrest")) ?_; k_whole)
    | (refine' callWith_F0 (FnAt.of (by k_asm) (by walk_at "inrest")) ?_; k_whole; try dsimp only [List.nil_append, List.cons_append]))))
  (k_with "mulok" => first | assumption | exact PySem.IntMulOk.of_left (bits64 (by omega)) | exact PySem.IntMulOk.of_right (bits64 (by omega)))
  (k_with "binaryOp Mult int int" => (k_here; k_dflt (refine mul_int ?_ (by walk_at "mulok"))))
  (k_with "setItem ref int" => (k_here; (with_reducible show wpAny _ _ (setItem (Value.ref _) (Value.int _ _) (Value.int _ _)) _ _ _); k_dflt (refine' ksa_set (by k_asm) (by k_asm) (by k_upd) (by with_reducible assumption) (by omega) (by omega) (by omega) ?_); k_whole; intro h' F' N' hi' hl' hs'; (try k_sweep)))
  (k_with "nn" => first | omega | ((rename ShB _ => hShB); exact (hShB _ (by omega) (by omega)).1))
  (k_with "lsz" => ((rename ShB _ => hShB); (rename BitsB _ => hBB); first | exact lsz_of (BitsB.fdiv _ hBB) (hShB _ (by omega) (by omega)).2 | exact lsz_of hBB (hShB _ (by omega) (by omega)).2))
  (k_with "binaryOp RShift int int" => (k_here; k_dflt (refine rshift_int (by walk_at "nn") ?_)))
  (k_with "binaryOp RShift int int" => (k_here; with_reducible refine rshift1 ?_))
  (k_with "binaryOp LShift int int" => (k_here; k_dflt (refine lshift_int (by walk_at "nn") (by walk_at "lsz") ?_)))
  (k_with "truthy ref" => (k_dflt (refine' truthyLed (by k_asm) (by walk_at "inrest") (by walk_at "lenfit") ?_); intro _))
  (k_with "lenfit" => first | omega | ((have hl9 := IntsAre.length (by assumption)); (try simp only [List.length_map, List.length_replicate] at *); omega))
  (k_with "subscriptTail" => (k_here; (with_reducible show wpAny _ _ (subscriptTail _ _ (Value.ref _) (Value.int _ _)) _ _ _); k_dflt (refine' ksa_sub (by k_asm) (by walk_at "inrest") (by with_reducible assumption) (by omega) (by first | omega | (rw [List.length_map]; omega)) (by omega) ?_ (by with_unfolding_all rfl)); intro _))
  (k_with "call builtin:list.append" => (k_here; k_dflt (refine' appendLed (by k_asm) (by k_asm) (by k_upd) (by walk_at "lenfit") ?_; k_whole); intro h' F' N'; (try k_sweep)))
  (k_with "call builtin:list.reverse" => (k_here; k_dflt (refine' reverseLed (by k_asm) (by k_asm) (by k_upd) (by walk_at "lenfit") ?_; k_whole); intro h' F' N'; (try k_sweep)))
  (k_with "call type:reversed" => (k_here; (with_reducible show wpAny _ _ (call (Value.type _) [Value.ref _]) _ _ _); k_dflt (refine' krv_reversed (by k_asm) (by k_asm) (News.isList (by k_asm) (by walk_at "inrest")) ?_); intro D' h' F' N' lrev; have l1 := lrev; (try k_lt l1); (try k_sweep)))
  (k_with "mlook" => first | with_reducible assumption | exact if_pos rfl | exact rfl | (refine (if_neg (by decide)).trans ?_; walk_at "mlook"))
  (k_with "eval Name" => (k_here; (rename MapMark => hMM); k_dflt (refine' nameX_L (by k_asm) (by walk_at "mlook") ?_ (by rfl) (by rfl)); k_whole))
  (k_with "newList" => (k_here; (with_reducible refine' newList_K (by k_asm) (by k_asm) ?_ (by exact Nat.le_of_ble_eq_true rfl)); k_whole; intro l' h' F' N' lnew; have l1 := lnew; (try k_lt l1); (try k_sweep)))
  (k_with "lsz" => ((rename BitsB _ => hBB); exact lsz_of hBB (by omega)))
  (k_with "newTuple" => (k_here; k_dflt (refine' newTupLed (by k_asm) (by k_asm) (by exact Nat.le_of_ble_eq_true rfl) ?_; k_whole); intro q' h' F' N' ltup; have l1 := ltup; (try k_lt l1); (try k_sweep)))
  (k_with "pick" => first | exact Pick.head | (apply Pick.tail; walk_at "pick"))
  (k_with "sub" => (intro q9 hq9; repeat (first | exact hsub0 _ hq9 | exact hq9 | apply List.mem_cons_of_mem)))
  (k_with "call builtin:len" => ((with_reducible show wpAny _ _ (call (Value.builtin "len") [Value.ref _]) _ _ _); k_dflt (refine' lenLed (by k_asm) (by walk_at "inrest") (by first | walk_at "lenfit" | (simp only [List.length_replicate]; omega)) ?_)))
  (k_with "exec FunctionDef" => (k_here; kn_here; k_dflt (refine' nestDef_K (by exact rfl) (by exact rfl) (by exact rfl) ?_); k_dflt (refine' nestTab (by k_asm) (by k_asm) (by k_asm) (by kn_code) (by exact rfl) (by k_updF) (by assumption) (by walk_at "sub") (by walk_at "AllLt") (List.mem_cons_self ..) (by exact rfl) ?_; k_whole); intro f' c' oc' vs' t' ct' dc' h' tk' ps' F' N' d1' d2' tc' hin' l1 l2; have hin2 := hin'.imp And.right And.right; (try dsimp only at N'); (try k_lt2 l1); (try k_lt l2)))
  (k_with "strB" => first | assumption | exact (Nat.le_of_ble_eq_true rfl) | (simp only [StrB, List.length_append, List.length_cons, List.length_nil] at *; omega))
  (k_with "subscriptTail" => (k_here; (with_reducible show wpAny _ _ (subscriptTail _ _ (Value.str _ _) (Value.ref _)) _ _ _); k_dflt (first | refine' cut_to (by k_asm) (by k_asm) (by walk_at "strB") (by omega) ?_ | refine' cut_ss (by k_asm) (by k_asm) (by walk_at "strB") (by omega) (by omega) ?_); k_whole; intro h' t' k' F' N'; (try k_sweep)))
  (k_with "call builtin:len" => (k_here; (with_reducible show wpAny _ _ (call (Value.builtin "len") [Value.str _ _]) _ _ _); k_dflt (refine' lenStr (by walk_at "strB") ?_); intro _ _))
  (k_with "binaryOp Add str str" => (k_here; k_dflt (refine' addStr (by walk_at "strB") (by walk_at "strB") ?_); intro _ _))
  (k_with "compareOp Eq str str" => (k_here; k_dflt (first | refine' eqStrB (by walk_at "streq") ?_ | refine' eqStr ?_)))
  (k_with "compareOp NotEq str str" => (k_here; k_dflt (first | refine' neStrB (by walk_at "streq") ?_ | refine' neStr ?_)))
  (k_with "getItem str int" => (k_here; k_dflt (refine' strAt (by walk_at "strB") (by omega) (by walk_at "strat") ?_); intro _))
  (k_with "subscriptTail" => (k_here; (with_reducible show wpAny _ _ (subscriptTail _ _ (Value.str _ _) (Value.int _ _)) _ _ _); k_dflt (refine' strAtT (by walk_at "strB") (by first | omega | assumption) (by walk_at "strat") ?_); k_whole; intro _))
  (k_with "exec While" => (k_here; refine stopI ?_))
  (k_with "exec While Compare" => (k_here; refine stopI ?_))
  (k_with "exec While Compare cons nil" => (k_here; refine stopI ?_))
  (k_with "execs cons" => ((with_reducible refine wpAny_execs_cons ?_); (try k_fold)))
  (k_with "eval Call" => k_fold)
  (k_with "eval BinOp" => k_fold)
  (k_with "isTrue" => k_fold)
  (k_with "isTrue Compare" => k_fold)
  (k_with "isTrue BoolOp" => k_fold)
  (k_with "eval Subscript" => k_fold)
  (k_with "subscriptTail" => k_fold)
  (k_with "compareOp" => k_fold)
  exact ⟨rfl, rfl⟩
noncomputable def degs0 (n : Nat) : List (List Int) := (List.range n).map fun j => (List.range n).map fun i => if i = j then -1 else 0
theorem degs0At {n i : Nat} (h : i < n) : (degs0 n).getD i [] = (List.range n).map fun l => if l = i then -1 else 0 := by
  unfold degs0
  rw [List.getD_eq_getElem?_getD, List.getElem?_map, List.getElem?_range h]; rfl
theorem rangeAt {n i : Nat} (h : i < n) (f : Nat → Int) : ((List.range n).map f).getD i 0 = f i := by
  rw [List.getD_eq_getElem?_getD, List.getElem?_map, List.getElem?_range h]; rfl
set_option maxRecDepth 100000 in
set_option maxHeartbeats 8000000 in
theorem law_E (w : World) (bk : Int) (hb : 4 ≤ bk ∧ bk ≤ 7) (cv tv nv dv rv : List Value) (f1 f2 g1 g2 : Nat) (cc tr nr dr rw1 : Addr) (oc : Obj) (tb : Tok) (led : Led) (hoc : oc.data = .cell (some (.int bk tb)))
   {rs : List Stmt}
   {p : Program} {loose : List Str} {mean : ExcName → Option Value} {mg mb : Str → Option Value} {dp un : Nat} {gd : Option (List Code)} {fa : Addr} {cd : Value} {outer : List Env} {A₀ : Around} {base h₀ : Heap} {L : Addr} {m : Str → Option Value} {s : Shared} {Q : Flow → Shared → Prop} {E : Value → Shared → Prop}
   (B : Below A₀ base outer h₀) (F : Fr h₀ L s.heap m) (X : (Kq w.params).In h₀) (T : Top p loose mean mg mb h₀) (hd : dp + 60 < recursionLimit) (hu : un + 600 < cLine) (hL : 37 < L)
   (N : News h₀ L s.heap ((rw1, listOf rv.toArray g2) :: (dr, listOf dv.toArray g1) :: (nr, listOf nv.toArray f2) :: (tr, listOf tv.toArray f1) :: (cc, listOf cv.toArray 0) :: (L + 1, oc) :: led)) (a1 : L + 1 < cc) (a2 : cc < tr) (a3 : tr < nr) (a4 : nr < dr) (a5 : dr < rw1) (a6 : ∀ p ∈ led, p.1 < L)
   (next : ∀ (h' : Heap) (tk' : Nat) (Dg : Addr) (gv : List Value) (e : Nat) (rows : Led), Fr h₀ L h' (fun y => if y = "degrees" then some (.ref Dg) else m y) →
     News h₀ L h' ((Dg, listOf gv.toArray e) :: (rows ++ ((rw1, listOf rv.toArray g2) :: (dr, listOf dv.toArray g1) :: (nr, listOf nv.toArray f2) :: (tr, listOf tv.toArray f1) :: (cc, listOf cv.toArray 0) :: (L + 1, oc) :: led))) → Mat rows gv (degs0 bk.toNat) → (∀ p ∈ rows, p.1 ≠ Dg) → (∀ p ∈ rows, rw1 < p.1) → rw1 < Dg →
     wpAny (model LP w) (ktrTop dp un gd "law" lawS L fa cd [("back", L + 1)] outer) (execs rs (envX "law" lawS L fa cd [("back", L + 1)])) Q E { s with heap := h', toks := tk' }) :
   wpAny (model LP w) (ktrTop dp un gd "law" lawS L fa cd [("back", L + 1)] outer) (execs (stN 9 lawB :: rs) (envX "law" lawS L fa cd [("back", L + 1)])) Q E s := by
  have mm : MapMark := ⟨⟩
  have b1 := ltN a1
  have b2 := ltN a2
  have b3 := ltN a3
  have b4 := ltN a4
  have b5 := ltN a5
  have FN := show Stop (_ ∧ _) from ⟨F, N⟩
  have hled : ∀ p ∈ led, p.1 ≠ L + 1 := fun p hp => Nat.ne_of_lt (Nat.lt_succ_of_lt (a6 p hp))
  (k_with "exec Assign cons ListComp" => (k_here; k_dflt (refine' Assign_ListComp_C (by k_asm) (by k_asm) (by with_unfolding_all rfl) (by with_unfolding_all rfl) (by intro _; rfl) (by intro _; rfl) (by rfl) (by decide) ?_)))
  (k_with "eval ListComp" => (k_here; k_dflt (refine' ListComp_GN (by k_asm) (by k_asm) (by with_unfolding_all rfl) (by decide) (by rfl) (by decide) ?_)))
  (conv in stN 9 lawB => whnf)
  (conv in (occs := *) lawS => all_goals whnf)
  k_steps
  rename IsRange _ _ _ _ _ _ _ _ => hR
  rename News _ _ _ _ => N1
  rename Fr _ _ _ _ => F1
  rename ∀ (b : Addr) (o : Obj), s.heap.get? b = some o → _ => K1
  k_dflt refine' rangeC (n := bk.toNat) (Rl := fun i y h => ∃ r vs, y = .ref r ∧ h.get? r = some (LCg.lst vs) ∧ IntsAre vs ((degs0 bk.toNat).getD i []) ∧ s.heap.objs.size ≤ r) (by rfl) F1 N1 hR (small_one (by omega) (by omega) (by omega) (by omega)) (by rw [rangeSize_nat]; omega) (by omega) (by rfl) (by rfl) ?helt ?hfin
  case helt =>
    intro i v C oj h tk E' hi hv hoj F' N' lC hC hK
    obtain ⟨t, rfl⟩ := hv
    have q0 : s.heap.objs.size < h.objs.size := Heap.lt_size (hK _ _ hR)
    refine stopQ ?_
    k_steps
    clear hR N1 F1 K1
    rename IsRange _ _ _ _ _ _ _ _ => hR
    rename News _ _ _ _ => N2
    rename Fr _ _ _ _ => F2
    rename ∀ (b : Addr) (o : Obj), h.get? b = some o → _ => K2
    k_dflt refine' rangeG (n := bk.toNat) (Rl := fun l y _ => ∃ t, y = .int (if l = i then -1 else 0) t) (by rfl) F2 N2 hR (small_one (by omega) (by omega) (by omega) (by omega)) (by rw [rangeSize_nat]; omega) (by omega) (by rfl) (by rfl) ?helt2 ?hfin2
    case helt2 =>
      intro l v C2 oC2 m₂ h5 tk5 E5 hl hv hoC hx F' N' lC hC5 hK5
      obtain ⟨t5, rfl⟩ := hv
      refine stopQ ?_
      k_steps
      all_goals unfold Stop
      · refine ⟨_, _, rfl, fun _ _ e => e, fun _ _ => ⟨_, congrArg (fun z => Value.int z _) (if_pos (by omega)).symm⟩⟩
      · refine ⟨_, _, rfl, fun _ _ e => e, fun _ _ => ⟨_, congrArg (fun z => Value.int z _) (if_neg (by omega)).symm⟩⟩
    case hfin2 =>
      intro DL CL ysL h8 tk8 hDL hCL hDCL hg hlen hK8 hR8
      unfold FinV
      intro h7 tk7 hfr7 hK7 hB7 F' N' lz7
      unfold Stop
      have q1 := Heap.lt_size hR
      have q2 : h.objs.size ≤ DL := Nat.le_trans (Nat.le_of_lt q1) hDL
      have hII : IntsAre ysL ((degs0 bk.toNat).getD i []) := by
        rw [degs0At hi]
        refine intsOf (by rw [hlen, List.length_map, List.length_range]) fun l y e => ?_
        obtain ⟨t, e'⟩ := hR8 l y e h8 fun _ _ _ _ e => e
        exact ⟨t, by rw [e', rangeAt (by have h5 := ltOfGet e; rw [hlen] at h5; exact h5)]⟩
      exact ⟨h7, tk7, rfl, fun b o e => hK7 b o (K2 b o e), fun h'' hh => ⟨DL, ysL, rfl, hh DL _ (Heap.get?_none_of_le q2) (N' _ (List.mem_cons_self ..)).1, hII, Nat.le_trans (Nat.le_of_lt q0) q2⟩⟩
  case hfin =>
    intro DL CL ysL h8 tk8 hDL hCL hDCL hDCL1 hg hlen hK hns hR
    unfold FinS
    intro oC F' N' off lz7
    obtain ⟨mC, hns⟩ := hns
    obtain ⟨rws, NR, MR, hrow, hrl⟩ := rowsN2 FN.1 FN.2 (fun b o e => hK b o (K1 b o e)) ysL (degs0 bk.toNat) (by rw [hlen]; unfold degs0; rw [List.length_map, List.length_range]) fun j y e => hR j y e h8 fun b o _ _ _ e => e
    have N2 := newsMid N' NR
    have off2 := offRows N2 hns (fun p hp => by obtain ⟨vs, _, e, _⟩ := hrl p hp; exact ⟨vs, e⟩) off
    have z1 := rowsOff N2 (fun p hp => .tail _ (.tail _ (List.mem_append_left _ hp))) (.head _) MR (by rw [hlen]; omega) hrl
    have z2 : ∀ p ∈ rws, rw1 < p.1 := fun p hp => Nat.lt_of_lt_of_le (Heap.lt_size (FN.2 _ (.head _)).1) (hrow p hp)
    have z3 := lz7 _ (.head _)
    clear N' NR N1 F1 K1 hR hK hns hg off lz7 hrow hrl
    refine stopU ?_
    k_steps
    unfold Stop
    rename News _ _ _ _ => N8
    refine ⟨_, _, _, _, rfl, by k_asm, newsSwp N8, off2, ?_⟩
    clear N8
    intro h6 tk6 F6 N6
    k_steps
    refine next _ _ DL ysL _ rws (by k_asm) (by k_asm) MR z1 z2 z3
end
section
example (w : World) : (rwQ = rwQ) ∧ (Kq w.params = Kq w.params) := by
  k_with_none
  k_fill
  (k_with "B" => k_asm)
  (k_with "K" => first | exact rfl | assumption)
  (k_with "C" => first | assumption | trivial)
  (k_with "D" => first | (change dp + 1 + _ < _; omega) | omega | ktr_room)
  (k_with "U" => first | (change un + 3 + _ < _; omega) | omega | ktr_units)
  (k_with "call builtin:divmod" => ((with_reducible show wpAny _ _ (call (Value.builtin _) [Value.int _ _, Value.int _ _]) _ _ _); (rename SmallDiv _ => hSd); refine divmod_N (by assumption) (by assumption) (by assumption) ?_ (Or.inl (PyProof.noPylong_of_log2 hSd)); intro _ _ _))
  (k_with "binaryOp FloorDiv int int" => ((rename SmallDiv _ => hSd); refine floordiv_sd hSd (by first | assumption | omega) ?_))
  (k_with "AllLt" => first | assumption | exact And.right (by assumption) | exact And.right (And.right (by assumption)) | exact And.right (And.right (And.right (by assumption))) | exact And.right (And.right (And.right (And.right (by assumption)))) | exact And.right (And.right (And.right (And.right (And.right (by assumption))))) | exact And.right (And.right (And.right (And.right (And.right (And.right (by assumption)))))) | exact And.right (And.right (And.right (And.right (And.right (And.right (And.right (by assumption)))))))  | exact And.right (And.right (And.right (And.right (And.right (And.right (And.right (And.right (by assumption)))))))))
  (k_with "k_all" => first | with_reducible assumption | exact allNe0 (by walk_at "AllLt") | exact allNe1 (by walk_at "AllLt") | exact allNe2 (by walk_at "AllLt") | exact allNe3 (by walk_at "AllLt") | exact List.forall_mem_nil _ | (refine' List.forall_mem_cons.mpr ⟨?_, ?_⟩; (focus k_ne); k_all))
  (k_with "binaryOp Mult ref int" => (k_here; (rename CntOk _ => hCo); k_dflt (refine' mulRep (by k_asm) (by k_asm) (by k_mem) hCo ?_); k_whole; intro l' h' F' N' l1; (try k_lt l1); (try k_sweep)))
  (k_with "enter" => (refine wpAny_call ?_; k_dflt cell_enter))
  (k_with "enter C" => (refine wpAny_call ?_; k_dflt ((refine' code_defC (by k_asm) (by k_asm) (by k_asm) (by k_asm) (by k_asm) (by exact rfl) (by exact rfl) (by assumption) (by k_is) (by k_is) (by ktr_room) (by exact BindsTo.of_eq rfl) (by exact rfl) (by decide +kernel) ?_ (by exact rfl) (by exact rfl) (by exact rfl)); k_whole; intro g' L' h' tk' cells' FG' F' N' Y' B' X' T' l1; (try k_lt l1); k_cells Y'; (try simp only [List.cons_append, List.nil_append] at N'); (try dsimp only); (try k_lift B'); (try k_fold))))
  (k_with "enter N" => (refine wpAny_call ?_; k_dflt (refine' code_nest (by k_asm) (by k_asm) (by k_asm) (by k_asm) (by k_asm) (by exact rfl) (by exact rfl) (by assumption) (by walk_at "inrest") (codeRec_news (by k_asm) (by walk_at "inrest") (by assumption) (by assumption)) (by ktr_room) (by exact BindsTo.of_eq rfl) (by exact locs rfl) ?_ (by exact rfl) (by exact rfl) (by exact rfl) (by decide); k_whole; intro g' L' h' FG' F' N' B' X' T'; (try dsimp only); (try k_lift B'))))
  (k_with "eval Name" => (k_here; kc_free; k_dflt (refine' nameX_F (by k_asm) (by exact rfl) (by walk_at "inrest") (by with_reducible assumption) ?_ (by exact rfl) (by exact rfl)); k_whole))
  (k_with "inrest" => first | with_reducible assumption | exact List.mem_cons_self .. | assumption | (refine List.mem_cons_of_mem _ ?_; walk_at "inrest"))
  (k_with "FnAt" => (k_dflt (exact FnAt.of (by k_asm) (by walk_at "inrest"))))
  (k_with "callWith ref" => (k_here; kn_here; k_dflt (first
    | (refine' callWith_F (FnAt.of (by k_asm) (by walk_at "inrest")) ?_; k_whole)
    | (refine' callWith_F0 (FnAt.of (by k_asm) (by walk_at "inrest")) ?_; k_whole; try dsimp only [List.nil_append, List.cons_append]))))
  (k_with "mulok" => first | assumption | exact PySem.IntMulOk.of_left (bits64 (by omega)) | exact PySem.IntMulOk.of_right (bits64 (by omega)))
  (k_with "binaryOp Mult int int" => (k_here; k_dflt (refine mul_int ?_ (by walk_at "mulok"))))
  (k_with "setItem ref int" => (k_here; (with_reducible show wpAny _ _ (setItem (Value.ref _) (Value.int _ _) (Value.int _ _)) _ _ _); k_dflt (refine' ksa_set (by k_asm) (by k_asm) (by k_upd) (by with_reducible assumption) (by omega) (by omega) (by omega) ?_); k_whole; intro h' F' N' hi' hl' hs'; (try k_sweep)))
  (k_with "nn" => first | omega | ((rename ShB _ => hShB); exact (hShB _ (by omega) (by omega)).1))
  (k_with "lsz" => ((rename ShB _ => hShB); (rename BitsB _ => hBB); first | exact lsz_of (BitsB.fdiv _ hBB) (hShB _ (by omega) (by omega)).2 | exact lsz_of hBB (hShB _ (by omega) (by omega)).2))
  (k_with "binaryOp RShift int int" => (k_here; k_dflt (refine rshift_int (by walk_at "nn") ?_)))
  (k_with "binaryOp RShift int int" => (k_here; with_reducible refine rshift1 ?_))
  (k_with "binaryOp LShift int int" => (k_here; k_dflt (refine lshift_int (by walk_at "nn") (by walk_at "lsz") ?_)))
  (k_with "truthy ref" => (k_dflt (refine' truthyLed (by k_asm) (by walk_at "inrest") (by walk_at "lenfit") ?_); intro _))
  (k_with "lenfit" => first | omega | ((have hl9 := IntsAre.length (by assumption)); (try simp only [List.length_map, List.length_replicate] at *); omega))
  (k_with "subscriptTail" => (k_here; (with_reducible show wpAny _ _ (subscriptTail _ _ (Value.ref _) (Value.int _ _)) _ _ _); k_dflt (refine' ksa_sub (by k_asm) (by walk_at "inrest") (by with_reducible assumption) (by omega) (by first | omega | (rw [List.length_map]; omega)) (by omega) ?_ (by with_unfolding_all rfl)); intro _))
  (k_with "call builtin:list.append" => (k_here; k_dflt (refine' appendLed (by k_asm) (by k_asm) (by k_upd) (by walk_at "lenfit") ?_; k_whole); intro h' F' N'; (try k_sweep)))
  (k_with "call builtin:list.reverse" => (k_here; k_dflt (refine' reverseLed (by k_asm) (by k_asm) (by k_upd) (by walk_at "lenfit") ?_; k_whole); intro h' F' N'; (try k_sweep)))
  (k_with "call type:reversed" => (k_here; (with_reducible show wpAny _ _ (call (Value.type _) [Value.ref _]) _ _ _); k_dflt (refine' krv_reversed (by k_asm) (by k_asm) (News.isList (by k_asm) (by walk_at "inrest")) ?_); intro D' h' F' N' lrev; have l1 := lrev; (try k_lt l1); (try k_sweep)))
  (k_with "mlook" => first | with_reducible assumption | exact if_pos rfl | exact rfl | (refine (if_neg (by decide)).trans ?_; walk_at "mlook"))
  (k_with "eval Name" => (k_here; (rename MapMark => hMM); k_dflt (refine' nameX_L (by k_asm) (by walk_at "mlook") ?_ (by rfl) (by rfl)); k_whole))
  (k_with "newList" => (k_here; (with_reducible refine' newList_K (by k_asm) (by k_asm) ?_ (by exact Nat.le_of_ble_eq_true rfl)); k_whole; intro l' h' F' N' lnew; have l1 := lnew; (try k_lt l1); (try k_sweep)))
  (k_with "lsz" => ((rename BitsB _ => hBB); exact lsz_of hBB (by omega)))
  (k_with "newTuple" => (k_here; k_dflt (refine' newTupLed (by k_asm) (by k_asm) (by exact Nat.le_of_ble_eq_true rfl) ?_; k_whole); intro q' h' F' N' ltup; have l1 := ltup; (try k_lt l1); (try k_sweep)))
  (k_with "pick" => first | exact Pick.head | (apply Pick.tail; walk_at "pick"))
  (k_with "sub" => (intro q9 hq9; repeat (first | exact hsub0 _ hq9 | exact hq9 | apply List.mem_cons_of_mem)))
  (k_with "call builtin:len" => ((with_reducible show wpAny _ _ (call (Value.builtin "len") [Value.ref _]) _ _ _); k_dflt (refine' lenLed (by k_asm) (by walk_at "inrest") (by first | walk_at "lenfit" | (simp only [List.length_replicate]; omega)) ?_)))
  (k_with "exec FunctionDef" => (k_here; kn_here; k_dflt (refine' nestDef_K (by exact rfl) (by exact rfl) (by exact rfl) ?_); k_dflt (refine' nestTab (by k_asm) (by k_asm) (by k_asm) (by kn_code) (by exact rfl) (by k_updF) (by assumption) (by walk_at "sub") (by walk_at "AllLt") (List.mem_cons_self ..) (by exact rfl) ?_; k_whole); intro f' c' oc' vs' t' ct' dc' h' tk' ps' F' N' d1' d2' tc' hin' l1 l2; have hin2 := hin'.imp And.right And.right; (try dsimp only at N'); (try k_lt2 l1); (try k_lt l2)))
  (k_with "strB" => first | assumption | exact (Nat.le_of_ble_eq_true rfl) | (simp only [StrB, List.length_append, List.length_cons, List.length_nil] at *; omega))
  (k_with "subscriptTail" => (k_here; (with_reducible show wpAny _ _ (subscriptTail _ _ (Value.str _ _) (Value.ref _)) _ _ _); k_dflt (first | refine' cut_to (by k_asm) (by k_asm) (by walk_at "strB") (by omega) ?_ | refine' cut_ss (by k_asm) (by k_asm) (by walk_at "strB") (by omega) (by omega) ?_); k_whole; intro h' t' k' F' N'; (try k_sweep)))
  (k_with "call builtin:len" => (k_here; (with_reducible show wpAny _ _ (call (Value.builtin "len") [Value.str _ _]) _ _ _); k_dflt (refine' lenStr (by walk_at "strB") ?_); intro _ _))
  (k_with "binaryOp Add str str" => (k_here; k_dflt (refine' addStr (by walk_at "strB") (by walk_at "strB") ?_); intro _ _))
  (k_with "compareOp Eq str str" => (k_here; k_dflt (first | refine' eqStrB (by walk_at "streq") ?_ | refine' eqStr ?_)))
  (k_with "compareOp NotEq str str" => (k_here; k_dflt (first | refine' neStrB (by walk_at "streq") ?_ | refine' neStr ?_)))
  (k_with "getItem str int" => (k_here; k_dflt (refine' strAt (by walk_at "strB") (by omega) (by walk_at "strat") ?_); intro _))
  (k_with "subscriptTail" => (k_here; (with_reducible show wpAny _ _ (subscriptTail _ _ (Value.str _ _) (Value.int _ _)) _ _ _); k_dflt (refine' strAtT (by walk_at "strB") (by first | omega | assumption) (by walk_at "strat") ?_); k_whole; intro _))
  (k_with "exec While" => (k_here; refine stopI ?_))
  (k_with "exec While Compare" => (k_here; refine stopI ?_))
  (k_with "exec While Compare cons nil" => (k_here; refine stopI ?_))
  (k_with "execs cons" => ((with_reducible refine wpAny_execs_cons ?_); (try k_fold)))
  (k_with "eval Call" => k_fold)
  (k_with "eval BinOp" => k_fold)
  (k_with "isTrue" => k_fold)
  (k_with "isTrue Compare" => k_fold)
  (k_with "isTrue BoolOp" => k_fold)
  (k_with "eval Subscript" => k_fold)
  (k_with "subscriptTail" => k_fold)
  (k_with "compareOp" => k_fold)
  exact ⟨rfl, rfl⟩
noncomputable def forB (s : Stmt) : List Stmt := match s with | .For _ _ b _ _ => b | _ => []
noncomputable def lawFB : List Stmt := forB (stN 10 lawB)
noncomputable def lawTB : List Stmt := forB (stN 2 lawFB)
noncomputable def prodF (d l : List Int) : Nat → Int
  | 0 => 1
  | i + 1 => prodF d l i * d.getD i 0 ^ (l.getD i 0).toNat
theorem facBnd {a b : Int} (ha : 1 ≤ a ∧ a ≤ 9) (hb : 0 ≤ b ∧ b ≤ 15) : (a ^ b.toNat).natAbs < 2 ^ 48 := by
  rw [Int.natAbs_pow]
  have h1 : a.natAbs ≤ 9 := by omega
  have h2 : b.toNat ≤ 15 := by omega
  exact Nat.lt_of_le_of_lt (Nat.le_trans (Nat.pow_le_pow_left h1 _) (Nat.pow_le_pow_right (by decide) h2)) (by decide)
theorem prodBnd {d l : List Int} {n : Nat} (hd : ∀ i, i < n → 1 ≤ d.getD i 0 ∧ d.getD i 0 ≤ 9) (hl : ∀ i, i < n → 0 ≤ l.getD i 0 ∧ l.getD i 0 ≤ 15) {w : Int} (hw : w.natAbs < 2 ^ 200) : ∀ i, i ≤ n → (w * prodF d l i).natAbs < 2 ^ (200 + 48 * i)
  | 0, _ => by unfold prodF; rw [Int.mul_one]; exact hw
  | i + 1, h => by
    unfold prodF
    rw [← Int.mul_assoc, Int.natAbs_mul]
    have h1 := prodBnd hd hl hw i (by omega)
    have h2 := facBnd (hd i h) (hl i h)
    rw [show 200 + 48 * (i + 1) = (200 + 48 * i) + 48 by omega, Nat.pow_add]
    exact Nat.mul_lt_mul'' h1 h2
theorem loadX_L {M : Model} {A : Around} {Q : Value → Shared → Prop} {E : Value → Shared → Prop} {s : Shared} {h₀ : Heap} {L a : Addr} {m : Str → Option Value} {x : Str} {v : Value} {cn : Str} {cs : Scope} {ccd : Value} {cl : List (Str × Addr)} (F : Fr h₀ L s.heap m) (hv : m x = some v) (h : Q v s)
    (hk : cs.kind = .function := by rfl) (hx : (envX cn cs L a ccd cl).kindOf x = some .local := by rfl) :
    wpAny M A (loadName (envX cn cs L a ccd cl) x) Q E s := wpAny_loadName_local hk hx F.ns hv h
section
variable {prog : Program} {w : World} {A : Around} {E : Value → Shared → Prop} {s : Shared} {h₀ : Heap} {L : Addr} {m : Str → Option Value} {news rest : Led} {D : Addr} {dv : List Value} {e0 : Nat} {degs : List (List Int)} {value slice : PySem.Expr} {u : Tok} {Q : Value → Shared → Prop}
theorem posIdx {k : Int} {x : Value} (N : News h₀ L s.heap news) (hm : (D, listOf dv.toArray e0) ∈ news) (h0 : 0 ≤ k) (hz : k < 1000) (hx : dv[k.toNat]? = some x) (h : Q x s)
    (hs : subscripted slice false (.ref D) (.int k u) = operate [.ref D, .int k u] (getItem (.ref D) (.int k u)) := by with_unfolding_all rfl) :
    wpAny (model prog w) A (subscriptTail value slice (.ref D) (.int k u)) Q E s := by
  have hl := News.isList N hm
  exact subscriptTail_builtinR hl.typeIs slot_list_getitem.lookup (wpAny_getItem_list (Q := fun r s' => r = x ∧ Q r s') hl h0 (by omega) (by simpa using hx) ⟨rfl, h⟩) hs
/-- one row of a list of lists -/
theorem posMat {k : Nat} (N : News h₀ L s.heap news) (hm : (D, listOf dv.toArray e0) ∈ news) (M : Mat rest dv degs) (h1 : k < degs.length) (hz : degs.length ≤ 1000) (h : ∀ r us e, (r, listOf us.toArray e) ∈ rest → IntsAre us (degs.getD k []) → Q (.ref r) s)
    (hs : subscripted slice false (.ref D) (.int (k : Int) u) = operate [.ref D, .int (k : Int) u] (getItem (.ref D) (.int (k : Int) u)) := by with_unfolding_all rfl) :
    wpAny (model prog w) A (subscriptTail value slice (.ref D) (.int (k : Int) u)) Q E s := by
  have hl := M.length
  obtain ⟨r, us, e', h1', h2, h3⟩ := M.at k (by omega)
  exact posIdx N hm (by omega) (by omega) (by simpa using h1') (h r us e' h2 h3) hs
end
set_option maxRecDepth 100000 in
set_option maxHeartbeats 8000000 in
theorem law_V (w : World) (bk : Int) (hb : 4 ≤ bk ∧ bk ≤ 7) (dr q : Addr) (dv lv : List Value) (g1 g2 : Nat) (drawn lk : List Int) (lacks : List (List Int)) (ti : Nat) (w0 : Int) (tb t1 t2 : Tok) (oc : Obj) (nw : Led) (hti : ti < 3) (hl3 : lacks.length = 3)
   (hoc : oc.data = .cell (some (.int bk tb))) (hmd : (dr, listOf dv.toArray g1) ∈ nw) (hmq : (q, listOf lv.toArray g2) ∈ nw) (hM : Mat nw lv lacks) (hdv : IntsAre dv drawn) (hdl : drawn.length = bk.toNat) (hlk : lacks.getD ti [] = lk) (hll : lk.length = bk.toNat)
   (hd9 : ∀ i, i < bk.toNat → 1 ≤ drawn.getD i 0 ∧ drawn.getD i 0 ≤ 9) (hl15 : ∀ i, i < bk.toNat → 0 ≤ lk.getD i 0 ∧ lk.getD i 0 ≤ 15) (hw0 : w0.natAbs < 2 ^ 200)
   {rs : List Stmt}
   {p : Program} {loose : List Str} {mean : ExcName → Option Value} {mg mb : Str → Option Value} {dp un : Nat} {gd : Option (List Code)} {fa : Addr} {cd : Value} {outer : List Env} {A₀ : Around} {base h₀ : Heap} {L : Addr} {m : Str → Option Value} {s : Shared} {Q : Flow → Shared → Prop} {E : Value → Shared → Prop}
   (B : Below A₀ base outer h₀) (F : Fr h₀ L s.heap m) (X : (Kq w.params).In h₀) (T : Top p loose mean mg mb h₀) (hd : dp + 60 < recursionLimit) (hu : un + 600 < cLine) (hL : 37 < L)
   (hmo : (L + 1, oc) ∈ nw) (hE : PassesOwn (model LP w) (ktrTop dp un gd "law" lawS L fa cd [("back", L + 1)] outer) (envX "law" lawS L fa cd [("back", L + 1)]) E) (N : News h₀ L s.heap nw) (hmw : m "weight" = some (.int w0 t1)) (hmt : m "t" = some (.int (ti : Int) t2)) (hml : m "lacks" = some (.ref q)) (hmr : m "drawn" = some (.ref dr))
   (next : ∀ (h' : Heap) (tk' : Nat) (m' : Str → Option Value) (t3 : Tok), Fr h₀ L h' m' → News h₀ L h' nw → (∀ y : Str, y ≠ "weight" → y ≠ "i" → m' y = m y) → m' "weight" = some (.int (w0 * prodF drawn lk bk.toNat) t3) →
     Q .next { s with heap := h', toks := tk' }) :
   wpAny (model LP w) (ktrTop dp un gd "law" lawS L fa cd [("back", L + 1)] outer) (exec (stN 1 lawTB) (envX "law" lawS L fa cd [("back", L + 1)])) Q E s := by
  have mm : MapMark := ⟨⟩
  (k_with "exec For Name Call cons nil" => (k_here; (rename Fr _ _ _ _ => lF'); (with_unfolding_all refine' For_invVF lF' ?k1 ?k2 ?_ (by intro _; rfl) hE); (case k1 => exact rfl); (case k2 => exact rfl); k_whole))
  (k_with "loadName" => (k_here; k_dflt (refine' loadX_L (by k_asm) (by walk_at "mlook") ?_ (by rfl) (by rfl)); k_whole))
  (k_with "big" => first | with_reducible assumption | omega | decide)
  (k_with "binaryOp Pow int int" => (k_here; k_dflt (refine' pow_int_small (by walk_at "big") (by walk_at "big") (by walk_at "big") ?_)))
  (k_with "inplaceOp Mult int int" => (k_here; k_dflt (refine' imul_int ?_ (mulBig (by walk_at "big") (by walk_at "big")))))
  (k_with "pyIter ref" => (refine stopI ?_))
  (conv in stN 1 lawTB => whnf)
  (conv in (occs := *) lawS => all_goals whnf)
  k_steps
  unfold Stop
  rename IsRange _ _ _ _ _ _ _ _ => hRg
  k_dflt refine' iter_rangeUnr (n := bk.toNat) (by exact rfl) hRg (small_one (by omega) (by omega) (by omega) (by omega)) (by rw [rangeSize_nat]; omega) (by k_asm) (by k_asm) ?_
  intro I hI
  refine rangeInd (fun i m' nw' => nw' = nw ∧ (∀ y : Str, y ≠ "weight" → y ≠ "i" → m' y = m y) ∧ ∃ t3, m' "weight" = some (.int (w0 * prodF drawn lk i) t3)) ?step ?fin _ _ _ _ (Nat.zero_add _) ?init
  case init => exact ⟨rfl, fun _ _ _ => rfl, t1, by rw [hmw]; unfold prodF; rw [Int.mul_one]⟩
  case fin =>
    intro m1 nw hJ hh tk1 F2 N2
    obtain ⟨rfl, hm', t3, hw'⟩ := hJ
    (try dsimp +zetaDelta only)
    exact next _ _ m1 t3 F2 N2 hm' hw'
  case step =>
    intro i m1 nw' hin hJ t hh tk1 F2 N2
    obtain ⟨rfl, hm', t3, hw'⟩ := hJ
    have mm : MapMark := ⟨⟩
    rw [Int.zero_add] at F2
    have h1 := hm' "t" (by decide) (by decide)
    have h2 := hm' "lacks" (by decide) (by decide)
    have h3 := hm' "drawn" (by decide) (by decide)
    rw [hmt] at h1
    rw [hml] at h2
    rw [hmr] at h3
    k_steps
    k_dflt refine' posMat (by k_asm) (List.mem_cons_of_mem _ hmq) hM (by omega) (by omega) ?_
    intro r8 us8 e8 hm8 hi8
    have hi8 := hlk ▸ hi8
    have hmm8 := List.mem_cons_of_mem (I, itR (0 + ((i + 1 : Nat) : Int)) ((bk.toNat : Int) - ((i + 1 : Nat) : Int))) hm8
    have hll' := hll
    have hd9i : 1 ≤ drawn.getD ((i : Nat) : Int).toNat 0 ∧ drawn.getD ((i : Nat) : Int).toNat 0 ≤ 9 := hd9 i hin
    have hl15i : 0 ≤ lk.getD ((i : Nat) : Int).toNat 0 ∧ lk.getD ((i : Nat) : Int).toNat 0 ≤ 15 := hl15 i hin
    have hbig1 : (drawn.getD ((i : Nat) : Int).toNat 0).natAbs < 2 ^ 64 := by omega
    have hbig2 : (drawn.getD ((i : Nat) : Int).toNat 0 ^ (lk.getD ((i : Nat) : Int).toNat 0).toNat).natAbs < 2 ^ 8000 := Nat.lt_of_lt_of_le (facBnd hd9i hl15i) (Nat.pow_le_pow_right (by decide) (by decide))
    have hbig3 : (w0 * prodF drawn lk i).natAbs < 2 ^ 8000 := Nat.lt_of_lt_of_le (prodBnd hd9 hl15 hw0 i (by omega)) (Nat.pow_le_pow_right (by decide) (by omega))
    k_steps
    refine UnrEnd.intro (by k_asm) (by k_asm) nw' (fun p hp => hp) (fun p hp => Nat.ne_of_lt (hI p hp)) ⟨rfl, fun y y1 y2 => ?g1, ?t3, ?g2⟩
    case g2 =>
      dsimp only
      rw [if_pos rfl]
      show _ = some (Value.int (w0 * (prodF drawn lk i * drawn.getD i 0 ^ (lk.getD i 0).toNat)) _)
      rw [← Int.mul_assoc]
      rfl
    case g1 =>
      dsimp only
      rw [if_neg y1, if_neg y2]; exact hm' y y1 y2
end
section
example (w : World) : (rwQ = rwQ) ∧ (Kq w.params = Kq w.params) := by
  k_with_none
  k_fill
  (k_with "B" => k_asm)
  (k_with "K" => first | exact rfl | assumption)
  (k_with "C" => first | assumption | trivial)
  (k_with "D" => first | (change dp + 1 + _ < _; omega) | omega | ktr_room)
  (k_with "U" => first | (change un + 3 + _ < _; omega) | omega | ktr_units)
  (k_with "call builtin:divmod" => ((with_reducible show wpAny _ _ (call (Value.builtin _) [Value.int _ _, Value.int _ _]) _ _ _); (rename SmallDiv _ => hSd); refine divmod_N (by assumption) (by assumption) (by assumption) ?_ (Or.inl (PyProof.noPylong_of_log2 hSd)); intro _ _ _))
  (k_with "binaryOp FloorDiv int int" => ((rename SmallDiv _ => hSd); refine floordiv_sd hSd (by first | assumption | omega) ?_))
  (k_with "AllLt" => first | assumption | exact And.right (by assumption) | exact And.right (And.right (by assumption)) | exact And.right (And.right (And.right (by assumption))) | exact And.right (And.right (And.right (And.right (by assumption)))) | exact And.right (And.right (And.right (And.right (And.right (by assumption))))) | exact And.right (And.right (And.right (And.right (And.right (And.right (by assumption)))))) | exact And.right (And.right (And.right (And.right (And.right (And.right (And.right (by assumption)))))))  | exact And.right (And.right (And.right (And.right (And.right (And.right (And.right (And.right (by assumption)))))))))
  (k_with "k_all" => first | with_reducible assumption | exact allNe0 (by walk_at "AllLt") | exact allNe1 (by walk_at "AllLt") | exact allNe2 (by walk_at "AllLt") | exact allNe3 (by walk_at "AllLt") | exact List.forall_mem_nil _ | (refine' List.forall_mem_cons.mpr ⟨?_, ?_⟩; (focus k_ne); k_all))
  (k_with "binaryOp Mult ref int" => (k_here; (rename CntOk _ => hCo); k_dflt (refine' mulRep (by k_asm) (by k_asm) (by k_mem) hCo ?_); k_whole; intro l' h' F' N' l1; (try k_lt l1); (try k_sweep)))
  (k_with "enter" => (refine wpAny_call ?_; k_dflt cell_enter))
  (k_with "enter C" => (refine wpAny_call ?_; k_dflt ((refine' code_defC (by k_asm) (by k_asm) (by k_asm) (by k_asm) (by k_asm) (by exact rfl) (by exact rfl) (by assumption) (by k_is) (by k_is) (by ktr_room) (by exact BindsTo.of_eq rfl) (by exact rfl) (by decide +kernel) ?_ (by exact rfl) (by exact rfl) (by exact rfl)); k_whole; intro g' L' h' tk' cells' FG' F' N' Y' B' X' T' l1; (try k_lt l1); k_cells Y'; (try simp only [List.cons_append, List.nil_append] at N'); (try dsimp only); (try k_lift B'); (try k_fold))))
  (k_with "enter N" => (refine wpAny_call ?_; k_dflt (refine' code_nest (by k_asm) (by k_asm) (by k_asm) (by k_asm) (by k_asm) (by exact rfl) (by exact rfl) (by assumption) (by walk_at "inrest") (codeRec_news (by k_asm) (by walk_at "inrest") (by assumption) (by assumption)) (by ktr_room) (by exact BindsTo.of_eq rfl) (by exact locs rfl) ?_ (by exact rfl) (by exact rfl) (by exact rfl) (by decide); k_whole; intro g' L' h' FG' F' N' B' X' T'; (try dsimp only); (try k_lift B'))))
  (k_with "eval Name" => (k_here; kc_free; k_dflt (refine' nameX_F (by k_asm) (by exact rfl) (by walk_at "inrest") (by with_reducible assumption) ?_ (by exact rfl) (by exact rfl)); k_whole))
  (k_with "inrest" => first | with_reducible assumption | exact List.mem_cons_self .. | assumption | (refine List.mem_cons_of_mem _ ?_; walk_at "inrest"))
  (k_with "FnAt" => (k_dflt (exact FnAt.of (by k_asm) (by walk_at "inrest"))))
  (k_with "callWith ref" => (k_here; kn_here; k_dflt (first
    | (refine' callWith_F (FnAt.of (by k_asm) (by walk_at "inrest")) ?_; k_whole)
    | (refine' callWith_F0 (FnAt.of (by k_asm) (by walk_at "inrest")) ?_; k_whole; try dsimp only [List.nil_append, List.cons_append]))))
  (k_with "mulok" => first | assumption | exact PySem.IntMulOk.of_left (bits64 (by omega)) | exact PySem.IntMulOk.of_right (bits64 (by omega)))
  (k_with "binaryOp Mult int int" => (k_here; k_dflt (refine mul_int ?_ (by walk_at "mulok"))))
  (k_with "setItem ref int" => (k_here; (with_reducible show wpAny _ _ (setItem (Value.ref _) (Value.int _ _) (Value.int _ _)) _ _ _); k_dflt (refine' ksa_set (by k_asm) (by k_asm) (by k_upd) (by with_reducible assumption) (by omega) (by omega) (by omega) ?_); k_whole; intro h' F' N' hi' hl' hs'; (try k_sweep)))
  (k_with "nn" => first | omega | ((rename ShB _ => hShB); exact (hShB _ (by omega) (by omega)).1))
  (k_with "lsz" => ((rename ShB _ => hShB); (rename BitsB _ => hBB); first | exact lsz_of (BitsB.fdiv _ hBB) (hShB _ (by omega) (by omega)).2 | exact lsz_of hBB (hShB _ (by omega) (by omega)).2))
  (k_with "binaryOp RShift int int" => (k_here; k_dflt (refine rshift_int (by walk_at "nn") ?_)))
  (k_with "binaryOp RShift int int" => (k_here; with_reducible refine rshift1 ?_))
  (k_with "binaryOp LShift int int" => (k_here; k_dflt (refine lshift_int (by walk_at "nn") (by walk_at "lsz") ?_)))
  (k_with "truthy ref" => (k_dflt (refine' truthyLed (by k_asm) (by walk_at "inrest") (by walk_at "lenfit") ?_); intro _))
  (k_with "lenfit" => first | omega | ((have hl9 := IntsAre.length (by assumption)); (try simp only [List.length_map, List.length_replicate] at *); omega))
  (k_with "subscriptTail" => (k_here; (with_reducible show wpAny _ _ (subscriptTail _ _ (Value.ref _) (Value.int _ _)) _ _ _); k_dflt (refine' ksa_sub (by k_asm) (by walk_at "inrest") (by with_reducible assumption) (by omega) (by first | omega | (rw [List.length_map]; omega)) (by omega) ?_ (by with_unfolding_all rfl)); intro _))
  (k_with "call builtin:list.append" => (k_here; k_dflt (refine' appendLed (by k_asm) (by k_asm) (by k_upd) (by walk_at "lenfit") ?_; k_whole); intro h' F' N'; (try k_sweep)))
  (k_with "call builtin:list.reverse" => (k_here; k_dflt (refine' reverseLed (by k_asm) (by k_asm) (by k_upd) (by walk_at "lenfit") ?_; k_whole); intro h' F' N'; (try k_sweep)))
  (k_with "call type:reversed" => (k_here; (with_reducible show wpAny _ _ (call (Value.type _) [Value.ref _]) _ _ _); k_dflt (refine' krv_reversed (by k_asm) (by k_asm) (News.isList (by k_asm) (by walk_at "inrest")) ?_); intro D' h' F' N' lrev; have l1 := lrev; (try k_lt l1); (try k_sweep)))
  (k_with "mlook" => first | with_reducible assumption | exact if_pos rfl | exact rfl | (refine (if_neg (by decide)).trans ?_; walk_at "mlook"))
  (k_with "eval Name" => (k_here; (rename MapMark => hMM); k_dflt (refine' nameX_L (by k_asm) (by walk_at "mlook") ?_ (by rfl) (by rfl)); k_whole))
  (k_with "newList" => (k_here; (with_reducible refine' newList_K (by k_asm) (by k_asm) ?_ (by exact Nat.le_of_ble_eq_true rfl)); k_whole; intro l' h' F' N' lnew; have l1 := lnew; (try k_lt l1); (try k_sweep)))
  (k_with "lsz" => ((rename BitsB _ => hBB); exact lsz_of hBB (by omega)))
  (k_with "newTuple" => (k_here; k_dflt (refine' newTupLed (by k_asm) (by k_asm) (by exact Nat.le_of_ble_eq_true rfl) ?_; k_whole); intro q' h' F' N' ltup; have l1 := ltup; (try k_lt l1); (try k_sweep)))
  (k_with "pick" => first | exact Pick.head | (apply Pick.tail; walk_at "pick"))
  (k_with "sub" => (intro q9 hq9; repeat (first | exact hsub0 _ hq9 | exact hq9 | apply List.mem_cons_of_mem)))
  (k_with "call builtin:len" => ((with_reducible show wpAny _ _ (call (Value.builtin "len") [Value.ref _]) _ _ _); k_dflt (refine' lenLed (by k_asm) (by walk_at "inrest") (by first | walk_at "lenfit" | (simp only [List.length_replicate]; omega)) ?_)))
  (k_with "exec FunctionDef" => (k_here; kn_here; k_dflt (refine' nestDef_K (by exact rfl) (by exact rfl) (by exact rfl) ?_); k_dflt (refine' nestTab (by k_asm) (by k_asm) (by k_asm) (by kn_code) (by exact rfl) (by k_updF) (by assumption) (by walk_at "sub") (by walk_at "AllLt") (List.mem_cons_self ..) (by exact rfl) ?_; k_whole); intro f' c' oc' vs' t' ct' dc' h' tk' ps' F' N' d1' d2' tc' hin' l1 l2; have hin2 := hin'.imp And.right And.right; (try dsimp only at N'); (try k_lt2 l1); (try k_lt l2)))
  (k_with "strB" => first | assumption | exact (Nat.le_of_ble_eq_true rfl) | (simp only [StrB, List.length_append, List.length_cons, List.length_nil] at *; omega))
  (k_with "subscriptTail" => (k_here; (with_reducible show wpAny _ _ (subscriptTail _ _ (Value.str _ _) (Value.ref _)) _ _ _); k_dflt (first | refine' cut_to (by k_asm) (by k_asm) (by walk_at "strB") (by omega) ?_ | refine' cut_ss (by k_asm) (by k_asm) (by walk_at "strB") (by omega) (by omega) ?_); k_whole; intro h' t' k' F' N'; (try k_sweep)))
  (k_with "call builtin:len" => (k_here; (with_reducible show wpAny _ _ (call (Value.builtin "len") [Value.str _ _]) _ _ _); k_dflt (refine' lenStr (by walk_at "strB") ?_); intro _ _))
  (k_with "binaryOp Add str str" => (k_here; k_dflt (refine' addStr (by walk_at "strB") (by walk_at "strB") ?_); intro _ _))
  (k_with "compareOp Eq str str" => (k_here; k_dflt (first | refine' eqStrB (by walk_at "streq") ?_ | refine' eqStr ?_)))
  (k_with "compareOp NotEq str str" => (k_here; k_dflt (first | refine' neStrB (by walk_at "streq") ?_ | refine' neStr ?_)))
  (k_with "getItem str int" => (k_here; k_dflt (refine' strAt (by walk_at "strB") (by omega) (by walk_at "strat") ?_); intro _))
  (k_with "subscriptTail" => (k_here; (with_reducible show wpAny _ _ (subscriptTail _ _ (Value.str _ _) (Value.int _ _)) _ _ _); k_dflt (refine' strAtT (by walk_at "strB") (by first | omega | assumption) (by walk_at "strat") ?_); k_whole; intro _))
  (k_with "exec While" => (k_here; refine stopI ?_))
  (k_with "exec While Compare" => (k_here; refine stopI ?_))
  (k_with "exec While Compare cons nil" => (k_here; refine stopI ?_))
  (k_with "execs cons" => ((with_reducible refine wpAny_execs_cons ?_); (try k_fold)))
  (k_with "eval Call" => k_fold)
  (k_with "eval BinOp" => k_fold)
  (k_with "isTrue" => k_fold)
  (k_with "isTrue Compare" => k_fold)
  (k_with "isTrue BoolOp" => k_fold)
  (k_with "eval Subscript" => k_fold)
  (k_with "subscriptTail" => k_fold)
  (k_with "compareOp" => k_fold)
  exact ⟨rfl, rfl⟩
noncomputable def pickF (row : List Int) (x : Int) : Int := row.getD (row.length - x.toNat) 0
noncomputable def dueF (nums drawn told row : List Int) (lacks : List (List Int)) (n : Nat) : Nat → Int
  | 0 => 0
  | t + 1 => dueF nums drawn told row lacks n t + nums.getD (2 * t) 0 * prodF drawn (lacks.getD t []) n * pickF row (told.getD (2 * t) 0) * pickF row (told.getD (2 * t + 1) 0)
section
variable {prog : Program} {w : World} {A : Around} {E : Value → Shared → Prop} {s : Shared} {h₀ : Heap} {L : Addr} {m : Str → Option Value} {news : Led} {D : Addr} {dv : List Value} {e0 : Nat} {row : List Int} {value slice : PySem.Expr} {u : Tok} {Q : Value → Shared → Prop}
/-- one number of a list, counted from its end -/
theorem negInt {x : Int} (N : News h₀ L s.heap news) (hm : (D, listOf dv.toArray e0) ∈ news) (hi : IntsAre dv row) (h0 : 1 ≤ x) (h1 : x ≤ row.length) (hz : row.length ≤ 1000) (h : ∀ t, Q (.int (pickF row x) t) s)
    (hs : subscripted slice false (.ref D) (.int (-x) u) = operate [.ref D, .int (-x) u] (getItem (.ref D) (.int (-x) u)) := by with_unfolding_all rfl) :
    wpAny (model prog w) A (subscriptTail value slice (.ref D) (.int (-x) u)) Q E s := by
  have hl := hi.length
  have e : (-x + (dv.length : Int)).toNat = row.length - x.toNat := by omega
  have hlt : row.length - x.toNat < dv.length := by omega
  obtain ⟨t, et⟩ := intsAtD hi (row.length - x.toNat) (List.getElem?_eq_getElem hlt)
  exact negIdx N hm (by omega) (by omega) (by omega) (by rw [e, List.getElem?_eq_getElem hlt, et]; rfl) (h t) hs
end
theorem pickBnd {row : List Int} {B : Nat} (hr : ∀ x ∈ row, x.natAbs < 2 ^ B) (x : Int) : (pickF row x).natAbs < 2 ^ B := by
  unfold pickF
  rw [List.getD_eq_getElem?_getD]
  cases e : row[row.length - x.toNat]? with
  | none => exact Nat.pow_pos (by decide)
  | some y => exact hr y (List.mem_of_getElem? e)
set_option maxRecDepth 100000 in
set_option maxHeartbeats 8000000 in
theorem law_W (w : World) (bk : Int) (hb : 4 ≤ bk ∧ bk ≤ 7) (nr dr tr rw1 q : Addr) (nv dv tv rv lv : List Value) (g1 g2 g3 g4 g5 : Nat) (nums drawn told row : List Int) (lacks : List (List Int)) (tb : Tok) (oc : Obj) (nw : Led) (hl3 : lacks.length = 3)
   (hoc : oc.data = .cell (some (.int bk tb))) (hmn : (nr, listOf nv.toArray g1) ∈ nw) (hmd : (dr, listOf dv.toArray g2) ∈ nw) (hmt : (tr, listOf tv.toArray g3) ∈ nw) (hmr : (rw1, listOf rv.toArray g4) ∈ nw) (hmq : (q, listOf lv.toArray g5) ∈ nw) (hM : Mat nw lv lacks)
   (hnv : IntsAre nv nums) (hdv : IntsAre dv drawn) (htv : IntsAre tv told) (hrv : IntsAre rv row) (hnl : nums.length = 5) (hdl : drawn.length = bk.toNat) (htl : told.length = 6) (hrl : bk ≤ row.length) (hrl2 : row.length ≤ 100)
   (hll : ∀ t, t < 3 → (lacks.getD t []).length = bk.toNat) (hd9 : ∀ i, i < bk.toNat → 1 ≤ drawn.getD i 0 ∧ drawn.getD i 0 ≤ 9) (hl15 : ∀ t, t < 3 → ∀ i, i < bk.toNat → 0 ≤ (lacks.getD t []).getD i 0 ∧ (lacks.getD t []).getD i 0 ≤ 15)
   (hn0 : ∀ t, t < 3 → (nums.getD (2 * t) 0).natAbs < 2 ^ 200) (htb : ∀ t, t < 6 → 1 ≤ told.getD t 0 ∧ told.getD t 0 ≤ bk) (hrb : ∀ x ∈ row, x.natAbs < 2 ^ 2900)
   {rs : List Stmt}
   {p : Program} {loose : List Str} {mean : ExcName → Option Value} {mg mb : Str → Option Value} {dp un : Nat} {gd : Option (List Code)} {fa : Addr} {cd : Value} {outer : List Env} {A₀ : Around} {base h₀ : Heap} {L : Addr} {m : Str → Option Value} {s : Shared} {Q : Flow → Shared → Prop} {E : Value → Shared → Prop}
   (B : Below A₀ base outer h₀) (F : Fr h₀ L s.heap m) (X : (Kq w.params).In h₀) (T : Top p loose mean mg mb h₀) (hd : dp + 60 < recursionLimit) (hu : un + 600 < cLine) (hL : 37 < L)
   (hmo : (L + 1, oc) ∈ nw) (hE : PassesOwn (model LP w) (ktrTop dp un gd "law" lawS L fa cd [("back", L + 1)] outer) (envX "law" lawS L fa cd [("back", L + 1)]) E) (N : News h₀ L s.heap nw) (hxn : m "numbers" = some (.ref nr)) (hxd : m "drawn" = some (.ref dr)) (hxt : m "told" = some (.ref tr)) (hxr : m "row" = some (.ref rw1)) (hxl : m "lacks" = some (.ref q))
   (next : ∀ (h' : Heap) (tk' : Nat) (m' : Str → Option Value) (t3 : Tok), Fr h₀ L h' m' → News h₀ L h' nw → (∀ y : Str, y ≠ "due" → y ≠ "t" → y ≠ "weight" → y ≠ "i" → m' y = m y) → m' "due" = some (.int (dueF nums drawn told row lacks bk.toNat 3) t3) →
     wpAny (model LP w) (ktrTop dp un gd "law" lawS L fa cd [("back", L + 1)] outer) (execs rs (envX "law" lawS L fa cd [("back", L + 1)])) Q E { s with heap := h', toks := tk' }) :
   wpAny (model LP w) (ktrTop dp un gd "law" lawS L fa cd [("back", L + 1)] outer) (execs (stN 1 lawFB :: stN 2 lawFB :: rs) (envX "law" lawS L fa cd [("back", L + 1)])) Q E s := by
  have mm : MapMark := ⟨⟩
  (k_with "loadName" => (k_here; k_dflt (refine' loadX_L (by k_asm) (by walk_at "mlook") ?_ (by rfl) (by rfl)); k_whole))
  (k_with "big" => first | with_reducible assumption | omega | decide)
  (k_with "binaryOp Mult int int" => (k_here; k_dflt (refine' mul_int ?_ (mulBig (by walk_at "big") (by walk_at "big")))))
  (k_with "exec For Name Call cons nil" => (k_here; (rename Fr _ _ _ _ => lF'); (with_unfolding_all refine' For_invVF lF' ?k1 ?k2 ?_ (by intro _; rfl) hE); (case k1 => exact rfl); (case k2 => exact rfl); k_whole))
  (k_with "pyIter ref" => (refine stopI ?_))
  (conv in stN 1 lawFB => whnf)
  (conv in stN 2 lawFB => whnf)
  (conv in (occs := *) lawS => all_goals whnf)
  k_steps
  unfold Stop
  rename IsRange _ _ _ _ _ _ _ _ => hRg
  k_dflt refine' iter_rangeUnr (n := 3) (by exact rfl) hRg (small_one (by decide) (by decide) (by decide) (by decide)) (by decide) (by k_asm) (by k_asm) ?_
  intro I hI
  refine rangeInd (fun i m' nw' => nw' = nw ∧ (∀ y : Str, y ≠ "due" → y ≠ "t" → y ≠ "weight" → y ≠ "i" → m' y = m y) ∧ ∃ t3, m' "due" = some (.int (dueF nums drawn told row lacks bk.toNat i) t3)) ?step ?fin _ _ _ _ (Nat.zero_add _) ?init
  case init => exact ⟨rfl, fun y y1 _ _ _ => if_neg y1, _, rfl⟩
  case fin =>
    intro m1 nw hJ hh tk1 F2 N2
    obtain ⟨rfl, hm', t3, hw'⟩ := hJ
    (try dsimp +zetaDelta only)
    exact next _ _ m1 t3 F2 N2 hm' hw'
  case step =>
    intro i m1 nw' hin hJ t hh tk1 F2 N2
    obtain ⟨rfl, hm', t3, hw'⟩ := hJ
    have mm : MapMark := ⟨⟩
    rw [Int.zero_add] at F2
    have h1 := (hm' "numbers" (by decide) (by decide) (by decide) (by decide)).trans hxn
    have h2 := (hm' "drawn" (by decide) (by decide) (by decide) (by decide)).trans hxd
    have h3 := (hm' "told" (by decide) (by decide) (by decide) (by decide)).trans hxt
    have h4 := (hm' "row" (by decide) (by decide) (by decide) (by decide)).trans hxr
    have h5 := (hm' "lacks" (by decide) (by decide) (by decide) (by decide)).trans hxl
    have u1 := List.mem_cons_of_mem (I, itR (0 + ((i + 1 : Nat) : Int)) (((3 : Nat) : Int) - ((i + 1 : Nat) : Int))) hmn
    have u2 := List.mem_cons_of_mem (I, itR (0 + ((i + 1 : Nat) : Int)) (((3 : Nat) : Int) - ((i + 1 : Nat) : Int))) hmd
    have u3 := List.mem_cons_of_mem (I, itR (0 + ((i + 1 : Nat) : Int)) (((3 : Nat) : Int) - ((i + 1 : Nat) : Int))) hmt
    have u4 := List.mem_cons_of_mem (I, itR (0 + ((i + 1 : Nat) : Int)) (((3 : Nat) : Int) - ((i + 1 : Nat) : Int))) hmr
    have u5 := List.mem_cons_of_mem (I, itR (0 + ((i + 1 : Nat) : Int)) (((3 : Nat) : Int) - ((i + 1 : Nat) : Int))) hmq
    have u6 := List.mem_cons_of_mem (I, itR (0 + ((i + 1 : Nat) : Int)) (((3 : Nat) : Int) - ((i + 1 : Nat) : Int))) hmo
    have hq : nums.getD (2 * (i : Int)).toNat 0 = nums.getD (2 * i) 0 := by rw [show (2 * (i : Int)).toNat = 2 * i by omega]
    (k_with "exec For Name Call cons nil" => (k_here; refine stopI ?_))
    k_steps
    unfold Stop
    (k_with "exec For Name Call cons nil" => (k_here; refine stopI ?_))
    have hw0' : (nums.getD (2 * (i : Int)).toNat 0).natAbs < 2 ^ 200 := by rw [hq]; exact hn0 i hin
    k_dflt refine' law_V (rs := []) w bk hb dr q dv lv _ _ drawn (lacks.getD i []) lacks i (nums.getD (2 * (i : Int)).toNat 0) tb _ _ oc _ hin hl3 hoc u2 u5 (hM.mono (fun p hp => .tail _ hp)) hdv hdl rfl (hll i hin) hd9 (hl15 i hin) hw0' B (by k_asm) X T hd hu hL u6 hE (by k_asm) (by walk_at "mlook") (by walk_at "mlook") (by walk_at "mlook") (by walk_at "mlook") ?_
    intro h6 tk6 m6 t6 F6 N6 hm6 hw6
    have e1 := hm6 "numbers" (by decide) (by decide)
    have e2 := hm6 "drawn" (by decide) (by decide)
    have e3 := hm6 "told" (by decide) (by decide)
    have e4 := hm6 "row" (by decide) (by decide)
    have e5 := hm6 "due" (by decide) (by decide)
    have e6 := hm6 "t" (by decide) (by decide)
    have e7 := e3.trans (by walk_at "mlook" : _ = some (.ref tr))
    have e8 := e4.trans (by walk_at "mlook" : _ = some (.ref rw1))
    have e9 := e5.trans (by walk_at "mlook" : _ = some (.int _ t3))
    have e10 := e6.trans (by walk_at "mlook" : _ = some (.int (i : Int) _))
    clear e1 e2 e3 e4 e5 e6
    have hb1 : 1 ≤ told.getD (2 * (i : Int)).toNat 0 ∧ told.getD (2 * (i : Int)).toNat 0 ≤ bk := by rw [show (2 * (i : Int)).toNat = 2 * i by omega]; exact htb _ (by omega)
    have hb2 : 1 ≤ told.getD (2 * (i : Int) + 1).toNat 0 ∧ told.getD (2 * (i : Int) + 1).toNat 0 ≤ bk := by rw [show (2 * (i : Int) + 1).toNat = 2 * i + 1 by omega]; exact htb _ (by omega)
    obtain ⟨x1, hx1⟩ : ∃ x, x = told.getD (2 * (i : Int)).toNat 0 := ⟨_, rfl⟩
    obtain ⟨x2, hx2⟩ : ∃ x, x = told.getD (2 * (i : Int) + 1).toNat 0 := ⟨_, rfl⟩
    have hW := prodBnd (n := bk.toNat) hd9 (hl15 i hin) hw0' bk.toNat (Nat.le_refl _)
    have hbig1 : (nums.getD (2 * (i : Int)).toNat 0 * prodF drawn (lacks.getD i []) bk.toNat).natAbs < 2 ^ 8000 := Nat.lt_of_lt_of_le hW (Nat.pow_le_pow_right (by decide) (by omega))
    have hbig2 : (pickF row (told.getD (2 * (i : Int)).toNat 0)).natAbs < 2 ^ 8000 := Nat.lt_of_lt_of_le (pickBnd hrb _) (Nat.pow_le_pow_right (by decide) (by omega))
    have hbig3 : (pickF row (told.getD (2 * (i : Int) + 1).toNat 0)).natAbs < 2 ^ 8000 := Nat.lt_of_lt_of_le (pickBnd hrb _) (Nat.pow_le_pow_right (by decide) (by omega))
    have hbig4 : (nums.getD (2 * (i : Int)).toNat 0 * prodF drawn (lacks.getD i []) bk.toNat * pickF row (told.getD (2 * (i : Int)).toNat 0)).natAbs < 2 ^ 8000 := by
      rw [Int.natAbs_mul]
      refine Nat.lt_of_lt_of_le (Nat.mul_lt_mul'' hW (pickBnd hrb _)) ?_
      rw [← Nat.pow_add]
      exact Nat.pow_le_pow_right (by decide) (by omega)
    have hlenr := hrv.length
    (k_with "subscriptTail" => (k_here; (with_reducible show wpAny _ _ (subscriptTail _ _ (Value.ref _) (Value.int (-_) _)) _ _ _); k_dflt (refine' negInt (by k_asm) (by walk_at "inrest") hrv (by omega) (by omega) (by omega) ?_); k_whole; intro _))
    k_steps
    refine UnrEnd.intro (by k_asm) (by k_asm) nw' (fun p hp => hp) (fun p hp => Nat.ne_of_lt (hI p hp)) ⟨rfl, fun y y1 y2 y3 y4 => ?g1, ?t3, ?g2⟩
    case g2 =>
      dsimp only
      rw [if_pos rfl]
      show _ = some (Value.int (dueF nums drawn told row lacks bk.toNat i + nums.getD (2 * i) 0 * prodF drawn (lacks.getD i []) bk.toNat * pickF row (told.getD (2 * i) 0) * pickF row (told.getD (2 * i + 1) 0)) _)
      rw [show (2 * (i : Int)).toNat = 2 * i by omega, show (2 * (i : Int) + 1).toNat = 2 * i + 1 by omega]
    case g1 =>
      dsimp only
      rw [if_neg y1, hm6 y y3 y4]
      rw [if_neg y3, if_neg y2]; exact hm' y y1 y2 y3 y4
end
section
example (w : World) : (rwQ = rwQ) ∧ (Kq w.params = Kq w.params) := by
  k_with_none
  k_fill
  (k_with "B" => k_asm)
  (k_with "K" => first | exact rfl | assumption)
  (k_with "C" => first | assumption | trivial)
  (k_with "D" => first | (change dp + 1 + _ < _; omega) | omega | ktr_room)
  (k_with "U" => first | (change un + 3 + _ < _; omega) | omega | ktr_units)
  (k_with "call builtin:divmod" => ((with_reducible show wpAny _ _ (call (Value.builtin _) [Value.int _ _, Value.int _ _]) _ _ _); (rename SmallDiv _ => hSd); refine divmod_N (by assumption) (by assumption) (by assumption) ?_ (Or.inl (PyProof.noPylong_of_log2 hSd)); intro _ _ _))
  (k_with "binaryOp FloorDiv int int" => ((rename SmallDiv _ => hSd); refine floordiv_sd hSd (by first | assumption | omega) ?_))
  (k_with "AllLt" => first | assumption | exact And.right (by assumption) | exact And.right (And.right (by assumption)) | exact And.right (And.right (And.right (by assumption))) | exact And.right (And.right (And.right (And.right (by assumption)))) | exact And.right (And.right (And.right (And.right (And.right (by assumption))))) | exact And.right (And.right (And.right (And.right (And.right (And.right (by assumption)))))) | exact And.right (And.right (And.right (And.right (And.right (And.right (And.right (by assumption)))))))  | exact And.right (And.right (And.right (And.right (And.right (And.right (And.right (And.right (by assumption)))))))))
  (k_with "k_all" => first | with_reducible assumption | exact allNe0 (by walk_at "AllLt") | exact allNe1 (by walk_at "AllLt") | exact allNe2 (by walk_at "AllLt") | exact allNe3 (by walk_at "AllLt") | exact List.forall_mem_nil _ | (refine' List.forall_mem_cons.mpr ⟨?_, ?_⟩; (focus k_ne); k_all))
  (k_with "binaryOp Mult ref int" => (k_here; (rename CntOk _ => hCo); k_dflt (refine' mulRep (by k_asm) (by k_asm) (by k_mem) hCo ?_); k_whole; intro l' h' F' N' l1; (try k_lt l1); (try k_sweep)))
  (k_with "enter" => (refine wpAny_call ?_; k_dflt cell_enter))
  (k_with "enter C" => (refine wpAny_call ?_; k_dflt ((refine' code_defC (by k_asm) (by k_asm) (by k_asm) (by k_asm) (by k_asm) (by exact rfl) (by exact rfl) (by assumption) (by k_is) (by k_is) (by ktr_room) (by exact BindsTo.of_eq rfl) (by exact rfl) (by decide +kernel) ?_ (by exact rfl) (by exact rfl) (by exact rfl)); k_whole; intro g' L' h' tk' cells' FG' F' N' Y' B' X' T' l1; (try k_lt l1); k_cells Y'; (try simp only [List.cons_append, List.nil_append] at N'); (try dsimp only); (try k_lift B'); (try k_fold))))
  (k_with "enter N" => (refine wpAny_call ?_; k_dflt (refine' code_nest (by k_asm) (by k_asm) (by k_asm) (by k_asm) (by k_asm) (by exact rfl) (by exact rfl) (by assumption) (by walk_at "inrest") (codeRec_news (by k_asm) (by walk_at "inrest") (by assumption) (by assumption)) (by ktr_room) (by exact BindsTo.of_eq rfl) (by exact locs rfl) ?_ (by exact rfl) (by exact rfl) (by exact rfl) (by decide); k_whole; intro g' L' h' FG' F' N' B' X' T'; (try dsimp only); (try k_lift B'))))
  (k_with "eval Name" => (k_here; kc_free; k_dflt (refine' nameX_F (by k_asm) (by exact rfl) (by walk_at "inrest") (by with_reducible assumption) ?_ (by exact rfl) (by exact rfl)); k_whole))
  (k_with "inrest" => first | with_reducible assumption | exact List.mem_cons_self .. | assumption | (refine List.mem_cons_of_mem _ ?_; walk_at "inrest"))
  (k_with "FnAt" => (k_dflt (exact FnAt.of (by k_asm) (by walk_at "inrest"))))
  (k_with "callWith ref" => (k_here; kn_here; k_dflt (first
    | (refine' callWith_F (FnAt.of (by k_asm) (by walk_at "inrest")) ?_; k_whole)
    | (refine' callWith_F0 (FnAt.of (by k_asm) (by walk_at "inrest")) ?_; k_whole; try dsimp only [List.nil_append, List.cons_append]))))
  (k_with "mulok" => first | assumption | exact PySem.IntMulOk.of_left (bits64 (by omega)) | exact PySem.IntMulOk.of_right (bits64 (by omega)))
  (k_with "binaryOp Mult int int" => (k_here; k_dflt (refine mul_int ?_ (by walk_at "mulok"))))
  (k_with "setItem ref int" => (k_here; (with_reducible show wpAny _ _ (setItem (Value.ref _) (Value.int _ _) (Value.int _ _)) _ _ _); k_dflt (refine' ksa_set (by k_asm) (by k_asm) (by k_upd) (by with_reducible assumption) (by omega) (by omega) (by omega) ?_); k_whole; intro h' F' N' hi' hl' hs'; (try k_sweep)))
  (k_with "nn" => first | omega | ((rename ShB _ => hShB); exact (hShB _ (by omega) (by omega)).1))
  (k_with "lsz" => ((rename ShB _ => hShB); (rename BitsB _ => hBB); first | exact lsz_of (BitsB.fdiv _ hBB) (hShB _ (by omega) (by omega)).2 | exact lsz_of hBB (hShB _ (by omega) (by omega)).2))
  (k_with "binaryOp RShift int int" => (k_here; k_dflt (refine rshift_int (by walk_at "nn") ?_)))
  (k_with "binaryOp RShift int int" => (k_here; with_reducible refine rshift1 ?_))
  (k_with "binaryOp LShift int int" => (k_here; k_dflt (refine lshift_int (by walk_at "nn") (by walk_at "lsz") ?_)))
  (k_with "truthy ref" => (k_dflt (refine' truthyLed (by k_asm) (by walk_at "inrest") (by walk_at "lenfit") ?_); intro _))
  (k_with "lenfit" => first | omega | ((have hl9 := IntsAre.length (by assumption)); (try simp only [List.length_map, List.length_replicate] at *); omega))
  (k_with "subscriptTail" => (k_here; (with_reducible show wpAny _ _ (subscriptTail _ _ (Value.ref _) (Value.int _ _)) _ _ _); k_dflt (refine' ksa_sub (by k_asm) (by walk_at "inrest") (by with_reducible assumption) (by omega) (by first | omega | (rw [List.length_map]; omega)) (by omega) ?_ (by with_unfolding_all rfl)); intro _))
  (k_with "call builtin:list.append" => (k_here; k_dflt (refine' appendLed (by k_asm) (by k_asm) (by k_upd) (by walk_at "lenfit") ?_; k_whole); intro h' F' N'; (try k_sweep)))
  (k_with "call builtin:list.reverse" => (k_here; k_dflt (refine' reverseLed (by k_asm) (by k_asm) (by k_upd) (by walk_at "lenfit") ?_; k_whole); intro h' F' N'; (try k_sweep)))
  (k_with "call type:reversed" => (k_here; (with_reducible show wpAny _ _ (call (Value.type _) [Value.ref _]) _ _ _); k_dflt (refine' krv_reversed (by k_asm) (by k_asm) (News.isList (by k_asm) (by walk_at "inrest")) ?_); intro D' h' F' N' lrev; have l1 := lrev; (try k_lt l1); (try k_sweep)))
  (k_with "mlook" => first | with_reducible assumption | exact if_pos rfl | exact rfl | (refine (if_neg (by decide)).trans ?_; walk_at "mlook"))
  (k_with "eval Name" => (k_here; (rename MapMark => hMM); k_dflt (refine' nameX_L (by k_asm) (by walk_at "mlook") ?_ (by rfl) (by rfl)); k_whole))
  (k_with "newList" => (k_here; (with_reducible refine' newList_K (by k_asm) (by k_asm) ?_ (by exact Nat.le_of_ble_eq_true rfl)); k_whole; intro l' h' F' N' lnew; have l1 := lnew; (try k_lt l1); (try k_sweep)))
  (k_with "lsz" => ((rename BitsB _ => hBB); exact lsz_of hBB (by omega)))
  (k_with "newTuple" => (k_here; k_dflt (refine' newTupLed (by k_asm) (by k_asm) (by exact Nat.le_of_ble_eq_true rfl) ?_; k_whole); intro q' h' F' N' ltup; have l1 := ltup; (try k_lt l1); (try k_sweep)))
  (k_with "pick" => first | exact Pick.head | (apply Pick.tail; walk_at "pick"))
  (k_with "sub" => (intro q9 hq9; repeat (first | exact hsub0 _ hq9 | exact hq9 | apply List.mem_cons_of_mem)))
  (k_with "call builtin:len" => ((with_reducible show wpAny _ _ (call (Value.builtin "len") [Value.ref _]) _ _ _); k_dflt (refine' lenLed (by k_asm) (by walk_at "inrest") (by first | walk_at "lenfit" | (simp only [List.length_replicate]; omega)) ?_)))
  (k_with "exec FunctionDef" => (k_here; kn_here; k_dflt (refine' nestDef_K (by exact rfl) (by exact rfl) (by exact rfl) ?_); k_dflt (refine' nestTab (by k_asm) (by k_asm) (by k_asm) (by kn_code) (by exact rfl) (by k_updF) (by assumption) (by walk_at "sub") (by walk_at "AllLt") (List.mem_cons_self ..) (by exact rfl) ?_; k_whole); intro f' c' oc' vs' t' ct' dc' h' tk' ps' F' N' d1' d2' tc' hin' l1 l2; have hin2 := hin'.imp And.right And.right; (try dsimp only at N'); (try k_lt2 l1); (try k_lt l2)))
  (k_with "strB" => first | assumption | exact (Nat.le_of_ble_eq_true rfl) | (simp only [StrB, List.length_append, List.length_cons, List.length_nil] at *; omega))
  (k_with "subscriptTail" => (k_here; (with_reducible show wpAny _ _ (subscriptTail _ _ (Value.str _ _) (Value.ref _)) _ _ _); k_dflt (first | refine' cut_to (by k_asm) (by k_asm) (by walk_at "strB") (by omega) ?_ | refine' cut_ss (by k_asm) (by k_asm) (by walk_at "strB") (by omega) (by omega) ?_); k_whole; intro h' t' k' F' N'; (try k_sweep)))
  (k_with "call builtin:len" => (k_here; (with_reducible show wpAny _ _ (call (Value.builtin "len") [Value.str _ _]) _ _ _); k_dflt (refine' lenStr (by walk_at "strB") ?_); intro _ _))
  (k_with "binaryOp Add str str" => (k_here; k_dflt (refine' addStr (by walk_at "strB") (by walk_at "strB") ?_); intro _ _))
  (k_with "compareOp Eq str str" => (k_here; k_dflt (first | refine' eqStrB (by walk_at "streq") ?_ | refine' eqStr ?_)))
  (k_with "compareOp NotEq str str" => (k_here; k_dflt (first | refine' neStrB (by walk_at "streq") ?_ | refine' neStr ?_)))
  (k_with "getItem str int" => (k_here; k_dflt (refine' strAt (by walk_at "strB") (by omega) (by walk_at "strat") ?_); intro _))
  (k_with "subscriptTail" => (k_here; (with_reducible show wpAny _ _ (subscriptTail _ _ (Value.str _ _) (Value.int _ _)) _ _ _); k_dflt (refine' strAtT (by walk_at "strB") (by first | omega | assumption) (by walk_at "strat") ?_); k_whole; intro _))
  (k_with "exec While" => (k_here; refine stopI ?_))
  (k_with "exec While Compare" => (k_here; refine stopI ?_))
  (k_with "exec While Compare cons nil" => (k_here; refine stopI ?_))
  (k_with "execs cons" => ((with_reducible refine wpAny_execs_cons ?_); (try k_fold)))
  (k_with "eval Call" => k_fold)
  (k_with "eval BinOp" => k_fold)
  (k_with "isTrue" => k_fold)
  (k_with "isTrue Compare" => k_fold)
  (k_with "isTrue BoolOp" => k_fold)
  (k_with "eval Subscript" => k_fold)
  (k_with "subscriptTail" => k_fold)
  (k_with "compareOp" => k_fold)
  exact ⟨rfl, rfl⟩
section
variable {prog : Program} {w : World} {A : Around} {E : Value → Shared → Prop} {s : Shared} {h₀ : Heap} {L : Addr} {m : Str → Option Value} {news : Led} {D : Addr} {dv : List Value} {e0 : Nat} {row : List Int} {value slice : PySem.Expr} {u : Tok} {Q : Value → Shared → Prop}
theorem posInt {x : Int} (N : News h₀ L s.heap news) (hm : (D, listOf dv.toArray e0) ∈ news) (hi : IntsAre dv row) (h0 : 0 ≤ x) (h1 : x < row.length) (hz : row.length ≤ 1000) (h : ∀ t, Q (.int (row.getD x.toNat 0) t) s)
    (hs : subscripted slice false (.ref D) (.int x u) = operate [.ref D, .int x u] (getItem (.ref D) (.int x u)) := by with_unfolding_all rfl) :
    wpAny (model prog w) A (subscriptTail value slice (.ref D) (.int x u)) Q E s := by
  have hl := hi.length
  have hlt : x.toNat < dv.length := by omega
  obtain ⟨t, et⟩ := intsAtD hi x.toNat (List.getElem?_eq_getElem hlt)
  exact posIdx N hm (by omega) (by omega) (by rw [List.getElem?_eq_getElem hlt, et]) (h t) hs
end
theorem neIntSame {prog : Program} {w : World} {A : Around} {E : Value → Shared → Prop} {s : Shared} {a b : Int} {t u : Tok} {Q : Value → Shared → Prop} (e : a = b) (h : Q (.bool false) s) : wpAny (model prog w) A (compareOp .NotEq (.int a t) (.int b u)) Q E s :=
  PyProof.Rows.ne_int (by rw [e, show (b != b) = false from by simp]; exact h)
theorem sgnPow (n : Nat) : ((-1 : Int) ^ n = 1) ∨ ((-1 : Int) ^ n = -1) := by
  induction n with
  | zero => exact .inl rfl
  | succ n ih => rw [Int.pow_succ]; rcases ih with h | h <;> rw [h] <;> decide
theorem abs80 {x : Int} (h : 2 ^ 16 ≤ x ∧ x ≤ 2 ^ 79) : x.natAbs < 2 ^ 80 := by omega
theorem abs16 {x : Int} (h : 2 ^ 16 ≤ x ∧ x ≤ 2 ^ 79) : 2 ^ 16 ≤ x.natAbs := by omega
theorem abs40 {x : Int} (h : 0 ≤ x ∧ x < 2 ^ 40) : x.natAbs < 2 ^ 40 := by omega
theorem absUnder {x S : Int} {n : Nat} (h : 0 ≤ x ∧ x < S) (g : S.natAbs < n) : x.natAbs < n := by omega
theorem absGe {x : Int} {n : Nat} (h : (n : Int) ≤ x) : n ≤ x.natAbs := by omega
theorem big8 {a : Int} {n : Nat} (h : a.natAbs < 2 ^ n) (hn : n ≤ 8000) : a.natAbs < 2 ^ 8000 := Nat.lt_of_lt_of_le h (Nat.pow_le_pow_right (by omega) hn)
theorem sgnMul {T : Int} (h : T = 1 ∨ T = -1) (x : Int) : (T * x).natAbs = x.natAbs := by
  rcases h with h | h
  · rw [h, Int.one_mul]
  · rw [h, Int.neg_mul, Int.one_mul, Int.natAbs_neg]
theorem pick3 {S x y : Int} (hS : 0 < S) : 0 ≤ [0, S - 1, x.fmod S].getD (y.fmod 3).toNat 0 ∧ [0, S - 1, x.fmod S].getD (y.fmod 3).toNat 0 < S := by
  have h1 := fm3 y
  have h2 : 0 ≤ x.fmod S ∧ x.fmod S < S := by
    rw [Int.fmod_eq_emod_of_nonneg _ (Int.le_of_lt hS)]
    exact ⟨Int.emod_nonneg _ (Int.ne_of_gt hS), Int.emod_lt_of_pos _ hS⟩
  have h3 : (y.fmod 3).toNat = 0 ∨ (y.fmod 3).toNat = 1 ∨ (y.fmod 3).toNat = 2 := by omega
  rcases h3 with h | h | h <;> rw [h]
  · exact ⟨Int.le_refl _, hS⟩
  · show 0 ≤ S - 1 ∧ S - 1 < S; omega
  · exact h2
theorem divSgn {S T q r pw due laid : Int} (hS : S = 1 ∨ S = -1) (hz : 0 < r * pw) (hd : due = q * r) (h0 : 0 ≤ laid ∧ laid < r * pw) : (S * (T * due * pw + laid)).fdiv (S * (r * pw)) = T * q ∧ (S * (T * due * pw + laid)).fmod (S * (r * pw)) = S * laid := by
  have e : T * due * pw + laid = laid + (r * pw) * (T * q) := by
    rw [hd, Int.add_comm]
    congr 1
    simp only [Int.mul_comm, Int.mul_left_comm, Int.mul_assoc]
  have h1 : (T * due * pw + laid).fdiv (r * pw) = T * q := by
    rw [e, Int.fdiv_eq_ediv_of_nonneg _ (Int.le_of_lt hz), Int.add_mul_ediv_left _ _ (Int.ne_of_gt hz), Int.ediv_eq_zero_of_lt h0.1 h0.2, Int.zero_add]
  have h2 : (S * (T * due * pw + laid)).fdiv (S * (r * pw)) = T * q := by
    rcases hS with h | h
    · rw [h, Int.one_mul, Int.one_mul]; exact h1
    · rw [h, Int.neg_mul, Int.one_mul, Int.neg_mul, Int.one_mul, Int.neg_fdiv_neg]; exact h1
  refine ⟨h2, ?_⟩
  rw [Int.fmod_def, h2, e, Int.mul_add, Int.mul_assoc S (r * pw) (T * q)]
  omega
theorem dueBnd {q r : Int} (hq : q.natAbs < 2 ^ 1400) (hr : r.natAbs < 2 ^ 1400) : (q * r).natAbs < 2 ^ 2800 := by
  rw [Int.natAbs_mul, show 2800 = 1400 + 1400 from rfl, Nat.pow_add]
  exact Nat.mul_lt_mul'' hq hr
theorem sumBnd {a b : Int} {n k : Nat} (ha : a.natAbs < 2 ^ n) (hb : b.natAbs < 2 ^ k) (h : k ≤ n) : (a + b).natAbs < 2 ^ (n + 1) := by
  have h1 := Int.natAbs_add_le a b
  have h2 := Nat.pow_le_pow_right (n := 2) (by omega) h
  rw [Nat.pow_succ]
  omega
set_option maxRecDepth 100000 in
set_option maxHeartbeats 8000000 in
theorem law_Y (w : World) (bk : Int) (hb : 4 ≤ bk ∧ bk ≤ 7) (rw1 : Addr) (rv : List Value) (g4 : Nat) (row : List Int) (due q vS vT laid : Int) (tb t1 t2 t3 t4 t5 t6 : Tok) (oc : Obj) (rest : Led)
   (hoc : oc.data = .cell (some (.int bk tb))) (hrv : IntsAre rv row) (hrl : bk ≤ row.length) (hrl2 : row.length ≤ 100)
   (hdue : due = q * pickF row bk) (hTT : vT * (vT * q) = q) (f1 : vS.natAbs < 2 ^ 8000) (f2 : laid.natAbs < 2 ^ 8000) (f3 : vT.natAbs < 2 ^ 8000) (f4 : (vT * q).natAbs < 2 ^ 8000) (f5 : q.natAbs < 2 ^ 8000) (f6 : (pickF row bk).natAbs < 2 ^ 8000) (hrw : ∀ p ∈ rest, p.1 ≠ rw1)
   {rs : List Stmt}
   {p : Program} {loose : List Str} {mean : ExcName → Option Value} {mg mb : Str → Option Value} {dp un : Nat} {gd : Option (List Code)} {fa : Addr} {cd : Value} {outer : List Env} {A₀ : Around} {base h₀ : Heap} {L : Addr} {m : Str → Option Value} {s : Shared} {Q : Flow → Shared → Prop} {E : Value → Shared → Prop}
   (B : Below A₀ base outer h₀) (F : Fr h₀ L s.heap m) (X : (Kq w.params).In h₀) (T : Top p loose mean mg mb h₀) (hd : dp + 60 < recursionLimit) (hu : un + 600 < cLine) (hL : 37 < L)
   (hmo : (L + 1, oc) ∈ rest) (N : News h₀ L s.heap ((rw1, listOf rv.toArray g4) :: rest)) (hxr : m "row" = some (.ref rw1)) (hxd : m "due" = some (.int due t1)) (hxe : m "rest" = some (.int (vS * laid) t2)) (hxs : m "side" = some (.int vS t3)) (hxl : m "laid" = some (.int laid t4)) (hxt : m "turn" = some (.int vT t5)) (hxq : m "quotient" = some (.int (vT * q) t6))
   (next : ∀ (h' : Heap) (tk' : Nat) (t4 : Tok), Fr h₀ L h' m → News h₀ L h' ((rw1, listOf (rv ++ [Value.int q t4]).toArray (g4 + 1)) :: rest) →
     wpAny (model LP w) (ktrTop dp un gd "law" lawS L fa cd [("back", L + 1)] outer) (execs rs (envX "law" lawS L fa cd [("back", L + 1)])) Q E { s with heap := h', toks := tk' }) :
   wpAny (model LP w) (ktrTop dp un gd "law" lawS L fa cd [("back", L + 1)] outer) (execs (stN 8 lawFB :: stN 9 lawFB :: rs) (envX "law" lawS L fa cd [("back", L + 1)])) Q E s := by
  have mm : MapMark := ⟨⟩
  (k_with "big" => with_reducible assumption)
  (k_with "binaryOp Mult int int" => (k_here; k_dflt (refine' mul_int ?_ (mulBig (by walk_at "big") (by walk_at "big")))))
  (k_with "subscriptTail Name UnaryOp ref int" => (k_here; (with_reducible show wpAny _ _ (subscriptTail _ _ (Value.ref _) (Value.int (-_) _)) _ _ _); k_dflt (refine' negInt (by k_asm) (by walk_at "inrest") hrv (by omega) (by omega) (by omega) ?_); k_whole; intro _))
  have u1 : (rw1, listOf rv.toArray g4) ∈ (rw1, listOf rv.toArray g4) :: rest := .head _
  have u3 : (L + 1, oc) ∈ (rw1, listOf rv.toArray g4) :: rest := .tail _ hmo
  have q1 : vS * laid = vS * laid := rfl
  have q2 : vT * (vT * q) * pickF row bk = due := by rw [hTT, hdue]
  (k_with "compareOp NotEq int int" => (k_here; k_dflt (refine' neIntSame (by with_reducible assumption) ?_)))
  have f7 : (vT * (vT * q)).natAbs < 2 ^ 8000 := by rw [hTT]; exact f5
  have hlr := hrv.length
  (conv in stN 8 lawFB => whnf)
  (conv in stN 9 lawFB => whnf)
  (conv in (occs := *) lawS => all_goals whnf)
  k_steps
  rename News _ _ _ _ => N9
  rw [hTT] at N9
  exact next _ _ _ (by k_asm) N9
end
section
example (w : World) : (rwQ = rwQ) ∧ (Kq w.params = Kq w.params) := by
  k_with_none
  k_fill
  (k_with "B" => k_asm)
  (k_with "K" => first | exact rfl | assumption)
  (k_with "C" => first | assumption | trivial)
  (k_with "D" => first | (change dp + 1 + _ < _; omega) | omega | ktr_room)
  (k_with "U" => first | (change un + 3 + _ < _; omega) | omega | ktr_units)
  (k_with "call builtin:divmod" => ((with_reducible show wpAny _ _ (call (Value.builtin _) [Value.int _ _, Value.int _ _]) _ _ _); (rename SmallDiv _ => hSd); refine divmod_N (by assumption) (by assumption) (by assumption) ?_ (Or.inl (PyProof.noPylong_of_log2 hSd)); intro _ _ _))
  (k_with "binaryOp FloorDiv int int" => ((rename SmallDiv _ => hSd); refine floordiv_sd hSd (by first | assumption | omega) ?_))
  (k_with "AllLt" => first | assumption | exact And.right (by assumption) | exact And.right (And.right (by assumption)) | exact And.right (And.right (And.right (by assumption))) | exact And.right (And.right (And.right (And.right (by assumption)))) | exact And.right (And.right (And.right (And.right (And.right (by assumption))))) | exact And.right (And.right (And.right (And.right (And.right (And.right (by assumption)))))) | exact And.right (And.right (And.right (And.right (And.right (And.right (And.right (by assumption)))))))  | exact And.right (And.right (And.right (And.right (And.right (And.right (And.right (And.right (by assumption)))))))))
  (k_with "k_all" => first | with_reducible assumption | exact allNe0 (by walk_at "AllLt") | exact allNe1 (by walk_at "AllLt") | exact allNe2 (by walk_at "AllLt") | exact allNe3 (by walk_at "AllLt") | exact List.forall_mem_nil _ | (refine' List.forall_mem_cons.mpr ⟨?_, ?_⟩; (focus k_ne); k_all))
  (k_with "binaryOp Mult ref int" => (k_here; (rename CntOk _ => hCo); k_dflt (refine' mulRep (by k_asm) (by k_asm) (by k_mem) hCo ?_); k_whole; intro l' h' F' N' l1; (try k_lt l1); (try k_sweep)))
  (k_with "enter" => (refine wpAny_call ?_; k_dflt cell_enter))
  (k_with "enter C" => (refine wpAny_call ?_; k_dflt ((refine' code_defC (by k_asm) (by k_asm) (by k_asm) (by k_asm) (by k_asm) (by exact rfl) (by exact rfl) (by assumption) (by k_is) (by k_is) (by ktr_room) (by exact BindsTo.of_eq rfl) (by exact rfl) (by decide +kernel) ?_ (by exact rfl) (by exact rfl) (by exact rfl)); k_whole; intro g' L' h' tk' cells' FG' F' N' Y' B' X' T' l1; (try k_lt l1); k_cells Y'; (try simp only [List.cons_append, List.nil_append] at N'); (try dsimp only); (try k_lift B'); (try k_fold))))
  (k_with "enter N" => (refine wpAny_call ?_; k_dflt (refine' code_nest (by k_asm) (by k_asm) (by k_asm) (by k_asm) (by k_asm) (by exact rfl) (by exact rfl) (by assumption) (by walk_at "inrest") (codeRec_news (by k_asm) (by walk_at "inrest") (by assumption) (by assumption)) (by ktr_room) (by exact BindsTo.of_eq rfl) (by exact locs rfl) ?_ (by exact rfl) (by exact rfl) (by exact rfl) (by decide); k_whole; intro g' L' h' FG' F' N' B' X' T'; (try dsimp only); (try k_lift B'))))
  (k_with "eval Name" => (k_here; kc_free; k_dflt (refine' nameX_F (by k_asm) (by exact rfl) (by walk_at "inrest") (by with_reducible assumption) ?_ (by exact rfl) (by exact rfl)); k_whole))
  (k_with "inrest" => first | with_reducible assumption | exact List.mem_cons_self .. | assumption | (refine List.mem_cons_of_mem _ ?_; walk_at "inrest"))
  (k_with "FnAt" => (k_dflt (exact FnAt.of (by k_asm) (by walk_at "inrest"))))
  (k_with "callWith ref" => (k_here; kn_here; k_dflt (first
    | (refine' callWith_F (FnAt.of (by k_asm) (by walk_at "inrest")) ?_; k_whole)
    | (refine' callWith_F0 (FnAt.of (by k_asm) (by walk_at "inrest")) ?_; k_whole; try dsimp only [List.nil_append, List.cons_append]))))
  (k_with "mulok" => first | assumption | exact PySem.IntMulOk.of_left (bits64 (by omega)) | exact PySem.IntMulOk.of_right (bits64 (by omega)))
  (k_with "binaryOp Mult int int" => (k_here; k_dflt (refine mul_int ?_ (by walk_at "mulok"))))
  (k_with "setItem ref int" => (k_here; (with_reducible show wpAny _ _ (setItem (Value.ref _) (Value.int _ _) (Value.int _ _)) _ _ _); k_dflt (refine' ksa_set (by k_asm) (by k_asm) (by k_upd) (by with_reducible assumption) (by omega) (by omega) (by omega) ?_); k_whole; intro h' F' N' hi' hl' hs'; (try k_sweep)))
  (k_with "nn" => first | omega | ((rename ShB _ => hShB); exact (hShB _ (by omega) (by omega)).1))
  (k_with "lsz" => ((rename ShB _ => hShB); (rename BitsB _ => hBB); first | exact lsz_of (BitsB.fdiv _ hBB) (hShB _ (by omega) (by omega)).2 | exact lsz_of hBB (hShB _ (by omega) (by omega)).2))
  (k_with "binaryOp RShift int int" => (k_here; k_dflt (refine rshift_int (by walk_at "nn") ?_)))
  (k_with "binaryOp RShift int int" => (k_here; with_reducible refine rshift1 ?_))
  (k_with "binaryOp LShift int int" => (k_here; k_dflt (refine lshift_int (by walk_at "nn") (by walk_at "lsz") ?_)))
  (k_with "truthy ref" => (k_dflt (refine' truthyLed (by k_asm) (by walk_at "inrest") (by walk_at "lenfit") ?_); intro _))
  (k_with "lenfit" => first | omega | ((have hl9 := IntsAre.length (by assumption)); (try simp only [List.length_map, List.length_replicate] at *); omega))
  (k_with "subscriptTail" => (k_here; (with_reducible show wpAny _ _ (subscriptTail _ _ (Value.ref _) (Value.int _ _)) _ _ _); k_dflt (refine' ksa_sub (by k_asm) (by walk_at "inrest") (by with_reducible assumption) (by omega) (by first | omega | (rw [List.length_map]; omega)) (by omega) ?_ (by with_unfolding_all rfl)); intro _))
  (k_with "call builtin:list.append" => (k_here; k_dflt (refine' appendLed (by k_asm) (by k_asm) (by k_upd) (by walk_at "lenfit") ?_; k_whole); intro h' F' N'; (try k_sweep)))
  (k_with "call builtin:list.reverse" => (k_here; k_dflt (refine' reverseLed (by k_asm) (by k_asm) (by k_upd) (by walk_at "lenfit") ?_; k_whole); intro h' F' N'; (try k_sweep)))
  (k_with "call type:reversed" => (k_here; (with_reducible show wpAny _ _ (call (Value.type _) [Value.ref _]) _ _ _); k_dflt (refine' krv_reversed (by k_asm) (by k_asm) (News.isList (by k_asm) (by walk_at "inrest")) ?_); intro D' h' F' N' lrev; have l1 := lrev; (try k_lt l1); (try k_sweep)))
  (k_with "mlook" => first | with_reducible assumption | exact if_pos rfl | exact rfl | (refine (if_neg (by decide)).trans ?_; walk_at "mlook"))
  (k_with "eval Name" => (k_here; (rename MapMark => hMM); k_dflt (refine' nameX_L (by k_asm) (by walk_at "mlook") ?_ (by rfl) (by rfl)); k_whole))
  (k_with "newList" => (k_here; (with_reducible refine' newList_K (by k_asm) (by k_asm) ?_ (by exact Nat.le_of_ble_eq_true rfl)); k_whole; intro l' h' F' N' lnew; have l1 := lnew; (try k_lt l1); (try k_sweep)))
  (k_with "lsz" => ((rename BitsB _ => hBB); exact lsz_of hBB (by omega)))
  (k_with "newTuple" => (k_here; k_dflt (refine' newTupLed (by k_asm) (by k_asm) (by exact Nat.le_of_ble_eq_true rfl) ?_; k_whole); intro q' h' F' N' ltup; have l1 := ltup; (try k_lt l1); (try k_sweep)))
  (k_with "pick" => first | exact Pick.head | (apply Pick.tail; walk_at "pick"))
  (k_with "sub" => (intro q9 hq9; repeat (first | exact hsub0 _ hq9 | exact hq9 | apply List.mem_cons_of_mem)))
  (k_with "call builtin:len" => ((with_reducible show wpAny _ _ (call (Value.builtin "len") [Value.ref _]) _ _ _); k_dflt (refine' lenLed (by k_asm) (by walk_at "inrest") (by first | walk_at "lenfit" | (simp only [List.length_replicate]; omega)) ?_)))
  (k_with "exec FunctionDef" => (k_here; kn_here; k_dflt (refine' nestDef_K (by exact rfl) (by exact rfl) (by exact rfl) ?_); k_dflt (refine' nestTab (by k_asm) (by k_asm) (by k_asm) (by kn_code) (by exact rfl) (by k_updF) (by assumption) (by walk_at "sub") (by walk_at "AllLt") (List.mem_cons_self ..) (by exact rfl) ?_; k_whole); intro f' c' oc' vs' t' ct' dc' h' tk' ps' F' N' d1' d2' tc' hin' l1 l2; have hin2 := hin'.imp And.right And.right; (try dsimp only at N'); (try k_lt2 l1); (try k_lt l2)))
  (k_with "strB" => first | assumption | exact (Nat.le_of_ble_eq_true rfl) | (simp only [StrB, List.length_append, List.length_cons, List.length_nil] at *; omega))
  (k_with "subscriptTail" => (k_here; (with_reducible show wpAny _ _ (subscriptTail _ _ (Value.str _ _) (Value.ref _)) _ _ _); k_dflt (first | refine' cut_to (by k_asm) (by k_asm) (by walk_at "strB") (by omega) ?_ | refine' cut_ss (by k_asm) (by k_asm) (by walk_at "strB") (by omega) (by omega) ?_); k_whole; intro h' t' k' F' N'; (try k_sweep)))
  (k_with "call builtin:len" => (k_here; (with_reducible show wpAny _ _ (call (Value.builtin "len") [Value.str _ _]) _ _ _); k_dflt (refine' lenStr (by walk_at "strB") ?_); intro _ _))
  (k_with "binaryOp Add str str" => (k_here; k_dflt (refine' addStr (by walk_at "strB") (by walk_at "strB") ?_); intro _ _))
  (k_with "compareOp Eq str str" => (k_here; k_dflt (first | refine' eqStrB (by walk_at "streq") ?_ | refine' eqStr ?_)))
  (k_with "compareOp NotEq str str" => (k_here; k_dflt (first | refine' neStrB (by walk_at "streq") ?_ | refine' neStr ?_)))
  (k_with "getItem str int" => (k_here; k_dflt (refine' strAt (by walk_at "strB") (by omega) (by walk_at "strat") ?_); intro _))
  (k_with "subscriptTail" => (k_here; (with_reducible show wpAny _ _ (subscriptTail _ _ (Value.str _ _) (Value.int _ _)) _ _ _); k_dflt (refine' strAtT (by walk_at "strB") (by first | omega | assumption) (by walk_at "strat") ?_); k_whole; intro _))
  (k_with "exec While" => (k_here; refine stopI ?_))
  (k_with "exec While Compare" => (k_here; refine stopI ?_))
  (k_with "exec While Compare cons nil" => (k_here; refine stopI ?_))
  (k_with "execs cons" => ((with_reducible refine wpAny_execs_cons ?_); (try k_fold)))
  (k_with "eval Call" => k_fold)
  (k_with "eval BinOp" => k_fold)
  (k_with "isTrue" => k_fold)
  (k_with "isTrue Compare" => k_fold)
  (k_with "isTrue BoolOp" => k_fold)
  (k_with "eval Subscript" => k_fold)
  (k_with "subscriptTail" => k_fold)
  (k_with "compareOp" => k_fold)
  exact ⟨rfl, rfl⟩
theorem tabStChange {pos : Pos} {qual : Str} {ps : Array Value} {news news' : Led} (h : TabSt pos qual ps news) (hs : ∀ p ∈ news, (∀ vs, p.2.data ≠ .fields vs) ∨ p ∈ news') : TabSt pos qual ps news' := by
  rcases h with h | ⟨c, oc, vs, t, a, b, d, e⟩
  · exact .inl h
  · rcases hs _ b with q | q
    · exact absurd d (q vs)
    · exact .inr ⟨c, oc, vs, t, a, q, d, e⟩
theorem Tabs.change {p30 p37 : Array Value} {r : Addr} {va vb : List Value} {g g' : Nat} {ex rest : Led} (h : Tabs p30 p37 (ex ++ (r, listOf va.toArray g) :: rest)) : Tabs p30 p37 ((r, listOf vb.toArray g') :: (ex ++ rest)) := by
  obtain ⟨h1, h2, h3, h4⟩ := h
  have k : ∀ p ∈ ex ++ (r, listOf va.toArray g) :: rest, (∀ vs, p.2.data ≠ .fields vs) ∨ p ∈ (r, listOf vb.toArray g') :: (ex ++ rest) := fun p hp => by
    rcases List.mem_append.mp hp with hp | hp
    · exact .inr (.tail _ (List.mem_append_left _ hp))
    · rcases List.mem_cons.mp hp with e | hp
      · refine .inl fun vs q => ?_
        rw [e] at q; cases q
      · exact .inr (.tail _ (List.mem_append_right _ hp))
  have n : ∀ a, (∀ p ∈ ex ++ (r, listOf va.toArray g) :: rest, p.1 ≠ a) → ∀ p ∈ (r, listOf vb.toArray g') :: (ex ++ rest), p.1 ≠ a := fun a h p hp => by
    rcases List.mem_cons.mp hp with e | hp
    · rw [e]; exact h (r, listOf va.toArray g) (List.mem_append_right _ (.head _))
    · rcases List.mem_append.mp hp with hp | hp
      · exact h p (List.mem_append_left _ hp)
      · exact h p (List.mem_append_right _ (.tail _ hp))
  exact ⟨n _ h1, n _ h2, tabStChange h3 k, tabStChange h4 k⟩
set_option maxRecDepth 100000 in
set_option maxHeartbeats 8000000 in
theorem law_X (w : World) (bk : Int) (hb : 4 ≤ bk ∧ bk ≤ 7) (k : Nat) (hk : k < 11) (cc rw1 : Addr) (cv rv : List Value) (g3 g4 : Nat) (cs row : List Int) (pw due q : Int) (tb t1 t2 t3 : Tok) (oc : Obj) (p30 p37 : Array Value) (rest : Led)
   (hoc : oc.data = .cell (some (.int bk tb))) (hmc : (cc, listOf cv.toArray g3) ∈ rest) (hcv : IntsAre cv cs) (hcl : cs.length = 11) (hcb : ∀ c ∈ cs, 0 ≤ c ∧ c < 2 ^ 40) (hrv : IntsAre rv row) (hrl : bk ≤ row.length) (hrl2 : row.length ≤ 100)
   (hpw : 2 ^ 16 ≤ pw ∧ pw ≤ 2 ^ 79) (hdue : due = q * pickF row bk) (hr : 1 ≤ pickF row bk) (hr2 : (pickF row bk).natAbs < 2 ^ 1400) (hq : 1 ≤ q) (hq2 : q.natAbs < 2 ^ 1400) (hrw : ∀ p ∈ rest, p.1 ≠ rw1) (hT : Tabs p30 p37 ((rw1, listOf rv.toArray g4) :: rest))
   {rs : List Stmt}
   {p : Program} {loose : List Str} {mean : ExcName → Option Value} {mg mb : Str → Option Value} {dp un : Nat} {gd : Option (List Code)} {fa : Addr} {cd : Value} {outer : List Env} {A₀ : Around} {base h₀ : Heap} {L : Addr} {m : Str → Option Value} {s : Shared} {Q : Flow → Shared → Prop} {E : Value → Shared → Prop}
   (B : Below A₀ base outer h₀) (F : Fr h₀ L s.heap m) (X : (Kq w.params).In h₀) (T : Top p loose mean mg mb h₀) (hd : dp + 60 < recursionLimit) (hu : un + 600 < cLine) (hL : 37 < L)
   (hmo : (L + 1, oc) ∈ rest) (hcd : CodeHd base 34 30 ∧ CodeHd base 41 37) (N : News h₀ L s.heap ((30, tabObj p30) :: (37, tabObj p37) :: (rw1, listOf rv.toArray g4) :: rest)) (hxr : m "row" = some (.ref rw1)) (hxc : m "cells" = some (.ref cc)) (hxp : m "power" = some (.int pw t1)) (hxk : m "k" = some (.int (k : Int) t2)) (hxd : m "due" = some (.int due t3))
   (next : ∀ (h' : Heap) (tk' : Nat) (m' : Str → Option Value) (t4 : Tok) (p30' p37' : Array Value) (ex : Led), Fr h₀ L h' m' → News h₀ L h' ((30, tabObj p30') :: (37, tabObj p37') :: (rw1, listOf (rv ++ [Value.int q t4]).toArray (g4 + 1)) :: (ex ++ rest)) → Tabs p30' p37' ((rw1, listOf (rv ++ [Value.int q t4]).toArray (g4 + 1)) :: (ex ++ rest)) →
     (∀ e ∈ ex, ∀ p ∈ (30, tabObj p30) :: (37, tabObj p37) :: (rw1, listOf rv.toArray g4) :: rest, p.1 < e.1) → (∀ y : Str, y ≠ "size" → y ≠ "laid" → y ≠ "side" → y ≠ "turn" → y ≠ "quotient" → y ≠ "rest" → m' y = m y) →
     wpAny (model LP w) (ktrTop dp un gd "law" lawS L fa cd [("back", L + 1)] outer) (execs rs (envX "law" lawS L fa cd [("back", L + 1)])) Q E { s with heap := h', toks := tk' }) :
   wpAny (model LP w) (ktrTop dp un gd "law" lawS L fa cd [("back", L + 1)] outer) (execs (stN 3 lawFB :: stN 4 lawFB :: stN 5 lawFB :: stN 6 lawFB :: stN 7 lawFB :: stN 8 lawFB :: stN 9 lawFB :: rs) (envX "law" lawS L fa cd [("back", L + 1)])) Q E s := by
  have mm : MapMark := ⟨⟩
  (k_with "call ref" => (refine stopI ?_))
  (k_with "big" => first | with_reducible assumption | omega)
  (k_with "binaryOp Mult int int" => (k_here; k_dflt (refine' mul_int ?_ (mulBig (by walk_at "big") (by walk_at "big")))))
  (k_with "binaryOp Pow int int" => (k_here; k_dflt (refine' pow_int_small (by walk_at "big") (by walk_at "big") (by walk_at "big") ?_)))
  (k_with "subscriptTail Name UnaryOp ref int" => (k_here; (with_reducible show wpAny _ _ (subscriptTail _ _ (Value.ref _) (Value.int (-_) _)) _ _ _); k_dflt (refine' negInt (by k_asm) (by walk_at "inrest") hrv (by omega) (by omega) (by omega) ?_); k_whole; intro _))
  have u1 : (rw1, listOf rv.toArray g4) ∈ (30, tabObj p30) :: (37, tabObj p37) :: (rw1, listOf rv.toArray g4) :: rest := .tail _ (.tail _ (.head _))
  have u2 : (cc, listOf cv.toArray g3) ∈ (30, tabObj p30) :: (37, tabObj p37) :: (rw1, listOf rv.toArray g4) :: rest := .tail _ (.tail _ (.tail _ hmc))
  have u3 : (L + 1, oc) ∈ (30, tabObj p30) :: (37, tabObj p37) :: (rw1, listOf rv.toArray g4) :: rest := .tail _ (.tail _ (.tail _ hmo))
  obtain ⟨led, hled⟩ : ∃ l, l = (30, tabObj p30) :: (37, tabObj p37) :: (rw1, listOf rv.toArray g4) :: rest := ⟨_, rfl⟩
  rw [← hled] at N u1 u2 u3
  have hbig1 : (pickF row bk).natAbs < 2 ^ 8000 := big8 hr2 (by decide)
  have hbig2 : pw.natAbs < 2 ^ 8000 := big8 (abs80 hpw) (by decide)
  have hc0 : 0 ≤ cs.getD ((k : Nat) : Int).toNat 0 ∧ cs.getD ((k : Nat) : Int).toNat 0 < 2 ^ 40 := by
    have e : ((k : Nat) : Int).toNat = k := rfl
    have hk' : k < cs.length := by omega
    rw [e, List.getD_eq_getElem?_getD, List.getElem?_eq_getElem hk']
    exact hcb _ (List.getElem_mem hk')
  have hbig3 : (cs.getD ((k : Nat) : Int).toNat 0).natAbs < 2 ^ 8000 := big8 (abs40 hc0) (by decide)
  have hbig4 : ((3 : Int) ^ Int.toNat 99).natAbs < 2 ^ 8000 := big8 (n := 160) (by decide +kernel) (by decide)
  have hsz : 0 < pickF row bk * pw := Int.mul_pos (Int.lt_of_lt_of_le (by decide) hr) (Int.lt_of_lt_of_le (by decide) hpw.1)
  have hsz0 : pickF row bk * pw ≠ 0 := Int.ne_of_gt hsz
  (k_with "big" => first | with_reducible assumption | omega)
  have hS1 : ((-1 : Int) ^ ((k : Nat) : Int).toNat = 1) ∨ ((-1 : Int) ^ ((k : Nat) : Int).toNat = -1) := sgnPow _
  have hT1 : ((-1 : Int) ^ (((k : Nat) : Int).fdiv 2).toNat = 1) ∨ ((-1 : Int) ^ (((k : Nat) : Int).fdiv 2).toNat = -1) := sgnPow _
  have f1 : ((-1 : Int) ^ (((k : Nat) : Int).fdiv 2).toNat).natAbs < 2 ^ 8000 := by rcases hT1 with h | h <;> rw [h] <;> exact big8 (n := 1) (by decide) (by decide)
  have f4 : ((-1 : Int) ^ ((k : Nat) : Int).toNat).natAbs < 2 ^ 8000 := by rcases hS1 with h | h <;> rw [h] <;> exact big8 (n := 1) (by decide) (by decide)
  have g2 : due.natAbs < 2 ^ 2800 := hdue ▸ dueBnd hq2 hr2
  have f2 : due.natAbs < 2 ^ 8000 := big8 g2 (by decide)
  have gg3 : ((-1 : Int) ^ (((k : Nat) : Int).fdiv 2).toNat * due).natAbs < 2 ^ 2800 := by rw [sgnMul hT1]; exact g2
  have f3 : ((-1 : Int) ^ (((k : Nat) : Int).fdiv 2).toNat * due).natAbs < 2 ^ 8000 := big8 gg3 (by decide)
  have gp := abs80 hpw
  have g5 : ((-1 : Int) ^ (((k : Nat) : Int).fdiv 2).toNat * due * pw).natAbs < 2 ^ 2880 := by
    rw [Int.natAbs_mul, show 2880 = 2800 + 80 from rfl, Nat.pow_add]; exact Nat.mul_lt_mul'' gg3 gp
  have g6 : (pickF row bk * pw).natAbs < 2 ^ 1480 := by
    rw [Int.natAbs_mul, show 1480 = 1400 + 80 from rfl, Nat.pow_add]; exact Nat.mul_lt_mul'' hr2 gp
  have f6 : (pickF row bk * pw).natAbs < 2 ^ 8000 := big8 g6 (by decide)
  have hl := pick3 (S := pickF row bk * pw) (x := cs.getD ((k : Nat) : Int).toNat 0 * 3 ^ Int.toNat 99) (y := cs.getD ((k : Nat) : Int).toNat 0) hsz
  have g7 : ([0, pickF row bk * pw - 1, (cs.getD ((k : Nat) : Int).toNat 0 * 3 ^ Int.toNat 99).fmod (pickF row bk * pw)].getD ((cs.getD ((k : Nat) : Int).toNat 0).fmod 3).toNat 0).natAbs < 2 ^ 1480 := absUnder hl g6
  have g8 := sumBnd g5 g7 (by decide)
  have f5 := big8 g8 (by decide)
  (k_with "subscriptTail List BinOp ref int" => (k_here; k_dflt (refine' posInt (by k_asm) (by walk_at "inrest") (by repeat (first | exact .nil | refine .cons _ _ ?_)) (fm3 _).1 (by exact (fm3 _).2) (by decide) ?_); k_whole; intro _))
  (conv in stN 3 lawFB => whnf)
  (conv in stN 4 lawFB => whnf)
  (conv in stN 5 lawFB => whnf)
  (conv in stN 6 lawFB => whnf)
  (conv in stN 7 lawFB => whnf)
  (k_with "execs cons" => ((with_reducible show wpAny _ _ (execs (stN 8 lawFB :: _) _) _ _ _); refine stopI ?_))
  (conv in (occs := *) lawS => all_goals whnf)
  k_steps
  unfold Stop
  rename News _ _ _ _ => N7
  have N8 : News h₀ L _ ((30, tabObj p30) :: (37, tabObj p37) :: (rw1, listOf rv.toArray g4) :: rest) := fun p hp => N7 p (.tail _ (hled ▸ hp))
  have hdv := divSgn (T := (-1 : Int) ^ (((k : Nat) : Int).fdiv 2).toNat) hS1 hsz hdue hl
  have hdm : DmOk ((-1 : Int) ^ ((k : Nat) : Int).toNat * ((-1 : Int) ^ (((k : Nat) : Int).fdiv 2).toNat * due * pw + [0, pickF row bk * pw - 1, (cs.getD ((k : Nat) : Int).toNat 0 * 3 ^ Int.toNat 99).fmod (pickF row bk * pw)].getD ((cs.getD ((k : Nat) : Int).toNat 0).fmod 3).toNat 0)) ((-1 : Int) ^ ((k : Nat) : Int).toNat * (pickF row bk * pw)) := by
    refine ⟨?_, ?_, ?_⟩
    · rw [sgnMul hS1]; exact Nat.lt_of_lt_of_le g8 (Nat.pow_le_pow_right (by decide) (by decide))
    · rw [sgnMul hS1, Int.natAbs_mul]
      have h1 : 1 ≤ (pickF row bk).natAbs := absGe hr
      have h2 : 2 ^ 16 ≤ pw.natAbs := abs16 hpw
      exact Nat.le_trans h2 (Nat.le_mul_of_pos_left _ h1)
    · rw [sgnMul hS1]; exact Nat.lt_of_lt_of_le g6 (Nat.pow_le_pow_right (by decide) (by decide))
  k_dflt refine' ctUseN N8 (intdm_ct w _ _ hdm _ _ _ p30 p37 hT) B (by k_asm) X T (by exact rfl) hcd (by omega) (by omega) ?_
  intro v nw h' tk' hp F' N'
  obtain ⟨q1, t5, t6, p30', p37', ex, hv, hnw, hT', lq, lex⟩ := hp
  k_unfold
  subst hv hnw
  rw [hdv.1, hdv.2] at N'
  clear N7 N8
  obtain ⟨led2, hled2⟩ : ∃ l, l = (30, tabObj p30') :: (37, tabObj p37') :: (ex ++ rest) := ⟨_, rfl⟩
  have N9 : News h₀ L h' ((q1, tupObj #[.int ((-1 : Int) ^ (((k : Nat) : Int).fdiv 2).toNat * q) t5, .int ((-1 : Int) ^ ((k : Nat) : Int).toNat * [0, pickF row bk * pw - 1, (cs.getD ((k : Nat) : Int).toNat 0 * 3 ^ Int.toNat 99).fmod (pickF row bk * pw)].getD ((cs.getD ((k : Nat) : Int).toNat 0).fmod 3).toNat 0) t6]) :: (rw1, listOf rv.toArray g4) :: led2) := fun p hp => N' p (by
    rw [hled2] at hp
    simp only [List.mem_cons, List.mem_append] at hp ⊢
    rcases hp with h | h | h | h | h | h <;> simp [h])
  clear N'
  have z1 : ∀ p ∈ led2, p.1 ≠ rw1 := fun p hp => by
    rw [hled2] at hp
    rcases List.mem_cons.mp hp with h | hp
    · rw [h]; exact fun e => hT.1 _ (.head _) e.symm
    · rcases List.mem_cons.mp hp with h | hp
      · rw [h]; exact fun e => hT.2.1 _ (.head _) e.symm
      · rcases List.mem_append.mp hp with h | h
        · exact Nat.ne_of_gt (lex p h _ (.tail _ (.tail _ (.head _))))
        · exact hrw p h
  have z2 : (cc, listOf cv.toArray g3) ∈ led2 := hled2 ▸ .tail _ (.tail _ (List.mem_append_right _ hmc))
  have z3 : (L + 1, oc) ∈ led2 := hled2 ▸ .tail _ (.tail _ (List.mem_append_right _ hmo))
  have z4 : ∀ p ∈ (q1, tupObj #[.int ((-1 : Int) ^ (((k : Nat) : Int).fdiv 2).toNat * q) t5, .int ((-1 : Int) ^ ((k : Nat) : Int).toNat * [0, pickF row bk * pw - 1, (cs.getD ((k : Nat) : Int).toNat 0 * 3 ^ Int.toNat 99).fmod (pickF row bk * pw)].getD ((cs.getD ((k : Nat) : Int).toNat 0).fmod 3).toNat 0) t6]) :: led2, p.1 ≠ rw1 := fun p hp => by
    rcases List.mem_cons.mp hp with h | hp
    · rw [h]; exact Nat.ne_of_gt (lq _ (.tail _ (.tail _ (List.mem_append_right _ (.head _)))))
    · exact z1 p hp
  have gq : q.natAbs < 2 ^ 8000 := big8 hq2 (by decide)
  have gq1 : ((-1 : Int) ^ (((k : Nat) : Int).fdiv 2).toNat * q).natAbs < 2 ^ 8000 := by rw [sgnMul hT1]; exact gq
  have gq3 : (-1 : Int) ^ (((k : Nat) : Int).fdiv 2).toNat * ((-1 : Int) ^ (((k : Nat) : Int).fdiv 2).toNat * q) = q := by
    rcases hT1 with h | h <;> rw [h] <;> omega
  have gl : ([0, pickF row bk * pw - 1, (cs.getD ((k : Nat) : Int).toNat 0 * 3 ^ Int.toNat 99).fmod (pickF row bk * pw)].getD ((cs.getD ((k : Nat) : Int).toNat 0).fmod 3).toNat 0).natAbs < 2 ^ 8000 := big8 g7 (by decide)
  have hT2 : Tabs p30' p37' (ex ++ (rw1, listOf rv.toArray g4) :: rest) := hT'
  have SS := show Stop (_ ∧ _ ∧ _ ∧ _ ∧ _) from ⟨hT', lq, lex, hT, hled2⟩
  clear hT' lq lex hT hled2 hled u1 u2 u3 hT2
  dsimp +zetaDelta only
  (k_with "big" => with_reducible assumption)
  k_steps
  unfold Stop
  (try dsimp only)
  rename Fr _ _ _ _ => F9
  rename News _ _ _ _ => N3
  k_dflt refine' law_Y w bk hb rw1 rv g4 row due q ((-1 : Int) ^ ((k : Nat) : Int).toNat) ((-1 : Int) ^ (((k : Nat) : Int).fdiv 2).toNat) ([0, pickF row bk * pw - 1, (cs.getD ((k : Nat) : Int).toNat 0 * 3 ^ Int.toNat 99).fmod (pickF row bk * pw)].getD ((cs.getD ((k : Nat) : Int).toNat 0).fmod 3).toNat 0) tb _ _ _ _ _ _ oc ((q1, tupObj #[.int ((-1 : Int) ^ (((k : Nat) : Int).fdiv 2).toNat * q) t5, .int ((-1 : Int) ^ ((k : Nat) : Int).toNat * [0, pickF row bk * pw - 1, (cs.getD ((k : Nat) : Int).toNat 0 * 3 ^ Int.toNat 99).fmod (pickF row bk * pw)].getD ((cs.getD ((k : Nat) : Int).toNat 0).fmod 3).toNat 0) t6]) :: led2) hoc hrv hrl hrl2 hdue gq3 f4 gl f1 gq1 gq hbig1 z4 B F9 X T hd hu hL (.tail _ z3) ?gN (by walk_at "mlook") (by walk_at "mlook") (by walk_at "mlook") (by walk_at "mlook") (by walk_at "mlook") (by walk_at "mlook") (by walk_at "mlook") ?gnext
  case gN =>
    intro p hp
    rcases List.mem_cons.mp hp with e | hp
    · exact N3 p (e ▸ .tail _ (.head _))
    · rcases List.mem_cons.mp hp with e | hp
      · exact N3 p (e ▸ .head _)
      · exact N3 p (.tail _ (.tail _ hp))
  case gnext =>
    intro h8 tk8 t8 F8 N8
    unfold Stop at SS
    obtain ⟨hT', lq, lex, hT, hled2⟩ := SS
    (try dsimp only)
    refine next h8 tk8 _ t8 p30' p37' ex F8 ?g1 ?g2 lex ?g3
    case g1 =>
      intro p hp
      apply N8
      rw [hled2]
      simp only [List.mem_cons, List.mem_append] at hp ⊢
      rcases hp with h | h | h | h | h <;> simp [h]
    case g2 => exact hT'.change
    case g3 =>
      intro y y1 y2 y3 y4 y5 y6
      rw [if_neg y6, if_neg y5, if_neg y4, if_neg y3, if_neg y2, if_neg y1]
end
theorem Tabs.perm {p30 p37 : Array Value} {l l' : Led} (h : Tabs p30 p37 l) (h1 : ∀ p ∈ l', p ∈ l) (h2 : ∀ p ∈ l, p ∈ l') : Tabs p30 p37 l' :=
  ⟨fun p hp => h.1 p (h1 p hp), fun p hp => h.2.1 p (h1 p hp), tabStMono h.2.2.1 h2, tabStMono h.2.2.2 h2⟩
/-- the tables, behind a call that made the entries ex and stored a longer list at D -/
theorem Tabs.grow {p30 p37 : Array Value} {r D : Addr} {o : Obj} {va vb : List Value} {g g' : Nat} {ex rest : Led} (h : Tabs p30 p37 ((r, o) :: (D, listOf va.toArray g) :: rest)) (hex : ∀ e ∈ ex, 30 < e.1 ∧ 37 < e.1) :
    Tabs p30 p37 ((r, o) :: (ex ++ (D, listOf vb.toArray g') :: rest)) := by
  have k : Tabs p30 p37 ((D, listOf vb.toArray g') :: ([(r, o)] ++ rest)) := Tabs.change (va := va) (g := g) (ex := [(r, o)]) (rest := rest) (h.perm (fun p hp => hp) fun p hp => hp)
  have n : ∀ a : Addr, (∀ e ∈ ex, a < e.1) → (∀ p ∈ (D, listOf vb.toArray g') :: ([(r, o)] ++ rest), p.1 ≠ a) → ∀ p ∈ (r, o) :: (ex ++ (D, listOf vb.toArray g') :: rest), p.1 ≠ a := fun a h1 h2 p hp => by
    simp only [List.mem_cons, List.mem_append] at hp
    rcases hp with e | e | e | e
    · rw [e]; exact h2 (r, o) (.tail _ (.head _))
    · exact Nat.ne_of_gt (h1 p e)
    · rw [e]; exact h2 (D, listOf vb.toArray g') (.head _)
    · exact h2 p (.tail _ (.tail _ e))
  have s : ∀ p ∈ (D, listOf vb.toArray g') :: ([(r, o)] ++ rest), p ∈ (r, o) :: (ex ++ (D, listOf vb.toArray g') :: rest) := fun p hp => by
    simp only [List.mem_cons, List.mem_append, List.mem_singleton] at hp ⊢
    rcases hp with e | (e | e) | e <;> simp_all
  exact ⟨n 30 (fun e he => (hex e he).1) k.1, n 37 (fun e he => (hex e he).2) k.2.1, tabStMono k.2.2.1 s, tabStMono k.2.2.2 s⟩
/-- the degrees and the row ahead of turn k -/
noncomputable def degsK (told : List Int) (n : Nat) : Nat → List (List Int)
  | 0 => degs0 n
  | k + 1 => degsK told n k ++ [newDeg told (degsK told n k)]
noncomputable def rowK (nums drawn told : List Int) (bk : Int) : Nat → List Int
  | 0 => List.replicate bk.toNat 1
  | k + 1 => rowK nums drawn told bk k ++ [dueF nums drawn told (rowK nums drawn told bk k) (lacksF told (degsK told bk.toNat k)) bk.toNat 3 / pickF (rowK nums drawn told bk k) bk]
noncomputable def dueK (nums drawn told : List Int) (bk : Int) (k : Nat) : Int := dueF nums drawn told (rowK nums drawn told bk k) (lacksF told (degsK told bk.toNat k)) bk.toNat 3
noncomputable def qK (nums drawn told : List Int) (bk : Int) (k : Nat) : Int := dueK nums drawn told bk k / pickF (rowK nums drawn told bk k) bk
theorem rowK_succ {nums drawn told : List Int} {bk : Int} {k : Nat} : rowK nums drawn told bk (k + 1) = rowK nums drawn told bk k ++ [qK nums drawn told bk k] := rfl
/-- what turn k wants of the plain law -/
structure PlainAt (nums drawn told : List Int) (bk : Int) (k : Nat) : Prop where
  lack : ∀ t, t < 3 → ∀ i, i < bk.toNat → 0 ≤ ((lacksF told (degsK told bk.toNat k)).getD t []).getD i 0 ∧ ((lacksF told (degsK told bk.toNat k)).getD t []).getD i 0 ≤ 15
  due : dueK nums drawn told bk k = qK nums drawn told bk k * pickF (rowK nums drawn told bk k) bk
  r1 : 1 ≤ pickF (rowK nums drawn told bk k) bk
  r2 : (pickF (rowK nums drawn told bk k) bk).natAbs < 2 ^ 1400
  q1 : 1 ≤ qK nums drawn told bk k
  q2 : (qK nums drawn told bk k).natAbs < 2 ^ 1400
  rb : ∀ x ∈ rowK nums drawn told bk k, x.natAbs < 2 ^ 2900
theorem rowK_len (nums drawn told : List Int) (bk : Int) : ∀ k, (rowK nums drawn told bk k).length = bk.toNat + k
  | 0 => by unfold rowK; rw [List.length_replicate]; rfl
  | k + 1 => by rw [rowK_succ, List.length_append, rowK_len nums drawn told bk k]; rfl
theorem degs0_len (n : Nat) : (degs0 n).length = n := by unfold degs0; rw [List.length_map, List.length_range]
theorem degsK_len (told : List Int) (n : Nat) : ∀ k, (degsK told n k).length = n + k
  | 0 => by unfold degsK; rw [degs0_len]; rfl
  | k + 1 => by unfold degsK; rw [List.length_append, degsK_len told n k]; rfl
theorem degsK_ok {told : List Int} {n : Nat} (hn : 1 ≤ n) (h6 : told.length = 6) (hb : ∀ x ∈ told, 1 ≤ x ∧ x ≤ (n : Int)) : ∀ k, n + k ≤ 100 → DegOk told (degsK told n k) n
  | 0, h => by
    refine ⟨fun d hd => ?_, hn, ?_, ?_, h6, hb⟩
    · unfold degsK degs0 at hd
      obtain ⟨j, _, rfl⟩ := List.mem_map.mp hd
      rw [List.length_map, List.length_range]
    · unfold degsK; rw [degs0_len]; exact Nat.le_refl _
    · unfold degsK; rw [degs0_len]; omega
  | k + 1, h => (degsK_ok hn h6 hb k (by omega)).next (by rw [degsK_len]; omega)
theorem Tabs.more {p30 p37 : Array Value} {l l' : Led} (h : Tabs p30 p37 l) (h1 : ∀ p ∈ l', p ∈ l ∨ (p.1 ≠ 30 ∧ p.1 ≠ 37)) (h2 : ∀ p ∈ l, p ∈ l') : Tabs p30 p37 l' :=
  ⟨fun p hp => (h1 p hp).elim (h.1 p) And.left, fun p hp => (h1 p hp).elim (h.2.1 p) And.right, tabStMono h.2.2.1 h2, tabStMono h.2.2.2 h2⟩
theorem Tabs.less {p30 p37 : Array Value} {l l' : Led} (h : Tabs p30 p37 l) (h1 : ∀ p ∈ l', p ∈ l) (h2 : ∀ p ∈ l, p ∈ l' ∨ ∀ vs, p.2.data = .fields vs → ∀ q t, vs[1]? ≠ some (.str q t)) : Tabs p30 p37 l' := by
  have k : ∀ {pos : Pos} {qual : Str} {ps : Array Value}, TabSt pos qual ps l → TabSt pos qual ps l' := fun g => by
    rcases g with g | ⟨c, oc, vs, t, a, b, d, e⟩
    · exact .inl g
    · rcases h2 _ b with q | q
      · exact .inr ⟨c, oc, vs, t, a, q, d, e⟩
      · exact absurd e (q vs d _ t)
  exact ⟨fun p hp => h.1 p (h1 p hp), fun p hp => h.2.1 p (h1 p hp), k h.2.2.1, k h.2.2.2⟩
theorem itR_fields {x y : Int} {vs : Array Value} (h : (itR x y).data = .fields vs) (q : Str) (t : Tok) : vs[1]? ≠ some (.str q t) := by
  cases h
  intro e
  cases e
section
example (w : World) : (rwQ = rwQ) ∧ (Kq w.params = Kq w.params) := by
  k_with_none
  k_fill
  (k_with "B" => k_asm)
  (k_with "K" => first | exact rfl | assumption)
  (k_with "C" => first | assumption | trivial)
  (k_with "D" => first | (change dp + 1 + _ < _; omega) | omega | ktr_room)
  (k_with "U" => first | (change un + 3 + _ < _; omega) | omega | ktr_units)
  (k_with "call builtin:divmod" => ((with_reducible show wpAny _ _ (call (Value.builtin _) [Value.int _ _, Value.int _ _]) _ _ _); (rename SmallDiv _ => hSd); refine divmod_N (by assumption) (by assumption) (by assumption) ?_ (Or.inl (PyProof.noPylong_of_log2 hSd)); intro _ _ _))
  (k_with "binaryOp FloorDiv int int" => ((rename SmallDiv _ => hSd); refine floordiv_sd hSd (by first | assumption | omega) ?_))
  (k_with "AllLt" => first | assumption | exact And.right (by assumption) | exact And.right (And.right (by assumption)) | exact And.right (And.right (And.right (by assumption))) | exact And.right (And.right (And.right (And.right (by assumption)))) | exact And.right (And.right (And.right (And.right (And.right (by assumption))))) | exact And.right (And.right (And.right (And.right (And.right (And.right (by assumption)))))) | exact And.right (And.right (And.right (And.right (And.right (And.right (And.right (by assumption)))))))  | exact And.right (And.right (And.right (And.right (And.right (And.right (And.right (And.right (by assumption)))))))))
  (k_with "k_all" => first | with_reducible assumption | exact allNe0 (by walk_at "AllLt") | exact allNe1 (by walk_at "AllLt") | exact allNe2 (by walk_at "AllLt") | exact allNe3 (by walk_at "AllLt") | exact List.forall_mem_nil _ | (refine' List.forall_mem_cons.mpr ⟨?_, ?_⟩; (focus k_ne); k_all))
  (k_with "binaryOp Mult ref int" => (k_here; (rename CntOk _ => hCo); k_dflt (refine' mulRep (by k_asm) (by k_asm) (by k_mem) hCo ?_); k_whole; intro l' h' F' N' l1; (try k_lt l1); (try k_sweep)))
  (k_with "enter" => (refine wpAny_call ?_; k_dflt cell_enter))
  (k_with "enter C" => (refine wpAny_call ?_; k_dflt ((refine' code_defC (by k_asm) (by k_asm) (by k_asm) (by k_asm) (by k_asm) (by exact rfl) (by exact rfl) (by assumption) (by k_is) (by k_is) (by ktr_room) (by exact BindsTo.of_eq rfl) (by exact rfl) (by decide +kernel) ?_ (by exact rfl) (by exact rfl) (by exact rfl)); k_whole; intro g' L' h' tk' cells' FG' F' N' Y' B' X' T' l1; (try k_lt l1); k_cells Y'; (try simp only [List.cons_append, List.nil_append] at N'); (try dsimp only); (try k_lift B'); (try k_fold))))
  (k_with "enter N" => (refine wpAny_call ?_; k_dflt (refine' code_nest (by k_asm) (by k_asm) (by k_asm) (by k_asm) (by k_asm) (by exact rfl) (by exact rfl) (by assumption) (by walk_at "inrest") (codeRec_news (by k_asm) (by walk_at "inrest") (by assumption) (by assumption)) (by ktr_room) (by exact BindsTo.of_eq rfl) (by exact locs rfl) ?_ (by exact rfl) (by exact rfl) (by exact rfl) (by decide); k_whole; intro g' L' h' FG' F' N' B' X' T'; (try dsimp only); (try k_lift B'))))
  (k_with "eval Name" => (k_here; kc_free; k_dflt (refine' nameX_F (by k_asm) (by exact rfl) (by walk_at "inrest") (by with_reducible assumption) ?_ (by exact rfl) (by exact rfl)); k_whole))
  (k_with "inrest" => first | with_reducible assumption | exact List.mem_cons_self .. | assumption | (refine List.mem_cons_of_mem _ ?_; walk_at "inrest"))
  (k_with "FnAt" => (k_dflt (exact FnAt.of (by k_asm) (by walk_at "inrest"))))
  (k_with "callWith ref" => (k_here; kn_here; k_dflt (first
    | (refine' callWith_F (FnAt.of (by k_asm) (by walk_at "inrest")) ?_; k_whole)
    | (refine' callWith_F0 (FnAt.of (by k_asm) (by walk_at "inrest")) ?_; k_whole; try dsimp only [List.nil_append, List.cons_append]))))
  (k_with "mulok" => first | assumption | exact PySem.IntMulOk.of_left (bits64 (by omega)) | exact PySem.IntMulOk.of_right (bits64 (by omega)))
  (k_with "binaryOp Mult int int" => (k_here; k_dflt (refine mul_int ?_ (by walk_at "mulok"))))
  (k_with "setItem ref int" => (k_here; (with_reducible show wpAny _ _ (setItem (Value.ref _) (Value.int _ _) (Value.int _ _)) _ _ _); k_dflt (refine' ksa_set (by k_asm) (by k_asm) (by k_upd) (by with_reducible assumption) (by omega) (by omega) (by omega) ?_); k_whole; intro h' F' N' hi' hl' hs'; (try k_sweep)))
  (k_with "nn" => first | omega | ((rename ShB _ => hShB); exact (hShB _ (by omega) (by omega)).1))
  (k_with "lsz" => ((rename ShB _ => hShB); (rename BitsB _ => hBB); first | exact lsz_of (BitsB.fdiv _ hBB) (hShB _ (by omega) (by omega)).2 | exact lsz_of hBB (hShB _ (by omega) (by omega)).2))
  (k_with "binaryOp RShift int int" => (k_here; k_dflt (refine rshift_int (by walk_at "nn") ?_)))
  (k_with "binaryOp RShift int int" => (k_here; with_reducible refine rshift1 ?_))
  (k_with "binaryOp LShift int int" => (k_here; k_dflt (refine lshift_int (by walk_at "nn") (by walk_at "lsz") ?_)))
  (k_with "truthy ref" => (k_dflt (refine' truthyLed (by k_asm) (by walk_at "inrest") (by walk_at "lenfit") ?_); intro _))
  (k_with "lenfit" => first | omega | ((have hl9 := IntsAre.length (by assumption)); (try simp only [List.length_map, List.length_replicate] at *); omega))
  (k_with "subscriptTail" => (k_here; (with_reducible show wpAny _ _ (subscriptTail _ _ (Value.ref _) (Value.int _ _)) _ _ _); k_dflt (refine' ksa_sub (by k_asm) (by walk_at "inrest") (by with_reducible assumption) (by omega) (by first | omega | (rw [List.length_map]; omega)) (by omega) ?_ (by with_unfolding_all rfl)); intro _))
  (k_with "call builtin:list.append" => (k_here; k_dflt (refine' appendLed (by k_asm) (by k_asm) (by k_upd) (by walk_at "lenfit") ?_; k_whole); intro h' F' N'; (try k_sweep)))
  (k_with "call builtin:list.reverse" => (k_here; k_dflt (refine' reverseLed (by k_asm) (by k_asm) (by k_upd) (by walk_at "lenfit") ?_; k_whole); intro h' F' N'; (try k_sweep)))
  (k_with "call type:reversed" => (k_here; (with_reducible show wpAny _ _ (call (Value.type _) [Value.ref _]) _ _ _); k_dflt (refine' krv_reversed (by k_asm) (by k_asm) (News.isList (by k_asm) (by walk_at "inrest")) ?_); intro D' h' F' N' lrev; have l1 := lrev; (try k_lt l1); (try k_sweep)))
  (k_with "mlook" => first | with_reducible assumption | exact if_pos rfl | exact rfl | (refine (if_neg (by decide)).trans ?_; walk_at "mlook"))
  (k_with "eval Name" => (k_here; (rename MapMark => hMM); k_dflt (refine' nameX_L (by k_asm) (by walk_at "mlook") ?_ (by rfl) (by rfl)); k_whole))
  (k_with "newList" => (k_here; (with_reducible refine' newList_K (by k_asm) (by k_asm) ?_ (by exact Nat.le_of_ble_eq_true rfl)); k_whole; intro l' h' F' N' lnew; have l1 := lnew; (try k_lt l1); (try k_sweep)))
  (k_with "lsz" => ((rename BitsB _ => hBB); exact lsz_of hBB (by omega)))
  (k_with "newTuple" => (k_here; k_dflt (refine' newTupLed (by k_asm) (by k_asm) (by exact Nat.le_of_ble_eq_true rfl) ?_; k_whole); intro q' h' F' N' ltup; have l1 := ltup; (try k_lt l1); (try k_sweep)))
  (k_with "pick" => first | exact Pick.head | (apply Pick.tail; walk_at "pick"))
  (k_with "sub" => (intro q9 hq9; repeat (first | exact hsub0 _ hq9 | exact hq9 | apply List.mem_cons_of_mem)))
  (k_with "call builtin:len" => ((with_reducible show wpAny _ _ (call (Value.builtin "len") [Value.ref _]) _ _ _); k_dflt (refine' lenLed (by k_asm) (by walk_at "inrest") (by first | walk_at "lenfit" | (simp only [List.length_replicate]; omega)) ?_)))
  (k_with "exec FunctionDef" => (k_here; kn_here; k_dflt (refine' nestDef_K (by exact rfl) (by exact rfl) (by exact rfl) ?_); k_dflt (refine' nestTab (by k_asm) (by k_asm) (by k_asm) (by kn_code) (by exact rfl) (by k_updF) (by assumption) (by walk_at "sub") (by walk_at "AllLt") (List.mem_cons_self ..) (by exact rfl) ?_; k_whole); intro f' c' oc' vs' t' ct' dc' h' tk' ps' F' N' d1' d2' tc' hin' l1 l2; have hin2 := hin'.imp And.right And.right; (try dsimp only at N'); (try k_lt2 l1); (try k_lt l2)))
  (k_with "strB" => first | assumption | exact (Nat.le_of_ble_eq_true rfl) | (simp only [StrB, List.length_append, List.length_cons, List.length_nil] at *; omega))
  (k_with "subscriptTail" => (k_here; (with_reducible show wpAny _ _ (subscriptTail _ _ (Value.str _ _) (Value.ref _)) _ _ _); k_dflt (first | refine' cut_to (by k_asm) (by k_asm) (by walk_at "strB") (by omega) ?_ | refine' cut_ss (by k_asm) (by k_asm) (by walk_at "strB") (by omega) (by omega) ?_); k_whole; intro h' t' k' F' N'; (try k_sweep)))
  (k_with "call builtin:len" => (k_here; (with_reducible show wpAny _ _ (call (Value.builtin "len") [Value.str _ _]) _ _ _); k_dflt (refine' lenStr (by walk_at "strB") ?_); intro _ _))
  (k_with "binaryOp Add str str" => (k_here; k_dflt (refine' addStr (by walk_at "strB") (by walk_at "strB") ?_); intro _ _))
  (k_with "compareOp Eq str str" => (k_here; k_dflt (first | refine' eqStrB (by walk_at "streq") ?_ | refine' eqStr ?_)))
  (k_with "compareOp NotEq str str" => (k_here; k_dflt (first | refine' neStrB (by walk_at "streq") ?_ | refine' neStr ?_)))
  (k_with "getItem str int" => (k_here; k_dflt (refine' strAt (by walk_at "strB") (by omega) (by walk_at "strat") ?_); intro _))
  (k_with "subscriptTail" => (k_here; (with_reducible show wpAny _ _ (subscriptTail _ _ (Value.str _ _) (Value.int _ _)) _ _ _); k_dflt (refine' strAtT (by walk_at "strB") (by first | omega | assumption) (by walk_at "strat") ?_); k_whole; intro _))
  (k_with "exec While" => (k_here; refine stopI ?_))
  (k_with "exec While Compare" => (k_here; refine stopI ?_))
  (k_with "exec While Compare cons nil" => (k_here; refine stopI ?_))
  (k_with "execs cons" => ((with_reducible refine wpAny_execs_cons ?_); (try k_fold)))
  (k_with "eval Call" => k_fold)
  (k_with "eval BinOp" => k_fold)
  (k_with "isTrue" => k_fold)
  (k_with "isTrue Compare" => k_fold)
  (k_with "isTrue BoolOp" => k_fold)
  (k_with "eval Subscript" => k_fold)
  (k_with "subscriptTail" => k_fold)
  (k_with "compareOp" => k_fold)
  exact ⟨rfl, rfl⟩
noncomputable def turnNames : List Str := ["lacks", "due", "t", "weight", "i", "size", "laid", "side", "turn", "quotient", "rest"]
set_option maxRecDepth 100000 in
set_option maxHeartbeats 8000000 in
theorem law_T (w : World) (bk : Int) (hb : 4 ≤ bk ∧ bk ≤ 7) (k : Nat) (hk : k < 11) (cc nr dr tr Dg rw1 : Addr) (cv nv dv tv gv rv : List Value) (g1 g2 g3 g4 g5 g6 : Nat) (cs nums drawn told row : List Int) (degs : List (List Int)) (pw q : Int) (tb t1 t2 : Tok) (oc : Obj) (p30 p37 : Array Value) (rest : Led)
   (hoc : oc.data = .cell (some (.int bk tb))) (hmc : (cc, listOf cv.toArray g1) ∈ rest) (hmn : (nr, listOf nv.toArray g2) ∈ rest) (hmd : (dr, listOf dv.toArray g3) ∈ rest) (hmt : (tr, listOf tv.toArray g4) ∈ rest)
   (hcv : IntsAre cv cs) (hnv : IntsAre nv nums) (hdv : IntsAre dv drawn) (htv : IntsAre tv told) (hrv : IntsAre rv row) (hM : Mat rest gv degs) (hO : DegOk told degs bk.toNat) (hcl : cs.length = 11) (hcb : ∀ c ∈ cs, 0 ≤ c ∧ c < 2 ^ 40) (hnl : nums.length = 5) (hdl : drawn.length = bk.toNat) (hrl : bk ≤ row.length) (hrl2 : row.length ≤ 100)
   (hd9 : ∀ i, i < bk.toNat → 1 ≤ drawn.getD i 0 ∧ drawn.getD i 0 ≤ 9) (hn0 : ∀ t, t < 3 → (nums.getD (2 * t) 0).natAbs < 2 ^ 200) (htb : ∀ t, t < 6 → 1 ≤ told.getD t 0 ∧ told.getD t 0 ≤ bk)
   (hl15 : ∀ t, t < 3 → ∀ i, i < bk.toNat → 0 ≤ ((lacksF told degs).getD t []).getD i 0 ∧ ((lacksF told degs).getD t []).getD i 0 ≤ 15) (hrb : ∀ x ∈ row, x.natAbs < 2 ^ 2900)
   (hpw : 2 ^ 16 ≤ pw ∧ pw ≤ 2 ^ 79) (hdue : dueF nums drawn told row (lacksF told degs) bk.toNat 3 = q * pickF row bk) (hr : 1 ≤ pickF row bk) (hr2 : (pickF row bk).natAbs < 2 ^ 1400) (hq : 1 ≤ q) (hq2 : q.natAbs < 2 ^ 1400)
   (hrw : ∀ p ∈ rest, p.1 ≠ rw1) (hrD : ∀ p ∈ rest, p.1 ≠ Dg) (hDr : Dg ≠ rw1) (hT : Tabs p30 p37 ((rw1, listOf rv.toArray g6) :: (Dg, listOf gv.toArray g5) :: rest))
   {rs : List Stmt}
   {p : Program} {loose : List Str} {mean : ExcName → Option Value} {mg mb : Str → Option Value} {dp un : Nat} {gd : Option (List Code)} {fa : Addr} {cd : Value} {outer : List Env} {A₀ : Around} {base h₀ : Heap} {L : Addr} {m : Str → Option Value} {s : Shared} {Q : Flow → Shared → Prop} {E : Value → Shared → Prop}
   (B : Below A₀ base outer h₀) (F : Fr h₀ L s.heap m) (X : (Kq w.params).In h₀) (T : Top p loose mean mg mb h₀) (hd : dp + 60 < recursionLimit) (hu : un + 600 < cLine) (hL : 37 < L)
   (hmo : (L + 1, oc) ∈ rest) (hE : PassesOwn (model LP w) (ktrTop dp un gd "law" lawS L fa cd [("back", L + 1)] outer) (envX "law" lawS L fa cd [("back", L + 1)]) E) (hcd : CodeHd base 34 30 ∧ CodeHd base 41 37) (N : News h₀ L s.heap ((30, tabObj p30) :: (37, tabObj p37) :: (rw1, listOf rv.toArray g6) :: (Dg, listOf gv.toArray g5) :: rest)) (hxr : m "row" = some (.ref rw1)) (hxc : m "cells" = some (.ref cc)) (hxp : m "power" = some (.int pw t1)) (hxk : m "k" = some (.int (k : Int) t2)) (hxn : m "numbers" = some (.ref nr)) (hxd : m "drawn" = some (.ref dr)) (hxt : m "told" = some (.ref tr)) (hxg : m "degrees" = some (.ref Dg))
   (next : ∀ (h' : Heap) (tk' : Nat) (m' : Str → Option Value) (t4 : Tok) (p30' p37' : Array Value) (ex : Led) (gv' : List Value) (g' g'' : Nat), Fr h₀ L h' m' → News h₀ L h' ((30, tabObj p30') :: (37, tabObj p37') :: (rw1, listOf (rv ++ [Value.int q t4]).toArray g'') :: (Dg, listOf gv'.toArray g') :: (ex ++ rest)) →
     (∀ sub : Led, Mat sub gv degs → Mat (ex ++ sub) gv' (degs ++ [newDeg told degs])) → Tabs p30' p37' ((rw1, listOf (rv ++ [Value.int q t4]).toArray g'') :: (Dg, listOf gv'.toArray g') :: (ex ++ rest)) →
     (∀ e ∈ ex, ∀ p ∈ (30, tabObj p30) :: (37, tabObj p37) :: (rw1, listOf rv.toArray g6) :: (Dg, listOf gv.toArray g5) :: rest, p.1 < e.1) → (∀ y : Str, y ∉ turnNames → m' y = m y) →
     wpAny (model LP w) (ktrTop dp un gd "law" lawS L fa cd [("back", L + 1)] outer) (execs rs (envX "law" lawS L fa cd [("back", L + 1)])) Q E { s with heap := h', toks := tk' }) :
   wpAny (model LP w) (ktrTop dp un gd "law" lawS L fa cd [("back", L + 1)] outer) (execs (stN 0 lawFB :: stN 1 lawFB :: stN 2 lawFB :: stN 3 lawFB :: stN 4 lawFB :: stN 5 lawFB :: stN 6 lawFB :: stN 7 lawFB :: stN 8 lawFB :: stN 9 lawFB :: rs) (envX "law" lawS L fa cd [("back", L + 1)])) Q E s := by
  have mm : MapMark := ⟨⟩
  (k_with "call ref" => (refine stopI ?_))
  (k_with "execs cons" => ((with_reducible show wpAny _ _ (execs (stN 1 lawFB :: _) _) _ _ _); refine stopI ?_))
  obtain ⟨led, hled⟩ : ∃ l, l = (30, tabObj p30) :: (37, tabObj p37) :: (rw1, listOf rv.toArray g6) :: (Dg, listOf gv.toArray g5) :: rest := ⟨_, rfl⟩
  rw [← hled] at N
  (conv in stN 0 lawFB => whnf)
  (conv in (occs := *) lawS => all_goals whnf)
  k_steps
  unfold Stop
  have N8 : News h₀ L _ ((Dg, listOf gv.toArray g5) :: ((30, tabObj p30) :: (37, tabObj p37) :: (rw1, listOf rv.toArray g6) :: rest)) := fun p hp => N p (by
    rw [hled]; simp only [List.mem_cons] at hp ⊢
    rcases hp with h | h | h | h | h <;> simp [h])
  k_dflt refine' ctUseN N8 (lacks_ct w Dg tr gv tv _ _ degs told bk.toNat _ (hM.mono fun p hp => .tail _ (.tail _ (.tail _ hp))) (.tail _ (.tail _ (.tail _ hmt))) htv hO ?gD) B (by k_asm) X T (by exact rfl) trivial (by omega) (by omega) ?_
  case gD =>
    intro p hp
    simp only [List.mem_cons] at hp
    rcases hp with h | h | h | h
    · rw [h]; exact fun e => hT.1 (Dg, listOf gv.toArray g5) (.tail _ (.head _)) e.symm
    · rw [h]; exact fun e => hT.2.1 (Dg, listOf gv.toArray g5) (.tail _ (.head _)) e.symm
    · rw [h]; exact fun e => hDr e.symm
    · exact hrD p h
  intro v nw h' tk' hp F' N'
  obtain ⟨ql, lv, e1, e2, r', ex, hv, hnw, hML, hMD, hlt⟩ := hp
  k_unfold
  subst hv hnw
  clear N8
  obtain ⟨led2, hled2⟩ : ∃ l, l = (ql, listOf lv.toArray e1) :: (Dg, listOf (gv ++ [Value.ref r']).toArray e2) :: (ex ++ (30, tabObj p30) :: (37, tabObj p37) :: (rw1, listOf rv.toArray g6) :: rest) := ⟨_, rfl⟩
  rw [← hled2] at N'
  dsimp +zetaDelta only
  k_steps
  unfold Stop
  (try dsimp only)
  rename Fr _ _ _ _ => F9
  rename News _ _ _ _ => N3
  have N4 : News h₀ L _ led2 := fun p hp => N3 p (by first | exact hp | exact .tail _ hp)
  clear N3
  have i0 : ∀ p ∈ rest, p ∈ led2 := fun p hp => hled2 ▸ .tail _ (.tail _ (List.mem_append_right _ (.tail _ (.tail _ (.tail _ hp)))))
  have i1 : (rw1, listOf rv.toArray g6) ∈ led2 := hled2 ▸ .tail _ (.tail _ (List.mem_append_right _ (.tail _ (.tail _ (.head _)))))
  have i2 : (ql, listOf lv.toArray e1) ∈ led2 := hled2 ▸ .head _
  have hML2 : Mat led2 lv (lacksF told degs) := hML.mono fun p hp => hled2 ▸ .tail _ (.tail _ hp)
  have h3 : (lacksF told degs).length = 3 := by unfold lacksF; rw [List.length_map, List.length_range]
  have hll : ∀ t, t < 3 → ((lacksF told degs).getD t []).length = bk.toNat := fun t ht => by
    unfold lacksF
    rw [rangeD ht]
    unfold lackRow
    rw [List.length_zipWith, hO.topLen, hO.sumLen ht, Nat.min_self]
  k_dflt refine' law_W w bk hb nr dr tr rw1 ql nv dv tv rv lv _ _ _ _ _ nums drawn told row (lacksF told degs) tb oc led2 h3 hoc (i0 _ hmn) (i0 _ hmd) (i0 _ hmt) i1 i2 hML2 hnv hdv htv hrv hnl hdl hO.six hrl hrl2 hll hd9 hl15 hn0 htb hrb B F9 X T hd hu hL (i0 _ hmo) hE N4 (by walk_at "mlook") (by walk_at "mlook") (by walk_at "mlook") (by walk_at "mlook") (by walk_at "mlook") ?_
  intro h5 tk5 m5 t5 F5 N5 hm5 hd5
  (try dsimp only)
  have r1 : m5 "row" = some (.ref rw1) := (hm5 "row" (by decide) (by decide) (by decide) (by decide)).trans (by walk_at "mlook")
  have r2 : m5 "cells" = some (.ref cc) := (hm5 "cells" (by decide) (by decide) (by decide) (by decide)).trans (by walk_at "mlook")
  have r3 : m5 "power" = some (.int pw t1) := (hm5 "power" (by decide) (by decide) (by decide) (by decide)).trans (by walk_at "mlook")
  have r4 : m5 "k" = some (.int (k : Int) t2) := (hm5 "k" (by decide) (by decide) (by decide) (by decide)).trans (by walk_at "mlook")
  have hold : ∀ e ∈ (ql, listOf lv.toArray e1) :: ex, ∀ p ∈ (30, tabObj p30) :: (37, tabObj p37) :: (rw1, listOf rv.toArray g6) :: (Dg, listOf gv.toArray g5) :: rest, p.1 < e.1 := fun e he p hp => hlt e he p (by
    simp only [List.mem_cons] at hp ⊢
    rcases hp with h | h | h | h | h <;> simp [h])
  have hT2 : Tabs p30 p37 ((rw1, listOf rv.toArray g6) :: ((ql, listOf lv.toArray e1) :: (Dg, listOf (gv ++ [Value.ref r']).toArray e2) :: (ex ++ rest))) := by
    refine (Tabs.grow (vb := gv ++ [Value.ref r']) (g' := e2) (ex := (ql, listOf lv.toArray e1) :: ex) hT fun e he => ⟨hold e he (30, tabObj p30) (.head _), hold e he (37, tabObj p37) (.tail _ (.head _))⟩).perm (fun p hp => ?_) fun p hp => ?_
    · simp only [List.mem_cons, List.mem_append] at hp ⊢
      rcases hp with h | h | h | h | h <;> simp [h]
    · simp only [List.mem_cons, List.mem_append] at hp ⊢
      rcases hp with h | (h | h) | h | h <;> simp [h]
  have N6 : News h₀ L h5 ((30, tabObj p30) :: (37, tabObj p37) :: (rw1, listOf rv.toArray g6) :: ((ql, listOf lv.toArray e1) :: (Dg, listOf (gv ++ [Value.ref r']).toArray e2) :: (ex ++ rest))) := fun p hp => N5 p (by
    rw [hled2]
    simp only [List.mem_cons, List.mem_append] at hp ⊢
    rcases hp with h | h | h | h | h | h | h <;> simp [h])
  have hrw2 : ∀ p ∈ (ql, listOf lv.toArray e1) :: (Dg, listOf (gv ++ [Value.ref r']).toArray e2) :: (ex ++ rest), p.1 ≠ rw1 := fun p hp => by
    have hh : ∀ e ∈ (ql, listOf lv.toArray e1) :: ex, e.1 ≠ rw1 := fun e he => Nat.ne_of_gt (hold e he (rw1, listOf rv.toArray g6) (.tail _ (.tail _ (.head _))))
    simp only [List.mem_cons, List.mem_append] at hp
    rcases hp with h | h | h | h
    · exact hh p (h ▸ .head _)
    · rw [h]; exact hDr
    · exact hh p (.tail _ h)
    · exact hrw p h
  clear F9 N4 N5
  k_dflt refine' law_X w bk hb k hk cc rw1 cv rv _ g6 cs row pw _ q tb t1 t2 t5 oc p30 p37 ((ql, listOf lv.toArray e1) :: (Dg, listOf (gv ++ [Value.ref r']).toArray e2) :: (ex ++ rest)) hoc (.tail _ (.tail _ (List.mem_append_right _ hmc))) hcv hcl hcb hrv hrl hrl2 hpw hdue hr hr2 hq hq2 hrw2 hT2 B F5 X T hd hu hL (.tail _ (.tail _ (List.mem_append_right _ hmo))) hcd N6 r1 r2 r3 r4 hd5 ?_
  intro h7 tk7 m7 t7 p30' p37' ex7 F7 N7 hT7 hex7 hm7
  (try dsimp only)
  refine next h7 tk7 m7 t7 p30' p37' (ex7 ++ (ql, listOf lv.toArray e1) :: ex) (gv ++ [Value.ref r']) e2 (g6 + 1) F7 ?g1 (fun sub hS => (hMD sub hS).mono ?g2) (hT7.perm ?g3 ?g4) ?g5 ?g6
  case g1 =>
    refine fun p hp => N7 p ?_
    simp only [List.mem_cons, List.mem_append] at hp ⊢
    rcases hp with h | h | h | h | (h | h | h) | h <;> simp [h]
  case g2 =>
    simp only [List.mem_append, List.mem_cons]
    intro p hp
    rcases hp with h | h <;> simp [h]
  case g3 =>
    intro p hp
    simp only [List.mem_cons, List.mem_append] at hp ⊢
    rcases hp with h | h | (h | h | h) | h <;> simp [h]
  case g4 =>
    intro p hp
    simp only [List.mem_cons, List.mem_append] at hp ⊢
    rcases hp with h | h | h | h | h | h <;> simp [h]
  case g5 =>
    intro e he p hp
    rcases List.mem_append.mp he with h | h
    · rcases List.mem_cons.mp hp with g | hp
      · rw [g]; exact hex7 e h (30, tabObj p30) (.head _)
      · rcases List.mem_cons.mp hp with g | hp
        · rw [g]; exact hex7 e h (37, tabObj p37) (.tail _ (.head _))
        · rcases List.mem_cons.mp hp with g | hp
          · rw [g]; exact hex7 e h (rw1, listOf rv.toArray g6) (.tail _ (.tail _ (.head _)))
          · rcases List.mem_cons.mp hp with g | hp
            · rw [g]; exact hex7 e h (Dg, listOf (gv ++ [Value.ref r']).toArray e2) (.tail _ (.tail _ (.tail _ (.tail _ (.head _)))))
            · exact hex7 e h p (.tail _ (.tail _ (.tail _ (.tail _ (.tail _ (List.mem_append_right _ hp))))))
    · exact hold e h p hp
  case g6 =>
    intro y hy
    simp only [turnNames, List.mem_cons, not_or] at hy
    obtain ⟨y1, y2, y3, y4, y5, y6, y7, y8, y9, y10, y11, _⟩ := hy
    rw [hm7 y y6 y7 y8 y9 y10 y11, hm5 y y2 y3 y4 y5]
    exact if_neg y1
end
section
example (w : World) : (rwQ = rwQ) ∧ (Kq w.params = Kq w.params) := by
  k_with_none
  k_fill
  (k_with "B" => k_asm)
  (k_with "K" => first | exact rfl | assumption)
  (k_with "C" => first | assumption | trivial)
  (k_with "D" => first | (change dp + 1 + _ < _; omega) | omega | ktr_room)
  (k_with "U" => first | (change un + 3 + _ < _; omega) | omega | ktr_units)
  (k_with "call builtin:divmod" => ((with_reducible show wpAny _ _ (call (Value.builtin _) [Value.int _ _, Value.int _ _]) _ _ _); (rename SmallDiv _ => hSd); refine divmod_N (by assumption) (by assumption) (by assumption) ?_ (Or.inl (PyProof.noPylong_of_log2 hSd)); intro _ _ _))
  (k_with "binaryOp FloorDiv int int" => ((rename SmallDiv _ => hSd); refine floordiv_sd hSd (by first | assumption | omega) ?_))
  (k_with "AllLt" => first | assumption | exact And.right (by assumption) | exact And.right (And.right (by assumption)) | exact And.right (And.right (And.right (by assumption))) | exact And.right (And.right (And.right (And.right (by assumption)))) | exact And.right (And.right (And.right (And.right (And.right (by assumption))))) | exact And.right (And.right (And.right (And.right (And.right (And.right (by assumption)))))) | exact And.right (And.right (And.right (And.right (And.right (And.right (And.right (by assumption)))))))  | exact And.right (And.right (And.right (And.right (And.right (And.right (And.right (And.right (by assumption)))))))))
  (k_with "k_all" => first | with_reducible assumption | exact allNe0 (by walk_at "AllLt") | exact allNe1 (by walk_at "AllLt") | exact allNe2 (by walk_at "AllLt") | exact allNe3 (by walk_at "AllLt") | exact List.forall_mem_nil _ | (refine' List.forall_mem_cons.mpr ⟨?_, ?_⟩; (focus k_ne); k_all))
  (k_with "binaryOp Mult ref int" => (k_here; (rename CntOk _ => hCo); k_dflt (refine' mulRep (by k_asm) (by k_asm) (by k_mem) hCo ?_); k_whole; intro l' h' F' N' l1; (try k_lt l1); (try k_sweep)))
  (k_with "enter" => (refine wpAny_call ?_; k_dflt cell_enter))
  (k_with "enter C" => (refine wpAny_call ?_; k_dflt ((refine' code_defC (by k_asm) (by k_asm) (by k_asm) (by k_asm) (by k_asm) (by exact rfl) (by exact rfl) (by assumption) (by k_is) (by k_is) (by ktr_room) (by exact BindsTo.of_eq rfl) (by exact rfl) (by decide +kernel) ?_ (by exact rfl) (by exact rfl) (by exact rfl)); k_whole; intro g' L' h' tk' cells' FG' F' N' Y' B' X' T' l1; (try k_lt l1); k_cells Y'; (try simp only [List.cons_append, List.nil_append] at N'); (try dsimp only); (try k_lift B'); (try k_fold))))
  (k_with "enter N" => (refine wpAny_call ?_; k_dflt (refine' code_nest (by k_asm) (by k_asm) (by k_asm) (by k_asm) (by k_asm) (by exact rfl) (by exact rfl) (by assumption) (by walk_at "inrest") (codeRec_news (by k_asm) (by walk_at "inrest") (by assumption) (by assumption)) (by ktr_room) (by exact BindsTo.of_eq rfl) (by exact locs rfl) ?_ (by exact rfl) (by exact rfl) (by exact rfl) (by decide); k_whole; intro g' L' h' FG' F' N' B' X' T'; (try dsimp only); (try k_lift B'))))
  (k_with "eval Name" => (k_here; kc_free; k_dflt (refine' nameX_F (by k_asm) (by exact rfl) (by walk_at "inrest") (by with_reducible assumption) ?_ (by exact rfl) (by exact rfl)); k_whole))
  (k_with "inrest" => first | with_reducible assumption | exact List.mem_cons_self .. | assumption | (refine List.mem_cons_of_mem _ ?_; walk_at "inrest"))
  (k_with "FnAt" => (k_dflt (exact FnAt.of (by k_asm) (by walk_at "inrest"))))
  (k_with "callWith ref" => (k_here; kn_here; k_dflt (first
    | (refine' callWith_F (FnAt.of (by k_asm) (by walk_at "inrest")) ?_; k_whole)
    | (refine' callWith_F0 (FnAt.of (by k_asm) (by walk_at "inrest")) ?_; k_whole; try dsimp only [List.nil_append, List.cons_append]))))
  (k_with "mulok" => first | assumption | exact PySem.IntMulOk.of_left (bits64 (by omega)) | exact PySem.IntMulOk.of_right (bits64 (by omega)))
  (k_with "binaryOp Mult int int" => (k_here; k_dflt (refine mul_int ?_ (by walk_at "mulok"))))
  (k_with "setItem ref int" => (k_here; (with_reducible show wpAny _ _ (setItem (Value.ref _) (Value.int _ _) (Value.int _ _)) _ _ _); k_dflt (refine' ksa_set (by k_asm) (by k_asm) (by k_upd) (by with_reducible assumption) (by omega) (by omega) (by omega) ?_); k_whole; intro h' F' N' hi' hl' hs'; (try k_sweep)))
  (k_with "nn" => first | omega | ((rename ShB _ => hShB); exact (hShB _ (by omega) (by omega)).1))
  (k_with "lsz" => ((rename ShB _ => hShB); (rename BitsB _ => hBB); first | exact lsz_of (BitsB.fdiv _ hBB) (hShB _ (by omega) (by omega)).2 | exact lsz_of hBB (hShB _ (by omega) (by omega)).2))
  (k_with "binaryOp RShift int int" => (k_here; k_dflt (refine rshift_int (by walk_at "nn") ?_)))
  (k_with "binaryOp RShift int int" => (k_here; with_reducible refine rshift1 ?_))
  (k_with "binaryOp LShift int int" => (k_here; k_dflt (refine lshift_int (by walk_at "nn") (by walk_at "lsz") ?_)))
  (k_with "truthy ref" => (k_dflt (refine' truthyLed (by k_asm) (by walk_at "inrest") (by walk_at "lenfit") ?_); intro _))
  (k_with "lenfit" => first | omega | ((have hl9 := IntsAre.length (by assumption)); (try simp only [List.length_map, List.length_replicate] at *); omega))
  (k_with "subscriptTail" => (k_here; (with_reducible show wpAny _ _ (subscriptTail _ _ (Value.ref _) (Value.int _ _)) _ _ _); k_dflt (refine' ksa_sub (by k_asm) (by walk_at "inrest") (by with_reducible assumption) (by omega) (by first | omega | (rw [List.length_map]; omega)) (by omega) ?_ (by with_unfolding_all rfl)); intro _))
  (k_with "call builtin:list.append" => (k_here; k_dflt (refine' appendLed (by k_asm) (by k_asm) (by k_upd) (by walk_at "lenfit") ?_; k_whole); intro h' F' N'; (try k_sweep)))
  (k_with "call builtin:list.reverse" => (k_here; k_dflt (refine' reverseLed (by k_asm) (by k_asm) (by k_upd) (by walk_at "lenfit") ?_; k_whole); intro h' F' N'; (try k_sweep)))
  (k_with "call type:reversed" => (k_here; (with_reducible show wpAny _ _ (call (Value.type _) [Value.ref _]) _ _ _); k_dflt (refine' krv_reversed (by k_asm) (by k_asm) (News.isList (by k_asm) (by walk_at "inrest")) ?_); intro D' h' F' N' lrev; have l1 := lrev; (try k_lt l1); (try k_sweep)))
  (k_with "mlook" => first | with_reducible assumption | exact if_pos rfl | exact rfl | (refine (if_neg (by decide)).trans ?_; walk_at "mlook"))
  (k_with "eval Name" => (k_here; (rename MapMark => hMM); k_dflt (refine' nameX_L (by k_asm) (by walk_at "mlook") ?_ (by rfl) (by rfl)); k_whole))
  (k_with "newList" => (k_here; (with_reducible refine' newList_K (by k_asm) (by k_asm) ?_ (by exact Nat.le_of_ble_eq_true rfl)); k_whole; intro l' h' F' N' lnew; have l1 := lnew; (try k_lt l1); (try k_sweep)))
  (k_with "lsz" => ((rename BitsB _ => hBB); exact lsz_of hBB (by omega)))
  (k_with "newTuple" => (k_here; k_dflt (refine' newTupLed (by k_asm) (by k_asm) (by exact Nat.le_of_ble_eq_true rfl) ?_; k_whole); intro q' h' F' N' ltup; have l1 := ltup; (try k_lt l1); (try k_sweep)))
  (k_with "pick" => first | exact Pick.head | (apply Pick.tail; walk_at "pick"))
  (k_with "sub" => (intro q9 hq9; repeat (first | exact hsub0 _ hq9 | exact hq9 | apply List.mem_cons_of_mem)))
  (k_with "call builtin:len" => ((with_reducible show wpAny _ _ (call (Value.builtin "len") [Value.ref _]) _ _ _); k_dflt (refine' lenLed (by k_asm) (by walk_at "inrest") (by first | walk_at "lenfit" | (simp only [List.length_replicate]; omega)) ?_)))
  (k_with "exec FunctionDef" => (k_here; kn_here; k_dflt (refine' nestDef_K (by exact rfl) (by exact rfl) (by exact rfl) ?_); k_dflt (refine' nestTab (by k_asm) (by k_asm) (by k_asm) (by kn_code) (by exact rfl) (by k_updF) (by assumption) (by walk_at "sub") (by walk_at "AllLt") (List.mem_cons_self ..) (by exact rfl) ?_; k_whole); intro f' c' oc' vs' t' ct' dc' h' tk' ps' F' N' d1' d2' tc' hin' l1 l2; have hin2 := hin'.imp And.right And.right; (try dsimp only at N'); (try k_lt2 l1); (try k_lt l2)))
  (k_with "strB" => first | assumption | exact (Nat.le_of_ble_eq_true rfl) | (simp only [StrB, List.length_append, List.length_cons, List.length_nil] at *; omega))
  (k_with "subscriptTail" => (k_here; (with_reducible show wpAny _ _ (subscriptTail _ _ (Value.str _ _) (Value.ref _)) _ _ _); k_dflt (first | refine' cut_to (by k_asm) (by k_asm) (by walk_at "strB") (by omega) ?_ | refine' cut_ss (by k_asm) (by k_asm) (by walk_at "strB") (by omega) (by omega) ?_); k_whole; intro h' t' k' F' N'; (try k_sweep)))
  (k_with "call builtin:len" => (k_here; (with_reducible show wpAny _ _ (call (Value.builtin "len") [Value.str _ _]) _ _ _); k_dflt (refine' lenStr (by walk_at "strB") ?_); intro _ _))
  (k_with "binaryOp Add str str" => (k_here; k_dflt (refine' addStr (by walk_at "strB") (by walk_at "strB") ?_); intro _ _))
  (k_with "compareOp Eq str str" => (k_here; k_dflt (first | refine' eqStrB (by walk_at "streq") ?_ | refine' eqStr ?_)))
  (k_with "compareOp NotEq str str" => (k_here; k_dflt (first | refine' neStrB (by walk_at "streq") ?_ | refine' neStr ?_)))
  (k_with "getItem str int" => (k_here; k_dflt (refine' strAt (by walk_at "strB") (by omega) (by walk_at "strat") ?_); intro _))
  (k_with "subscriptTail" => (k_here; (with_reducible show wpAny _ _ (subscriptTail _ _ (Value.str _ _) (Value.int _ _)) _ _ _); k_dflt (refine' strAtT (by walk_at "strB") (by first | omega | assumption) (by walk_at "strat") ?_); k_whole; intro _))
  (k_with "exec While" => (k_here; refine stopI ?_))
  (k_with "exec While Compare" => (k_here; refine stopI ?_))
  (k_with "exec While Compare cons nil" => (k_here; refine stopI ?_))
  (k_with "execs cons" => ((with_reducible refine wpAny_execs_cons ?_); (try k_fold)))
  (k_with "eval Call" => k_fold)
  (k_with "eval BinOp" => k_fold)
  (k_with "isTrue" => k_fold)
  (k_with "isTrue Compare" => k_fold)
  (k_with "isTrue BoolOp" => k_fold)
  (k_with "eval Subscript" => k_fold)
  (k_with "subscriptTail" => k_fold)
  (k_with "compareOp" => k_fold)
  exact ⟨rfl, rfl⟩
set_option maxRecDepth 100000 in
set_option maxHeartbeats 8000000 in
theorem law_F (w : World) (bk : Int) (hb : 4 ≤ bk ∧ bk ≤ 7) (cc nr dr tr Dg rw1 : Addr) (cv nv dv tv gv rv : List Value) (g1 g2 g3 g4 g5 g6 : Nat) (cs nums drawn told : List Int) (pw : Int) (tb t1 : Tok) (oc : Obj) (p30 p37 : Array Value) (rest : Led)
   (hoc : oc.data = .cell (some (.int bk tb))) (hmc : (cc, listOf cv.toArray g1) ∈ rest) (hmn : (nr, listOf nv.toArray g2) ∈ rest) (hmd : (dr, listOf dv.toArray g3) ∈ rest) (hmt : (tr, listOf tv.toArray g4) ∈ rest)
   (hcv : IntsAre cv cs) (hnv : IntsAre nv nums) (hdv : IntsAre dv drawn) (htv : IntsAre tv told) (hrv : IntsAre rv (List.replicate bk.toNat 1)) (hM : Mat rest gv (degs0 bk.toNat)) (hcl : cs.length = 11) (hcb : ∀ c ∈ cs, 0 ≤ c ∧ c < 2 ^ 40) (hnl : nums.length = 5) (hdl : drawn.length = bk.toNat)
   (hd9 : ∀ i, i < bk.toNat → 1 ≤ drawn.getD i 0 ∧ drawn.getD i 0 ≤ 9) (hn0 : ∀ t, t < 3 → (nums.getD (2 * t) 0).natAbs < 2 ^ 200) (h6 : told.length = 6) (htb : ∀ x ∈ told, 1 ≤ x ∧ x ≤ bk)
   (hP : ∀ k, k < bk.toNat + 4 → PlainAt nums drawn told bk k) (hpw : 2 ^ 16 ≤ pw ∧ pw ≤ 2 ^ 79)
   (hrw : ∀ p ∈ rest, p.1 ≠ rw1) (hrD : ∀ p ∈ rest, p.1 ≠ Dg) (hDr : Dg ≠ rw1) (hT : Tabs p30 p37 ((rw1, listOf rv.toArray g6) :: (Dg, listOf gv.toArray g5) :: rest))
   {rs : List Stmt}
   {p : Program} {loose : List Str} {mean : ExcName → Option Value} {mg mb : Str → Option Value} {dp un : Nat} {gd : Option (List Code)} {fa : Addr} {cd : Value} {outer : List Env} {A₀ : Around} {base h₀ : Heap} {L : Addr} {m : Str → Option Value} {s : Shared} {Q : Flow → Shared → Prop} {E : Value → Shared → Prop}
   (B : Below A₀ base outer h₀) (F : Fr h₀ L s.heap m) (X : (Kq w.params).In h₀) (T : Top p loose mean mg mb h₀) (hd : dp + 60 < recursionLimit) (hu : un + 600 < cLine) (hL : 37 < L)
   (hmo : (L + 1, oc) ∈ rest) (hE : PassesOwn (model LP w) (ktrTop dp un gd "law" lawS L fa cd [("back", L + 1)] outer) (envX "law" lawS L fa cd [("back", L + 1)]) E) (hcd : CodeHd base 34 30 ∧ CodeHd base 41 37) (N : News h₀ L s.heap ((30, tabObj p30) :: (37, tabObj p37) :: (rw1, listOf rv.toArray g6) :: (Dg, listOf gv.toArray g5) :: rest)) (hxr : m "row" = some (.ref rw1)) (hxc : m "cells" = some (.ref cc)) (hxp : m "power" = some (.int pw t1)) (hxn : m "numbers" = some (.ref nr)) (hxd : m "drawn" = some (.ref dr)) (hxt : m "told" = some (.ref tr)) (hxg : m "degrees" = some (.ref Dg))
   (next : ∀ (h' : Heap) (tk' : Nat) (m' : Str → Option Value) (nw : Led) (a b : Array Value), Fr h₀ L h' m' → News h₀ L h' nw → (30, tabObj a) ∈ nw → (37, tabObj b) ∈ nw → wpAny (model LP w) (ktrTop dp un gd "law" lawS L fa cd [("back", L + 1)] outer) (execs rs (envX "law" lawS L fa cd [("back", L + 1)])) Q E { s with heap := h', toks := tk' }) :
   wpAny (model LP w) (ktrTop dp un gd "law" lawS L fa cd [("back", L + 1)] outer) (execs (stN 10 lawB :: rs) (envX "law" lawS L fa cd [("back", L + 1)])) Q E s := by
  have mm : MapMark := ⟨⟩
  have hn : ((bk.toNat : Nat) : Int) = bk := Int.toNat_of_nonneg (by omega)
  have hOk : ∀ k, bk.toNat + k ≤ 100 → DegOk told (degsK told bk.toNat k) bk.toNat := degsK_ok (by omega) h6 (by rw [hn]; exact htb)
  have htb2 : ∀ t, t < 6 → 1 ≤ told.getD t 0 ∧ told.getD t 0 ≤ bk := fun t ht => by
    have ht' : t < told.length := by omega
    rw [List.getD_eq_getElem?_getD, List.getElem?_eq_getElem ht']
    exact htb _ (List.getElem_mem ht')
  (k_with "exec For Name Call cons nil" => (k_here; (rename Fr _ _ _ _ => lF'); (with_unfolding_all refine' For_invVF lF' ?k1 ?k2 ?_ (by intro _; rfl) hE); (case k1 => exact rfl); (case k2 => exact rfl); k_whole))
  (k_with "pyIter ref" => (refine stopI ?_))
  obtain ⟨led, hled⟩ : ∃ l, l = (30, tabObj p30) :: (37, tabObj p37) :: (rw1, listOf rv.toArray g6) :: (Dg, listOf gv.toArray g5) :: rest := ⟨_, rfl⟩
  rw [← hled] at N
  have u0 : (L + 1, oc) ∈ led := hled ▸ .tail _ (.tail _ (.tail _ (.tail _ hmo)))
  (conv in stN 10 lawB => whnf)
  (conv in (occs := *) lawS => all_goals whnf)
  k_steps
  unfold Stop
  rename IsRange _ _ _ _ _ _ _ _ => hRg
  k_dflt refine' iter_rangeUnr (n := bk.toNat + 4) (by exact rfl) hRg (small_one (by omega) (by omega) (by omega) (by omega)) (by rw [rangeSize_nat]; omega) (by k_asm) (by k_asm) ?_
  intro I hI
  have hI30 : (30 : Nat) < I := hI (30, tabObj p30) (hled ▸ .head _)
  have hI37 : (37 : Nat) < I := hI (37, tabObj p37) (hled ▸ .tail _ (.head _))
  have hIrw : rw1 < I := hI (rw1, listOf rv.toArray g6) (hled ▸ .tail _ (.tail _ (.head _)))
  have hID : Dg < I := hI (Dg, listOf gv.toArray g5) (hled ▸ .tail _ (.tail _ (.tail _ (.head _))))
  have hIr : ∀ p ∈ rest, p.1 < I := fun p hp => hI p (hled ▸ .tail _ (.tail _ (.tail _ (.tail _ hp))))
  refine rangeInd (fun i m' nw' => ∃ (p30' p37' : Array Value) (gv' rv' : List Value) (g' g'' : Nat) (ex : Led), nw' = (30, tabObj p30') :: (37, tabObj p37') :: (rw1, listOf rv'.toArray g'') :: (Dg, listOf gv'.toArray g') :: (ex ++ rest) ∧ Mat (ex ++ rest) gv' (degsK told bk.toNat i) ∧ IntsAre rv' (rowK nums drawn told bk i) ∧
     Tabs p30' p37' ((rw1, listOf rv'.toArray g'') :: (Dg, listOf gv'.toArray g') :: (ex ++ rest)) ∧ (∀ e ∈ ex, I < e.1) ∧ (∀ y : Str, y ≠ "k" → y ∉ turnNames → m' y = m y)) ?step ?fin _ _ _ _ (Nat.zero_add _) ?init
  case init => exact ⟨p30, p37, gv, rv, g5, g6, [], hled, hM, hrv, hT, (fun _ h => nomatch h), fun _ _ _ => rfl⟩
  case fin =>
    intro m1 nw hJ hh tk1 F2 N2
    (try dsimp +zetaDelta only)
    obtain ⟨p30', p37', gv', rv', g', g'', ex, rfl, _⟩ := hJ
    exact next _ _ m1 _ p30' p37' F2 N2 (.head _) (.tail _ (.head _))
  case step =>
    intro i m1 nw' hin hJ t hh tk1 F2 N2
    obtain ⟨p30', p37', gv', rv', g', g'', ex, rfl, hM', hrv', hT', hex, hm'⟩ := hJ
    rw [Int.zero_add] at F2
    have h1 : m1 "row" = _ := (hm' "row" (by decide) (by decide)).trans hxr
    have h2 : m1 "cells" = _ := (hm' "cells" (by decide) (by decide)).trans hxc
    have h3 : m1 "power" = _ := (hm' "power" (by decide) (by decide)).trans hxp
    have h4 : m1 "numbers" = _ := (hm' "numbers" (by decide) (by decide)).trans hxn
    have h5 : m1 "drawn" = _ := (hm' "drawn" (by decide) (by decide)).trans hxd
    have h7 : m1 "told" = _ := (hm' "told" (by decide) (by decide)).trans hxt
    have h8 : m1 "degrees" = _ := (hm' "degrees" (by decide) (by decide)).trans hxg
    have P := hP i hin
    have hlen := rowK_len nums drawn told bk i
    have hexr : ∀ e ∈ ex, e.1 ≠ rw1 ∧ e.1 ≠ Dg := fun e he => ⟨Nat.ne_of_gt (Nat.lt_trans hIrw (hex e he)), Nat.ne_of_gt (Nat.lt_trans hID (hex e he))⟩
    generalize hit : itR (0 + ((i + 1 : Nat) : Int)) (((bk.toNat + 4 : Nat) : Int) - ((i + 1 : Nat) : Int)) = itO at *
    have N3 : News h₀ L hh ((30, tabObj p30') :: (37, tabObj p37') :: (rw1, listOf rv'.toArray g'') :: (Dg, listOf gv'.toArray g') :: ((I, itO) :: (ex ++ rest))) := fun p hp => N2 p (by
      simp only [List.mem_cons, List.mem_append] at hp ⊢
      rcases hp with h | h | h | h | h | h | h <;> simp [h])
    have j0 : ∀ p ∈ rest, p ∈ (I, itO) :: (ex ++ rest) := fun p hp => .tail _ (List.mem_append_right _ hp)
    have hoff : ∀ a : Addr, a < I → (∀ p ∈ rest, p.1 ≠ a) → ∀ p ∈ (I, itO) :: (ex ++ rest), p.1 ≠ a := fun a ha h p hp => by
      rcases List.mem_cons.mp hp with q | hp
      · rw [q]; exact Nat.ne_of_gt ha
      · rcases List.mem_append.mp hp with q | q
        · exact Nat.ne_of_gt (Nat.lt_trans ha (hex p q))
        · exact h p q
    have hT3 : Tabs p30' p37' ((rw1, listOf rv'.toArray g'') :: (Dg, listOf gv'.toArray g') :: ((I, itO) :: (ex ++ rest))) := hT'.more (fun p hp => by
      rcases List.mem_cons.mp hp with q | hp
      · exact .inl (q ▸ .head _)
      · rcases List.mem_cons.mp hp with q | hp
        · exact .inl (q ▸ .tail _ (.head _))
        · rcases List.mem_cons.mp hp with q | hp
          · rw [q]; exact .inr ⟨Nat.ne_of_gt hI30, Nat.ne_of_gt hI37⟩
          · exact .inl (.tail _ (.tail _ hp))) fun p hp => by
      rcases List.mem_cons.mp hp with q | hp
      · exact q ▸ .head _
      · rcases List.mem_cons.mp hp with q | hp
        · exact q ▸ .tail _ (.head _)
        · exact .tail _ (.tail _ (.tail _ hp))
    clear N2
    k_dflt refine' law_T (rs := []) w bk hb i (by omega) cc nr dr tr Dg rw1 cv nv dv tv gv' rv' g1 g2 g3 g4 g' g'' cs nums drawn told (rowK nums drawn told bk i) (degsK told bk.toNat i) pw (qK nums drawn told bk i) tb t1 _ oc p30' p37' ((I, itO) :: (ex ++ rest)) hoc (j0 _ hmc) (j0 _ hmn) (j0 _ hmd) (j0 _ hmt) hcv hnv hdv htv hrv' (hM'.mono fun p hp => .tail _ hp) (hOk i (by omega)) hcl hcb hnl hdl (by omega) (by omega) hd9 hn0 htb2 P.lack P.rb hpw P.due P.r1 P.r2 P.q1 P.q2 (hoff rw1 hIrw hrw) (hoff Dg hID hrD) hDr hT3 B (by k_asm) X T hd hu hL (j0 _ hmo) hE hcd N3 (by walk_at "mlook") (by walk_at "mlook") (by walk_at "mlook") (by walk_at "mlook") (by walk_at "mlook") (by walk_at "mlook") (by walk_at "mlook") (by walk_at "mlook") ?_
    intro h9 tk9 m9 t9 q30 q37 ex9 gv9 e9 e10 F9 N9 hM9 hT9 hex9 hm9
    (try dsimp only)
    refine wpAny_execs_nil ?_
    refine UnrEnd.intro F9 N9 ((30, tabObj q30) :: (37, tabObj q37) :: (rw1, listOf (rv' ++ [Value.int (qK nums drawn told bk i) t9]).toArray e10) :: (Dg, listOf gv9.toArray e9) :: ((ex9 ++ ex) ++ rest)) ?sub ?off ⟨q30, q37, gv9, _, e9, e10, ex9 ++ ex, rfl, ?gM, ?gI, ?gT, ?gex, ?gm⟩
    case sub =>
      intro p hp
      simp only [List.mem_cons, List.mem_append] at hp ⊢
      rcases hp with h | h | h | h | h | (h | h) | h <;> simp [h]
    case off =>
      intro p hp
      simp only [List.mem_cons, List.mem_append] at hp
      rcases hp with h | h | h | h | (h | h) | h
      · rw [h]; exact Nat.ne_of_lt hI30
      · rw [h]; exact Nat.ne_of_lt hI37
      · rw [h]; exact Nat.ne_of_lt hIrw
      · rw [h]; exact Nat.ne_of_lt hID
      · exact Nat.ne_of_gt (hex9 p h (I, itO) (.tail _ (.tail _ (.tail _ (.tail _ (.head _))))))
      · exact Nat.ne_of_gt (hex p h)
      · exact Nat.ne_of_lt (hIr p h)
    case gM =>
      have h := hM9 (ex ++ rest) hM'
      rw [← List.append_assoc] at h
      exact h
    case gI => rw [rowK_succ]; exact intsSnoc hrv'
    case gT => 
      refine hT9.less (fun p hp => ?_) fun p hp => ?_
      · simp only [List.mem_cons, List.mem_append] at hp ⊢
        rcases hp with h | h | (h | h) | h <;> simp [h]
      · simp only [List.mem_cons, List.mem_append] at hp ⊢
        rcases hp with h | h | h | h | h | h
        · exact .inl (.inl h)
        · exact .inl (.inr (.inl h))
        · exact .inl (.inr (.inr (.inl (.inl h))))
        · refine .inr fun vs e => ?_
          rw [h, ← hit] at e
          exact itR_fields e
        · exact .inl (.inr (.inr (.inl (.inr h))))
        · exact .inl (.inr (.inr (.inr h)))
    case gex =>
      intro e he
      rcases List.mem_append.mp he with h | h
      · exact hex9 e h (I, itO) (.tail _ (.tail _ (.tail _ (.tail _ (.head _)))))
      · exact hex e h
    case gm =>
      intro y y1 y2
      rw [hm9 y y2]
      show (if y = "k" then _ else m1 y) = m y
      rw [if_neg y1]
      exact hm' y y1 y2
end
section
example (w : World) : (rwQ = rwQ) ∧ (Kq w.params = Kq w.params) := by
  k_with_none
  k_fill
  (k_with "B" => k_asm)
  (k_with "K" => first | exact rfl | assumption)
  (k_with "C" => first | assumption | trivial)
  (k_with "D" => first | (change dp + 1 + _ < _; omega) | omega | ktr_room)
  (k_with "U" => first | (change un + 3 + _ < _; omega) | omega | ktr_units)
  (k_with "call builtin:divmod" => ((with_reducible show wpAny _ _ (call (Value.builtin _) [Value.int _ _, Value.int _ _]) _ _ _); (rename SmallDiv _ => hSd); refine divmod_N (by assumption) (by assumption) (by assumption) ?_ (Or.inl (PyProof.noPylong_of_log2 hSd)); intro _ _ _))
  (k_with "binaryOp FloorDiv int int" => ((rename SmallDiv _ => hSd); refine floordiv_sd hSd (by first | assumption | omega) ?_))
  (k_with "AllLt" => first | assumption | exact And.right (by assumption) | exact And.right (And.right (by assumption)) | exact And.right (And.right (And.right (by assumption))) | exact And.right (And.right (And.right (And.right (by assumption)))) | exact And.right (And.right (And.right (And.right (And.right (by assumption))))) | exact And.right (And.right (And.right (And.right (And.right (And.right (by assumption)))))) | exact And.right (And.right (And.right (And.right (And.right (And.right (And.right (by assumption)))))))  | exact And.right (And.right (And.right (And.right (And.right (And.right (And.right (And.right (by assumption)))))))))
  (k_with "k_all" => first | with_reducible assumption | exact allNe0 (by walk_at "AllLt") | exact allNe1 (by walk_at "AllLt") | exact allNe2 (by walk_at "AllLt") | exact allNe3 (by walk_at "AllLt") | exact List.forall_mem_nil _ | (refine' List.forall_mem_cons.mpr ⟨?_, ?_⟩; (focus k_ne); k_all))
  (k_with "binaryOp Mult ref int" => (k_here; (rename CntOk _ => hCo); k_dflt (refine' mulRep (by k_asm) (by k_asm) (by k_mem) hCo ?_); k_whole; intro l' h' F' N' l1; (try k_lt l1); (try k_sweep)))
  (k_with "enter" => (refine wpAny_call ?_; k_dflt cell_enter))
  (k_with "enter C" => (refine wpAny_call ?_; k_dflt ((refine' code_defC (by k_asm) (by k_asm) (by k_asm) (by k_asm) (by k_asm) (by exact rfl) (by exact rfl) (by assumption) (by k_is) (by k_is) (by ktr_room) (by exact BindsTo.of_eq rfl) (by exact rfl) (by decide +kernel) ?_ (by exact rfl) (by exact rfl) (by exact rfl)); k_whole; intro g' L' h' tk' cells' FG' F' N' Y' B' X' T' l1; (try k_lt l1); k_cells Y'; (try simp only [List.cons_append, List.nil_append] at N'); (try dsimp only); (try k_lift B'); (try k_fold))))
  (k_with "enter N" => (refine wpAny_call ?_; k_dflt (refine' code_nest (by k_asm) (by k_asm) (by k_asm) (by k_asm) (by k_asm) (by exact rfl) (by exact rfl) (by assumption) (by walk_at "inrest") (codeRec_news (by k_asm) (by walk_at "inrest") (by assumption) (by assumption)) (by ktr_room) (by exact BindsTo.of_eq rfl) (by exact locs rfl) ?_ (by exact rfl) (by exact rfl) (by exact rfl) (by decide); k_whole; intro g' L' h' FG' F' N' B' X' T'; (try dsimp only); (try k_lift B'))))
  (k_with "eval Name" => (k_here; kc_free; k_dflt (refine' nameX_F (by k_asm) (by exact rfl) (by walk_at "inrest") (by with_reducible assumption) ?_ (by exact rfl) (by exact rfl)); k_whole))
  (k_with "inrest" => first | with_reducible assumption | exact List.mem_cons_self .. | assumption | (refine List.mem_cons_of_mem _ ?_; walk_at "inrest"))
  (k_with "FnAt" => (k_dflt (exact FnAt.of (by k_asm) (by walk_at "inrest"))))
  (k_with "callWith ref" => (k_here; kn_here; k_dflt (first
    | (refine' callWith_F (FnAt.of (by k_asm) (by walk_at "inrest")) ?_; k_whole)
    | (refine' callWith_F0 (FnAt.of (by k_asm) (by walk_at "inrest")) ?_; k_whole; try dsimp only [List.nil_append, List.cons_append]))))
  (k_with "mulok" => first | assumption | exact PySem.IntMulOk.of_left (bits64 (by omega)) | exact PySem.IntMulOk.of_right (bits64 (by omega)))
  (k_with "binaryOp Mult int int" => (k_here; k_dflt (refine mul_int ?_ (by walk_at "mulok"))))
  (k_with "setItem ref int" => (k_here; (with_reducible show wpAny _ _ (setItem (Value.ref _) (Value.int _ _) (Value.int _ _)) _ _ _); k_dflt (refine' ksa_set (by k_asm) (by k_asm) (by k_upd) (by with_reducible assumption) (by omega) (by omega) (by omega) ?_); k_whole; intro h' F' N' hi' hl' hs'; (try k_sweep)))
  (k_with "nn" => first | omega | ((rename ShB _ => hShB); exact (hShB _ (by omega) (by omega)).1))
  (k_with "lsz" => ((rename ShB _ => hShB); (rename BitsB _ => hBB); first | exact lsz_of (BitsB.fdiv _ hBB) (hShB _ (by omega) (by omega)).2 | exact lsz_of hBB (hShB _ (by omega) (by omega)).2))
  (k_with "binaryOp RShift int int" => (k_here; k_dflt (refine rshift_int (by walk_at "nn") ?_)))
  (k_with "binaryOp RShift int int" => (k_here; with_reducible refine rshift1 ?_))
  (k_with "binaryOp LShift int int" => (k_here; k_dflt (refine lshift_int (by walk_at "nn") (by walk_at "lsz") ?_)))
  (k_with "truthy ref" => (k_dflt (refine' truthyLed (by k_asm) (by walk_at "inrest") (by walk_at "lenfit") ?_); intro _))
  (k_with "lenfit" => first | omega | ((have hl9 := IntsAre.length (by assumption)); (try simp only [List.length_map, List.length_replicate] at *); omega))
  (k_with "subscriptTail" => (k_here; (with_reducible show wpAny _ _ (subscriptTail _ _ (Value.ref _) (Value.int _ _)) _ _ _); k_dflt (refine' ksa_sub (by k_asm) (by walk_at "inrest") (by with_reducible assumption) (by omega) (by first | omega | (rw [List.length_map]; omega)) (by omega) ?_ (by with_unfolding_all rfl)); intro _))
  (k_with "call builtin:list.append" => (k_here; k_dflt (refine' appendLed (by k_asm) (by k_asm) (by k_upd) (by walk_at "lenfit") ?_; k_whole); intro h' F' N'; (try k_sweep)))
  (k_with "call builtin:list.reverse" => (k_here; k_dflt (refine' reverseLed (by k_asm) (by k_asm) (by k_upd) (by walk_at "lenfit") ?_; k_whole); intro h' F' N'; (try k_sweep)))
  (k_with "call type:reversed" => (k_here; (with_reducible show wpAny _ _ (call (Value.type _) [Value.ref _]) _ _ _); k_dflt (refine' krv_reversed (by k_asm) (by k_asm) (News.isList (by k_asm) (by walk_at "inrest")) ?_); intro D' h' F' N' lrev; have l1 := lrev; (try k_lt l1); (try k_sweep)))
  (k_with "mlook" => first | with_reducible assumption | exact if_pos rfl | exact rfl | (refine (if_neg (by decide)).trans ?_; walk_at "mlook"))
  (k_with "eval Name" => (k_here; (rename MapMark => hMM); k_dflt (refine' nameX_L (by k_asm) (by walk_at "mlook") ?_ (by rfl) (by rfl)); k_whole))
  (k_with "newList" => (k_here; (with_reducible refine' newList_K (by k_asm) (by k_asm) ?_ (by exact Nat.le_of_ble_eq_true rfl)); k_whole; intro l' h' F' N' lnew; have l1 := lnew; (try k_lt l1); (try k_sweep)))
  (k_with "lsz" => ((rename BitsB _ => hBB); exact lsz_of hBB (by omega)))
  (k_with "newTuple" => (k_here; k_dflt (refine' newTupLed (by k_asm) (by k_asm) (by exact Nat.le_of_ble_eq_true rfl) ?_; k_whole); intro q' h' F' N' ltup; have l1 := ltup; (try k_lt l1); (try k_sweep)))
  (k_with "pick" => first | exact Pick.head | (apply Pick.tail; walk_at "pick"))
  (k_with "sub" => (intro q9 hq9; repeat (first | exact hsub0 _ hq9 | exact hq9 | apply List.mem_cons_of_mem)))
  (k_with "call builtin:len" => ((with_reducible show wpAny _ _ (call (Value.builtin "len") [Value.ref _]) _ _ _); k_dflt (refine' lenLed (by k_asm) (by walk_at "inrest") (by first | walk_at "lenfit" | (simp only [List.length_replicate]; omega)) ?_)))
  (k_with "exec FunctionDef" => (k_here; kn_here; k_dflt (refine' nestDef_K (by exact rfl) (by exact rfl) (by exact rfl) ?_); k_dflt (refine' nestTab (by k_asm) (by k_asm) (by k_asm) (by kn_code) (by exact rfl) (by k_updF) (by assumption) (by walk_at "sub") (by walk_at "AllLt") (List.mem_cons_self ..) (by exact rfl) ?_; k_whole); intro f' c' oc' vs' t' ct' dc' h' tk' ps' F' N' d1' d2' tc' hin' l1 l2; have hin2 := hin'.imp And.right And.right; (try dsimp only at N'); (try k_lt2 l1); (try k_lt l2)))
  (k_with "strB" => first | assumption | exact (Nat.le_of_ble_eq_true rfl) | (simp only [StrB, List.length_append, List.length_cons, List.length_nil] at *; omega))
  (k_with "subscriptTail" => (k_here; (with_reducible show wpAny _ _ (subscriptTail _ _ (Value.str _ _) (Value.ref _)) _ _ _); k_dflt (first | refine' cut_to (by k_asm) (by k_asm) (by walk_at "strB") (by omega) ?_ | refine' cut_ss (by k_asm) (by k_asm) (by walk_at "strB") (by omega) (by omega) ?_); k_whole; intro h' t' k' F' N'; (try k_sweep)))
  (k_with "call builtin:len" => (k_here; (with_reducible show wpAny _ _ (call (Value.builtin "len") [Value.str _ _]) _ _ _); k_dflt (refine' lenStr (by walk_at "strB") ?_); intro _ _))
  (k_with "binaryOp Add str str" => (k_here; k_dflt (refine' addStr (by walk_at "strB") (by walk_at "strB") ?_); intro _ _))
  (k_with "compareOp Eq str str" => (k_here; k_dflt (first | refine' eqStrB (by walk_at "streq") ?_ | refine' eqStr ?_)))
  (k_with "compareOp NotEq str str" => (k_here; k_dflt (first | refine' neStrB (by walk_at "streq") ?_ | refine' neStr ?_)))
  (k_with "getItem str int" => (k_here; k_dflt (refine' strAt (by walk_at "strB") (by omega) (by walk_at "strat") ?_); intro _))
  (k_with "subscriptTail" => (k_here; (with_reducible show wpAny _ _ (subscriptTail _ _ (Value.str _ _) (Value.int _ _)) _ _ _); k_dflt (refine' strAtT (by walk_at "strB") (by first | omega | assumption) (by walk_at "strat") ?_); k_whole; intro _))
  (k_with "exec While" => (k_here; refine stopI ?_))
  (k_with "exec While Compare" => (k_here; refine stopI ?_))
  (k_with "exec While Compare cons nil" => (k_here; refine stopI ?_))
  (k_with "execs cons" => ((with_reducible refine wpAny_execs_cons ?_); (try k_fold)))
  (k_with "eval Call" => k_fold)
  (k_with "eval BinOp" => k_fold)
  (k_with "isTrue" => k_fold)
  (k_with "isTrue Compare" => k_fold)
  (k_with "isTrue BoolOp" => k_fold)
  (k_with "eval Subscript" => k_fold)
  (k_with "subscriptTail" => k_fold)
  (k_with "compareOp" => k_fold)
  exact ⟨rfl, rfl⟩
theorem numF_len (cs : List Int) : (numF cs).length = 5 := rfl
theorem numF_bnd (cs : List Int) : ∀ t, t < 3 → 7 ≤ (numF cs).getD (2 * t) 0 ∧ (numF cs).getD (2 * t) 0 ≤ 54 := by
  have h0 := fm48 (cs.getD (0 + 1) 0)
  have h1 := fm48 (cs.getD (1 + 1) 0)
  have h2 := fm48 (cs.getD (2 + 1) 0)
  intro t ht
  have e : t = 0 ∨ t = 1 ∨ t = 2 := by omega
  rcases e with rfl | rfl | rfl
  · show 7 ≤ markI cs 0 + 7 ∧ markI cs 0 + 7 ≤ 54; unfold markI; omega
  · show 7 ≤ markI cs 1 + 7 ∧ markI cs 1 + 7 ≤ 54; unfold markI; omega
  · show 7 ≤ markI cs 2 + 7 ∧ markI cs 2 + 7 ≤ 54; unfold markI; omega
theorem drawnF_bnd {cs : List Int} {n : Nat} (hn : (drawnF cs n).length = n) : ∀ i, i < n → 1 ≤ (drawnF cs n).getD i 0 ∧ (drawnF cs n).getD i 0 ≤ 9 := by
  intro i hi
  have hi' : i < (drawnF cs n).length := by omega
  rw [List.getD_eq_getElem?_getD, List.getElem?_eq_getElem hi']
  have hm : (drawnF cs n)[i] ∈ drawnF cs n := List.getElem_mem hi'
  generalize (drawnF cs n)[i] = x at hm
  unfold drawnF at hm
  obtain ⟨c, _, e⟩ := List.mem_map.mp hm
  have h1 : 0 ≤ c.fmod 9 ∧ c.fmod 9 < 9 := by
    rw [Int.fmod_eq_emod_of_nonneg _ (by decide)]
    exact ⟨Int.emod_nonneg _ (by decide), Int.emod_lt_of_pos _ (by decide)⟩
  show 1 ≤ x ∧ x ≤ 9
  omega
theorem runsF_bnd {pp : List Int} (h : ∀ k : Nat, k < 3 → 1 ≤ pp.getD k 0 ∧ pp.getD k 0 + 2 ≤ pp.sum) : ∀ x ∈ runsF pp 3, 1 ≤ x ∧ x ≤ pp.sum := by
  intro x hx
  unfold runsF at hx
  obtain ⟨k, hk, hx⟩ := List.mem_flatMap.mp hx
  have hk := List.mem_range.mp hk
  have := h k hk
  simp only [List.mem_cons, List.not_mem_nil, or_false] at hx
  rcases hx with e | e <;> subst e <;> omega
theorem powB {x : Int} : (2 : Int) ^ 16 ≤ 2 ^ (16 + x.fmod 64).toNat ∧ (2 : Int) ^ (16 + x.fmod 64).toNat ≤ 2 ^ 79 := by
  have h : 0 ≤ x.fmod 64 ∧ x.fmod 64 < 64 := by
    rw [Int.fmod_eq_emod_of_nonneg _ (by decide)]
    exact ⟨Int.emod_nonneg _ (by decide), Int.emod_lt_of_pos _ (by decide)⟩
  have k : ∀ a b : Nat, a ≤ b → (2 : Int) ^ a ≤ 2 ^ b := fun a b h => by
    have := Nat.pow_le_pow_right (n := 2) (by decide) h
    have e : ∀ c : Nat, (2 : Int) ^ c = ((2 ^ c : Nat) : Int) := fun c => by rw [Int.natCast_pow]; rfl
    rw [e, e]; exact Int.ofNat_le.mpr this
  exact ⟨k _ _ (by omega), k _ _ (by omega)⟩
noncomputable def PlainAll : Prop := ∀ cs : List Int, cs.length = 11 → ∀ k, k < (partsOf (cs.getD 0 0)).sum.toNat + 4 → PlainAt (numF cs) (drawnF cs (partsOf (cs.getD 0 0)).sum.toNat) (runsF (partsOf (cs.getD 0 0)) 3) (partsOf (cs.getD 0 0)).sum k
set_option maxRecDepth 100000 in
set_option maxHeartbeats 8000000 in
theorem law_G (hPl : PlainAll) (w : World) (r : Addr) (vs : List Value) (ns : List Int) (hI : IntsAre vs ns) (hlen : ns.length ≤ 63) (oc : Obj) (ov : Option Value)
   {rs : List Stmt}
   {p : Program} {loose : List Str} {mean : ExcName → Option Value} {mg mb : Str → Option Value} {dp un : Nat} {gd : Option (List Code)} {fa : Addr} {cd : Value} {outer : List Env} {A₀ : Around} {base h₀ : Heap} {L : Addr} {m : Str → Option Value} {s : Shared} {Q : Flow → Shared → Prop} {E : Value → Shared → Prop}
   (B : Below A₀ base outer h₀) (F : Fr h₀ L s.heap m) (X : (Kq w.params).In h₀) (T : Top p loose mean mg mb h₀) (hd : dp + 60 < recursionLimit) (hu : un + 600 < cLine) (hL : 37 < L)
   (hE : PassesOwn (model LP w) (ktrTop dp un gd "law" lawS L fa cd [("back", L + 1)] outer) (envX "law" lawS L fa cd [("back", L + 1)]) E) (hcd : CodeHd base 34 30 ∧ CodeHd base 41 37) (N : News h₀ L s.heap [(L + 1, oc), (37, tabObj #[]), (30, tabObj #[])]) (hoc : oc.data = .cell ov) (hm : m "script" = some (.ref r)) (hl0 : base.IsList r vs.toArray)
   (hret : ∀ (h' : Heap) (tk' : Nat) (m' : Str → Option Value) (nw : Led) (a b : Array Value), Fr h₀ L h' m' → News h₀ L h' nw → (30, tabObj a) ∈ nw → (37, tabObj b) ∈ nw → Q (.ret (.bool true)) { s with heap := h', toks := tk' }) :
   wpAny (model LP w) (ktrTop dp un gd "law" lawS L fa cd [("back", L + 1)] outer) (execs (stN 0 lawB :: stN 1 lawB :: stN 2 lawB :: stN 3 lawB :: stN 4 lawB :: stN 5 lawB :: stN 6 lawB :: stN 7 lawB :: stN 8 lawB :: stN 9 lawB :: stN 10 lawB :: stN 11 lawB :: []) (envX "law" lawS L fa cd [("back", L + 1)])) Q E s := by
  refine law_A w r vs ns hI hlen _ B F X T hd hu hL N hm hl0 ?_
  intro h1 tk1 m1 cc ru fa1 cv rv fv cs e1 e2 t1 t2 F1 N1 hcv hcl hcb hrv hfv lc1 lc2 lc3 mc mt mr mf mn ms
  have hpz := partsOk (cs.getD 0 0)
  have hpl : ∀ k, k < 3 → (pieceF (partsOf (cs.getD 0 0)) cs k).length ≤ 30 := pieceLen (cs.getD 0 0) cs
  have hP := hPl cs hcl
  obtain ⟨pp, hpp⟩ : ∃ pp, pp = partsOf (cs.getD 0 0) := ⟨_, rfl⟩
  rw [← hpp] at hpl hrv hpz hP mt mn
  have htx : (textF pp cs).length ≤ 92 := by
    have := hpl 0 (by decide); have := hpl 1 (by decide); have := hpl 2 (by decide)
    unfold textF
    simp only [List.length_append, List.length_cons]
    omega
  have hb : 4 ≤ pp.sum ∧ pp.sum ≤ 7 := ⟨hpz.2.2.1, hpz.2.1⟩
  refine law_C w cs pp hpz.2.2.2 hpz.2.1 rv fv e1 e2 t1 t2 ru fa1 _ hrv hfv htx B F1 X T hd hu hL N1 mt mr mf mn ?_
  intro h2 tk2 tr nr tv nv f1 f2 F2 N2 htv hnv ltr ltn
  have lL : ∀ p ∈ [((37 : Addr), tabObj #[]), (30, tabObj #[])], p.1 < L := fun p hp => by
    simp only [List.mem_cons, List.not_mem_nil, or_false] at hp
    rcases hp with e | e
    · rw [e]; exact hL
    · rw [e]; exact Nat.lt_trans (by decide) hL
  refine law_D w r vs ns hI hlen cs pp hb cv tv nv f1 f2 cc tr nr oc ov _ hcv hcl htv hoc B F2 X T hd hu hL N2 hl0 (lc1 _ (.head _)) (ltr _ (.head _)) ltn lL rfl mc ms ?_
  intro h3 tk3 m3 dr rw1 dv rv3 g1 g2 oc3 t t3 F3 N3 hoc3 hdv hrv3 l3 l4 hm3 md mp mw
  refine law_E w pp.sum hb cv tv nv dv rv3 f1 f2 g1 g2 cc tr nr dr rw1 oc3 t _ hoc3 B F3 X T hd hu hL N3 (lc1 _ (.head _)) (ltr _ (.head _)) ltn l3 l4 lL ?_
  intro h4 tk4 Dg gv e rows F4 N4 hM z1 z2 z3
  (try dsimp only)
  have hdl : (drawnF cs pp.sum.toNat).length = pp.sum.toNat := drawnLen hcl hb.1 hb.2
  have a1 : L < L + 1 := Nat.lt_succ_self L
  have a2 : L + 1 < cc := lc1 _ (.head _)
  have a3 : cc < tr := ltr _ (.head _)
  have b4 : nr < rw1 := Nat.lt_trans l3 l4
  have b3 : tr < rw1 := Nat.lt_trans ltn b4
  have b2 : cc < rw1 := Nat.lt_trans a3 b3
  have b1 : L + 1 < rw1 := Nat.lt_trans a2 b2
  have c2 : L < cc := Nat.lt_trans a1 a2
  have c3 : L < tr := Nat.lt_trans c2 a3
  have c4 : L < nr := Nat.lt_trans c3 ltn
  have c5 : L < dr := Nat.lt_trans c4 l3
  have c6 : L < rw1 := Nat.lt_trans c5 l4
  have hrest : ∀ p ∈ rows ++ [(dr, listOf dv.toArray g1), (nr, listOf nv.toArray f2), (tr, listOf tv.toArray f1), (cc, listOf cv.toArray 0), (L + 1, oc3)], L < p.1 ∧ p.1 ≠ rw1 ∧ p.1 ≠ Dg := fun p hp => by
    rcases List.mem_append.mp hp with h | h
    · exact ⟨Nat.lt_trans c6 (z2 p h), Nat.ne_of_gt (z2 p h), z1 p h⟩
    · simp only [List.mem_cons, List.not_mem_nil, or_false] at h
      rcases h with h | h | h | h | h <;> rw [h]
      · exact ⟨c5, Nat.ne_of_lt l4, Nat.ne_of_lt (Nat.lt_trans l4 z3)⟩
      · exact ⟨c4, Nat.ne_of_lt b4, Nat.ne_of_lt (Nat.lt_trans b4 z3)⟩
      · exact ⟨c3, Nat.ne_of_lt b3, Nat.ne_of_lt (Nat.lt_trans b3 z3)⟩
      · exact ⟨c2, Nat.ne_of_lt b2, Nat.ne_of_lt (Nat.lt_trans b2 z3)⟩
      · exact ⟨a1, Nat.ne_of_lt b1, Nat.ne_of_lt (Nat.lt_trans b1 z3)⟩
  have hoff : ∀ a : Addr, a < L → ∀ p ∈ (rw1, listOf rv3.toArray g2) :: (Dg, listOf gv.toArray e) :: (rows ++ [(dr, listOf dv.toArray g1), (nr, listOf nv.toArray f2), (tr, listOf tv.toArray f1), (cc, listOf cv.toArray 0), (L + 1, oc3)]), p.1 ≠ a := fun a ha p hp => by
    rcases List.mem_cons.mp hp with h | hp
    · rw [h]; exact Nat.ne_of_gt (Nat.lt_trans ha c6)
    · rcases List.mem_cons.mp hp with h | hp
      · rw [h]; exact Nat.ne_of_gt (Nat.lt_trans ha (Nat.lt_trans c6 z3))
      · exact Nat.ne_of_gt (Nat.lt_trans ha (hrest p hp).1)
  have hT : Tabs #[] #[] ((rw1, listOf rv3.toArray g2) :: (Dg, listOf gv.toArray e) :: (rows ++ [(dr, listOf dv.toArray g1), (nr, listOf nv.toArray f2), (tr, listOf tv.toArray f1), (cc, listOf cv.toArray 0), (L + 1, oc3)])) :=
    ⟨hoff 30 (Nat.lt_trans (by decide) hL), hoff 37 hL, .inl ⟨trivial, rfl⟩, .inl ⟨trivial, rfl⟩⟩
  have N5 : News h₀ L h4 ((30, tabObj #[]) :: (37, tabObj #[]) :: (rw1, listOf rv3.toArray g2) :: (Dg, listOf gv.toArray e) :: (rows ++ [(dr, listOf dv.toArray g1), (nr, listOf nv.toArray f2), (tr, listOf tv.toArray f1), (cc, listOf cv.toArray 0), (L + 1, oc3)])) := fun p hp => N4 p (by
    simp only [List.mem_cons, List.mem_append, List.not_mem_nil, or_false] at hp ⊢
    rcases hp with h | h | h | h | h | h | h | h | h | h <;> simp [h])
  have r : ∀ x : Addr × Obj, x ∈ [(dr, listOf dv.toArray g1), (nr, listOf nv.toArray f2), (tr, listOf tv.toArray f1), (cc, listOf cv.toArray 0), (L + 1, oc3)] → x ∈ rows ++ [(dr, listOf dv.toArray g1), (nr, listOf nv.toArray f2), (tr, listOf tv.toArray f1), (cc, listOf cv.toArray 0), (L + 1, oc3)] := fun x hx => List.mem_append_right _ hx
  refine law_F w pp.sum hb cc nr dr tr Dg rw1 cv nv dv tv gv rv3 0 f2 g1 f1 e g2 cs (numF cs) (drawnF cs pp.sum.toNat) (runsF pp 3) (2 ^ (16 + (ns.length : Int).fmod 64).toNat) t t3 oc3 #[] #[] _ hoc3 (r _ (.tail _ (.tail _ (.tail _ (.head _))))) (r _ (.tail _ (.head _))) (r _ (.head _)) (r _ (.tail _ (.tail _ (.head _)))) hcv hnv hdv htv hrv3 (hM.mono fun p hp => List.mem_append_left _ hp) hcl hcb (numF_len cs) hdl (drawnF_bnd hdl) (fun t ht => ?g0) (runsF_len _ _) (runsF_bnd hpz.2.2.2) hP powB (fun p hp => (hrest p hp).2.1) (fun p hp => (hrest p hp).2.2) (Nat.ne_of_gt z3) hT B F4 X T hd hu hL (r _ (.tail _ (.tail _ (.tail _ (.tail _ (.head _)))))) hE hcd N5 mw ?g1 mp ?g2 md ?g3 rfl ?_
  case g0 =>
    have := numF_bnd cs t ht
    have h9 : ((numF cs).getD (2 * t) 0).natAbs ≤ 54 := by omega
    exact Nat.lt_of_le_of_lt h9 (by decide)
  case g1 => exact (hm3 "cells" (by decide) (by decide) (by decide) (by decide)).trans mc
  case g2 => exact hm3 "numbers" (by decide) (by decide) (by decide) (by decide)
  case g3 => exact hm3 "told" (by decide) (by decide) (by decide) (by decide)
  intro h5 tk5 m5 nw a b F5 N6 hn1 hn2
  (try dsimp only)
  have mm : MapMark := ⟨⟩
  (conv in stN 11 lawB => whnf)
  (conv in (occs := *) lawS => all_goals whnf)
  k_steps
  exact hret h5 tk5 m5 nw a b F5 N6 hn1 hn2
end
/-- polynomials: sorted monomials (six bits an exponent, all in one number) with their coefficients -/
inductive Pol | nil | cons (m : Nat) (c : Int) (t : Pol)
namespace Pol
noncomputable def isZ (s : Int) : Bool := @Int.rec (fun _ => Bool) (fun n => Nat.beq n 0) (fun _ => false) s
noncomputable def zr (s : Int) (m : Nat) (t : Pol) : Pol := @Bool.rec (fun _ => Pol) (cons m s t) t (isZ s)
noncomputable def ins (m : Nat) (c : Int) (f : Pol → Pol) (q : Pol) : Pol :=
  @Pol.rec (fun _ => Pol) (cons m c (f nil)) (fun m' c' q' ih => @Bool.rec (fun _ => Pol) (@Bool.rec (fun _ => Pol) (zr (Int.add c c') m (f q')) (cons m' c' ih) (Nat.blt m' m)) (cons m c (f (cons m' c' q'))) (Nat.blt m m')) q
noncomputable def merge (p : Pol) : Pol → Pol := @Pol.rec (fun _ => Pol → Pol) (fun q => q) (fun m c _ ih => ins m c ih) p
noncomputable def shift (s : Nat) (k : Int) (p : Pol) : Pol := @Pol.rec (fun _ => Pol) nil (fun m c _ ih => cons (Nat.add m s) (Int.mul k c) ih) p
noncomputable def rows (q : Pol) (p : Pol) : List Pol := @Pol.rec (fun _ => List Pol) [] (fun m c _ ih => shift m c q :: ih) p
noncomputable def pairUp (l : List Pol) : Option Pol → List Pol :=
  @List.rec Pol (fun _ => Option Pol → List Pol) (fun o => @Option.rec Pol (fun _ => List Pol) [] (fun a => [a]) o) (fun x _ ih o => @Option.rec Pol (fun _ => List Pol) (ih (some x)) (fun a => merge a x :: ih none) o) l
noncomputable def joined (n : Nat) : List Pol → Pol :=
  @Nat.rec (fun _ => List Pol → Pol) (fun l => l.foldr merge nil) (fun _ ih l => @List.rec Pol (fun _ => Pol) nil (fun a r _ => @List.rec Pol (fun _ => Pol) a (fun _ _ _ => ih (pairUp l none)) r) l) n
noncomputable def mul (p q : Pol) : Pol := joined 10 (rows q p)
noncomputable def keep (f : Nat → Bool) (p : Pol) : Pol := @Pol.rec (fun _ => Pol) nil (fun m c _ ih => @Bool.rec (fun _ => Pol) ih (cons m c ih) (f m)) p
noncomputable def down (z : Nat) (p : Pol) : Pol := @Pol.rec (fun _ => Pol) nil (fun m c _ ih => cons (Nat.sub m z) c ih) p
noncomputable def mask : Nat := 0x820820820820820820820820820820
noncomputable def okP (p : Pol) : Bool := @Pol.rec (fun _ => Bool) true (fun m _ _ ih => @Bool.rec (fun _ => Bool) false ih (Nat.beq (Nat.land m mask) 0)) p
noncomputable def isNil (p : Pol) : Bool := @Pol.rec (fun _ => Bool) true (fun _ _ _ _ => false) p
/-- does m hold the letter at the place z (64 ^ place), and does the test say so -/
noncomputable def holds (z : Nat) (f : Nat → Bool) (m : Nat) : Bool := @Bool.rec (fun _ => Bool) false (f m) (Nat.blt 0 (Nat.mod (Nat.div m z) 64))
/-- the letter at z put as the sum of the monomials rs, in the terms that f picks -/
noncomputable def red1 (z : Nat) (rs : List Nat) (f : Nat → Bool) (p : Pol) : Pol :=
  (fun y => @Bool.rec (fun _ => Pol) p (joined 4 (keep (fun m => !(holds z f m)) p :: rs.map fun r => shift r 1 y)) (okP y)) (down z (keep (holds z f) p))
end Pol
/-- how a monomial is read: the exponents of a letter, and whether the letter is to be put -/
structure Rl where
  z : Nat
  rs : List Nat
  f : Nat → Bool
noncomputable def Pol.red (n : Nat) (rl : List Rl) : Pol → Pol :=
  @Nat.rec (fun _ => Pol → Pol) (fun p => p) (fun _ ih p => @Pol.rec (fun _ => Pol) Pol.nil (fun _ _ _ _ => ih (rl.foldl (fun p r => Pol.red1 r.z r.rs r.f p) p)) p) n
namespace Pol
noncomputable def dueP (l : List (Nat × Pol × Pol)) : List Pol := l.map fun x => shift x.1 1 (mul x.2.1 x.2.2)
noncomputable def okL (l : List (Nat × Pol × Pol)) : Bool := l.all fun x => Nat.beq (Nat.land x.1 mask) 0 && (okP x.2.1 && (okP x.2.2 && okP (mul x.2.1 x.2.2)))
noncomputable def chk (l : List (Nat × Pol × Pol)) (a b : Pol) (rl : List Rl) : Bool :=
  okL l && (okP a && (okP b && isNil (red 14 rl (merge (joined 3 (dueP l)) (shift 0 (-1) (mul a b))))))
end Pol
/-- a packed monomial's value: the first letter in the lowest six bits -/
noncomputable def evM : List Int → Nat → Int
  | [], _ => 1
  | x :: r, m => x ^ (m % 64) * evM r (m / 64)
noncomputable def msk : Nat → Nat
  | 0 => 0
  | k + 1 => 32 + 64 * msk k
theorem msk20 : msk 20 = Pol.mask := by decide +kernel
noncomputable def SmallM : Nat → Nat → Prop
  | 0, _ => True
  | k + 1, m => m % 64 < 32 ∧ SmallM k (m / 64)
theorem land32 : ∀ x : Fin 64, (x.val &&& 32) = 0 → x.val < 32 := by decide +kernel
theorem smallOf : ∀ (k m : Nat), m &&& msk k = 0 → SmallM k m
  | 0, _, _ => trivial
  | k + 1, m, h => by
    have h1 : (m &&& msk (k + 1)) % 2 ^ 6 = 0 := by rw [h]
    have h2 : (m &&& msk (k + 1)) / 2 ^ 6 = 0 := by rw [h]
    rw [Nat.and_mod_two_pow] at h1
    rw [Nat.and_div_two_pow] at h2
    have e1 : msk (k + 1) % 2 ^ 6 = 32 := by rw [msk]; omega
    have e2 : msk (k + 1) / 2 ^ 6 = msk k := by rw [msk]; omega
    rw [e1] at h1
    rw [e2] at h2
    exact ⟨land32 ⟨m % 64, Nat.mod_lt _ (by decide)⟩ h1, smallOf k _ h2⟩
theorem smallMono : ∀ {k l m : Nat}, l ≤ k → SmallM k m → SmallM l m
  | _, 0, _, _, _ => trivial
  | 0, l + 1, _, h, _ => absurd h (Nat.not_succ_le_zero _)
  | k + 1, l + 1, _, h, ⟨a, b⟩ => ⟨a, smallMono (Nat.le_of_succ_le_succ h) b⟩
theorem evM_add : ∀ {env : List Int} {a b : Nat}, SmallM env.length a → SmallM env.length b → evM env (a + b) = evM env a * evM env b
  | [], _, _, _, _ => rfl
  | x :: r, a, b, ⟨h1, h2⟩, ⟨h3, h4⟩ => by
    have e1 : (a + b) % 64 = a % 64 + b % 64 := by omega
    have e2 : (a + b) / 64 = a / 64 + b / 64 := by omega
    rw [evM, evM, evM, e1, e2, Int.pow_add, evM_add h2 h4]
    simp only [Int.mul_comm, Int.mul_left_comm, Int.mul_assoc]
theorem evM_zero : ∀ env : List Int, evM env 0 = 1
  | [] => rfl
  | x :: r => by rw [evM, show (0 : Nat) % 64 = 0 from rfl, show (0 : Nat) / 64 = 0 from rfl, evM_zero r, Int.pow_zero]; rfl
theorem evM_down : ∀ {env : List Int} {i m : Nat}, i < env.length → 0 < m / 64 ^ i % 64 → evM env m = env.getD i 0 * evM env (m - 64 ^ i)
  | [], _, _, h, _ => absurd h (Nat.not_lt_zero _)
  | x :: r, 0, m, _, h => by
    rw [Nat.pow_zero, Nat.div_one] at h
    have e1 : m % 64 = (m - 1) % 64 + 1 := by omega
    have e2 : m / 64 = (m - 1) / 64 := by omega
    rw [evM, evM, Nat.pow_zero, e1, e2, Int.pow_succ]
    show x ^ _ * x * _ = x * (x ^ _ * _)
    simp only [Int.mul_comm, Int.mul_left_comm, Int.mul_assoc]
  | x :: r, i + 1, m, hl, h => by
    have e0 : 64 ^ (i + 1) = 64 * 64 ^ i := by rw [Nat.pow_succ, Nat.mul_comm]
    have h' : 0 < m / 64 / 64 ^ i % 64 := by rw [Nat.div_div_eq_div_mul, ← e0]; exact h
    have ih := evM_down (env := r) (i := i) (m := m / 64) (Nat.lt_of_succ_lt_succ hl) h'
    have hm : 64 ^ i ≤ m / 64 := by
      rcases Nat.lt_or_ge (m / 64) (64 ^ i) with q | q
      · rw [Nat.div_eq_of_lt q] at h'; exact absurd h' (by decide)
      · exact q
    have e1 : (m - 64 ^ (i + 1)) % 64 = m % 64 := by omega
    have e2 : (m - 64 ^ (i + 1)) / 64 = m / 64 - 64 ^ i := by omega
    rw [evM, evM, e1, e2, ih]
    show x ^ _ * (r.getD i 0 * _) = r.getD i 0 * (x ^ _ * _)
    simp only [Int.mul_left_comm]
theorem evM_pos : ∀ {env : List Int} (m : Nat), (∀ x ∈ env, 1 ≤ x) → 1 ≤ evM env m
  | [], _, _ => Int.le_refl _
  | x :: r, m, h => by
    have h1 : 1 ≤ x ^ (m % 64) := by
      have := h x (List.mem_cons_self ..)
      have : 0 < x ^ (m % 64) := Int.pow_pos (by omega)
      omega
    have h2 := evM_pos (env := r) (m / 64) fun y hy => h y (List.mem_cons_of_mem _ hy)
    rw [evM]
    have := Int.mul_pos (a := x ^ (m % 64)) (b := evM r (m / 64)) (by omega) (by omega)
    omega
namespace Pol
/-- a polynomial's value -/
noncomputable def val (env : List Int) : Pol → Int
  | nil => 0
  | cons m c t => c * evM env m + val env t
variable {env : List Int}
theorem isZ_eq {s : Int} (h : isZ s = true) : s = 0 := by
  cases s with
  | ofNat n => have : Nat.beq n 0 = true := h; rw [Nat.eq_of_beq_eq_true this]; rfl
  | negSucc n => cases h
theorem val_zr (s : Int) (m : Nat) (t : Pol) : val env (zr s m t) = s * evM env m + val env t := by
  unfold zr
  cases h : isZ s with
  | false => rfl
  | true => show val env t = _; rw [isZ_eq h, Int.zero_mul, Int.zero_add]
theorem val_ins {m : Nat} {c : Int} {f : Pol → Pol} {v : Int} (hf : ∀ q, val env (f q) = v + val env q) : ∀ q, val env (ins m c f q) = c * evM env m + v + val env q
  | nil => by show c * evM env m + val env (f nil) = _; rw [hf, Int.add_assoc]
  | cons m' c' q' => by
    have ih := val_ins (m := m) (c := c) hf q'
    show val env (@Bool.rec (fun _ => Pol) (@Bool.rec (fun _ => Pol) (zr (Int.add c c') m (f q')) (cons m' c' (ins m c f q')) (Nat.blt m' m)) (cons m c (f (cons m' c' q'))) (Nat.blt m m')) = _
    cases h1 : Nat.blt m m' with
    | true => show c * evM env m + val env (f (cons m' c' q')) = _; rw [hf, Int.add_assoc]
    | false =>
      cases h2 : Nat.blt m' m with
      | true => show c' * evM env m' + val env (ins m c f q') = _; rw [ih]; show _ = _ + v + (c' * evM env m' + val env q'); omega
      | false =>
        have e : m = m' := by
          have a : ¬ m < m' := fun h => by rw [show Nat.blt m m' = true from Nat.ble_eq.mpr h] at h1; cases h1
          have b : ¬ m' < m := fun h => by rw [show Nat.blt m' m = true from Nat.ble_eq.mpr h] at h2; cases h2
          omega
        show val env (zr (c + c') m (f q')) = _ + v + (c' * evM env m' + val env q')
        rw [val_zr, hf, Int.add_mul, ← e]; omega
theorem val_merge : ∀ p q : Pol, val env (merge p q) = val env p + val env q
  | nil, q => by show val env q = 0 + _; rw [Int.zero_add]
  | cons m c t, q => by
    show val env (ins m c (merge t) q) = _
    rw [val_ins (v := val env t) (fun q => val_merge t q)]; rfl
noncomputable def SmallP (n : Nat) : Pol → Prop
  | nil => True
  | cons m _ t => SmallM n m ∧ SmallP n t
theorem small_ok {n : Nat} (hn : n ≤ 20) : ∀ {p : Pol}, okP p = true → SmallP n p
  | nil, _ => trivial
  | cons m c t, h => by
    have h' : @Bool.rec (fun _ => Bool) false (okP t) (Nat.beq (Nat.land m mask) 0) = true := h
    cases h1 : Nat.beq (Nat.land m mask) 0 with
    | false => rw [h1] at h'; cases h'
    | true =>
      rw [h1] at h'
      exact ⟨smallMono hn (smallOf 20 m (by rw [msk20]; exact Nat.eq_of_beq_eq_true h1)), small_ok hn h'⟩
theorem val_shift {s : Nat} {k : Int} (hs : SmallM env.length s) : ∀ {p : Pol}, SmallP env.length p → val env (shift s k p) = k * evM env s * val env p
  | nil, _ => by show 0 = _ * 0; rw [Int.mul_zero]
  | cons m c t, ⟨h1, h2⟩ => by
    have ih := val_shift (k := k) hs h2
    show (k * c) * evM env (m + s) + val env (shift s k t) = k * evM env s * (c * evM env m + val env t)
    rw [ih, evM_add h1 hs, Int.mul_add]
    congr 1
    simp only [Int.mul_comm, Int.mul_left_comm, Int.mul_assoc]
theorem val_shift0 {k : Int} : ∀ {p : Pol}, val env (shift 0 k p) = k * val env p
  | nil => by show 0 = _ * 0; rw [Int.mul_zero]
  | cons m c t => by
    show (k * c) * evM env m + val env (shift 0 k t) = k * (c * evM env m + val env t)
    rw [val_shift0, Int.mul_add, Int.mul_assoc]
noncomputable def valS (env : List Int) : List Pol → Int
  | [] => 0
  | p :: r => val env p + valS env r
theorem valS_append : ∀ a b : List Pol, valS env (a ++ b) = valS env a + valS env b
  | [], b => by show _ = 0 + _; rw [Int.zero_add]; rfl
  | p :: r, b => by show val env p + valS env (r ++ b) = val env p + valS env r + _; rw [valS_append, Int.add_assoc]
theorem val_rows {q : Pol} (hq : SmallP env.length q) : ∀ {p : Pol}, SmallP env.length p → valS env (rows q p) = val env p * val env q
  | nil, _ => by show 0 = 0 * _; rw [Int.zero_mul]
  | cons m c t, ⟨h1, h2⟩ => by
    show val env (shift m c q) + valS env (rows q t) = (c * evM env m + val env t) * val env q
    rw [val_shift h1 hq, val_rows hq h2, Int.add_mul]
noncomputable def valO (env : List Int) : Option Pol → Int
  | none => 0
  | some p => val env p
theorem val_pairUp : ∀ (l : List Pol) (o : Option Pol), valS env (pairUp l o) = valO env o + valS env l
  | [], none => rfl
  | [], some a => rfl
  | x :: l, none => by
    show valS env (pairUp l (some x)) = 0 + (val env x + valS env l)
    rw [val_pairUp l, Int.zero_add]; rfl
  | x :: l, some a => by
    show val env (merge a x) + valS env (pairUp l none) = val env a + (val env x + valS env l)
    rw [val_pairUp l, val_merge]; show _ + (0 + _) = _; omega
theorem val_foldr : ∀ l : List Pol, val env (l.foldr merge nil) = valS env l
  | [] => rfl
  | x :: l => by show val env (merge x (l.foldr merge nil)) = _; rw [val_merge, val_foldr l]; rfl
theorem val_joined : ∀ (n : Nat) (l : List Pol), val env (joined n l) = valS env l
  | 0, l => val_foldr l
  | n + 1, [] => rfl
  | n + 1, [a] => by show val env a = val env a + 0; rw [Int.add_zero]
  | n + 1, a :: b :: r => by
    show val env (joined n (pairUp (a :: b :: r) none)) = _
    rw [val_joined n, val_pairUp]; show 0 + _ = _; rw [Int.zero_add]
theorem val_mul {p q : Pol} (hp : SmallP env.length p) (hq : SmallP env.length q) : val env (mul p q) = val env p * val env q := by
  unfold mul
  rw [val_joined, val_rows hq hp]
theorem val_keep (f : Nat → Bool) : ∀ p : Pol, val env (keep (fun m => !(f m)) p) + val env (keep f p) = val env p
  | nil => rfl
  | cons m c t => by
    have ih := val_keep f t
    show val env (@Bool.rec (fun _ => Pol) (keep (fun m => !(f m)) t) (cons m c (keep (fun m => !(f m)) t)) (!(f m))) + val env (@Bool.rec (fun _ => Pol) (keep f t) (cons m c (keep f t)) (f m)) = c * evM env m + val env t
    cases f m with
    | true => show val env (keep (fun m => !(f m)) t) + (c * evM env m + val env (keep f t)) = _; omega
    | false => show (c * evM env m + val env (keep (fun m => !(f m)) t)) + val env (keep f t) = _; omega
theorem val_down {i : Nat} (hi : i < env.length) {f : Nat → Bool} (hf : ∀ m, f m = true → 0 < m / 64 ^ i % 64) : ∀ p : Pol, val env (keep f p) = env.getD i 0 * val env (down (64 ^ i) (keep f p))
  | nil => by show 0 = _ * 0; rw [Int.mul_zero]
  | cons m c t => by
    have ih := val_down hi hf t
    show val env (@Bool.rec (fun _ => Pol) (keep f t) (cons m c (keep f t)) (f m)) = env.getD i 0 * val env (down (64 ^ i) (@Bool.rec (fun _ => Pol) (keep f t) (cons m c (keep f t)) (f m)))
    cases h : f m with
    | false => exact ih
    | true =>
      show c * evM env m + val env (keep f t) = env.getD i 0 * (c * evM env (m - 64 ^ i) + val env (down (64 ^ i) (keep f t)))
      rw [evM_down hi (hf m h), ih, Int.mul_add, Int.mul_left_comm]
/-- the sum of the monomials rs -/
noncomputable def sumM (env : List Int) : List Nat → Int
  | [] => 0
  | m :: r => evM env m + sumM env r
theorem val_shifts {y : Pol} (hy : SmallP env.length y) : ∀ {rs : List Nat}, (∀ r ∈ rs, SmallM env.length r) → valS env (rs.map fun r => shift r 1 y) = sumM env rs * val env y
  | [], _ => by show 0 = 0 * _; rw [Int.zero_mul]
  | m :: r, h => by
    show val env (shift m 1 y) + valS env (r.map fun r => shift r 1 y) = (evM env m + sumM env r) * val env y
    rw [val_shift (h m (List.mem_cons_self ..)) hy, val_shifts hy fun x hx => h x (List.mem_cons_of_mem _ hx), Int.add_mul, Int.one_mul]
theorem holds_pos {z : Nat} {f : Nat → Bool} {m : Nat} (h : holds z f m = true) : 0 < m / z % 64 := by
  have h' : @Bool.rec (fun _ => Bool) false (f m) (Nat.blt 0 (m / z % 64)) = true := h
  cases q : Nat.blt 0 (m / z % 64) with
  | false => rw [q] at h'; cases h'
  | true => exact Nat.ble_eq.mp q
/-- a line that tells how a letter is put -/
noncomputable def RlOk (env : List Int) (r : Rl) : Prop := ∃ i, i < env.length ∧ r.z = 64 ^ i ∧ (∀ x ∈ r.rs, SmallM env.length x) ∧ env.getD i 0 = sumM env r.rs
theorem val_red1 (hn : env.length ≤ 20) {r : Rl} (h : RlOk env r) (p : Pol) : val env (red1 r.z r.rs r.f p) = val env p := by
  obtain ⟨i, hi, hz, hs, he⟩ := h
  unfold red1
  dsimp only
  cases q : okP (down r.z (keep (holds r.z r.f) p)) with
  | false => rfl
  | true =>
    show val env (joined 4 (keep (fun m => !(holds r.z r.f m)) p :: r.rs.map fun x => shift x 1 (down r.z (keep (holds r.z r.f) p)))) = val env p
    rw [val_joined]
    show val env (keep (fun m => !(holds r.z r.f m)) p) + valS env (r.rs.map _) = _
    rw [val_shifts (small_ok hn q) hs, ← he, hz, ← val_down hi (f := holds (64 ^ i) r.f) (fun m hm => holds_pos hm), val_keep]
end Pol
theorem Pol.val_fold {env : List Int} (hn : env.length ≤ 20) : ∀ (rl : List Rl), (∀ r ∈ rl, Pol.RlOk env r) → ∀ p, Pol.val env (rl.foldl (fun p r => Pol.red1 r.z r.rs r.f p) p) = Pol.val env p
  | [], _, p => rfl
  | r :: rl, h, p => by
    rw [List.foldl_cons, Pol.val_fold hn rl (fun x hx => h x (List.mem_cons_of_mem _ hx)), Pol.val_red1 hn (h r (List.mem_cons_self ..))]
theorem Pol.val_red {env : List Int} (hn : env.length ≤ 20) {rl : List Rl} (h : ∀ r ∈ rl, Pol.RlOk env r) : ∀ (n : Nat) (p : Pol), Pol.val env (Pol.red n rl p) = Pol.val env p
  | 0, p => rfl
  | n + 1, .nil => rfl
  | n + 1, .cons m c t => by
    show Pol.val env (Pol.red n rl (rl.foldl (fun p r => Pol.red1 r.z r.rs r.f p) (.cons m c t))) = _
    rw [Pol.val_red hn h n, Pol.val_fold hn rl h]
namespace Pol
noncomputable def sumT (env : List Int) : List (Nat × Pol × Pol) → Int
  | [] => 0
  | x :: r => evM env x.1 * (val env x.2.1 * val env x.2.2) + sumT env r
theorem val_dueP {env : List Int} (hn : env.length ≤ 20) : ∀ {l : List (Nat × Pol × Pol)}, okL l = true → valS env (dueP l) = sumT env l
  | [], _ => rfl
  | x :: r, h => by
    unfold okL at h
    rw [List.all_cons, Bool.and_eq_true] at h
    have ih := val_dueP hn (l := r) h.2
    have h1 := h.1
    rw [Bool.and_eq_true, Bool.and_eq_true, Bool.and_eq_true] at h1
    obtain ⟨a, b, c, d⟩ := h1
    have hx : SmallM env.length x.1 := smallMono hn (smallOf 20 _ (by rw [msk20]; exact Nat.eq_of_beq_eq_true a))
    show val env (shift x.1 1 (mul x.2.1 x.2.2)) + valS env (dueP r) = _
    rw [val_shift hx (small_ok hn d), val_mul (small_ok hn b) (small_ok hn c), ih, Int.one_mul]; rfl
theorem chk_sound {env : List Int} (hn : env.length ≤ 20) {l : List (Nat × Pol × Pol)} {a b : Pol} {rl : List Rl} (h : chk l a b rl = true) (hr : ∀ r ∈ rl, RlOk env r) : sumT env l = val env a * val env b := by
  unfold chk at h
  rw [Bool.and_eq_true, Bool.and_eq_true, Bool.and_eq_true] at h
  obtain ⟨h1, h2, h3, h4⟩ := h
  have h5 := val_red hn hr 14 (merge (joined 3 (dueP l)) (shift 0 (-1) (mul a b)))
  have h6 : val env (red 14 rl (merge (joined 3 (dueP l)) (shift 0 (-1) (mul a b)))) = 0 := by
    generalize red 14 rl (merge (joined 3 (dueP l)) (shift 0 (-1) (mul a b))) = p at h4
    cases p with
    | nil => rfl
    | cons m c t => cases h4
  rw [h6, val_merge, val_joined, val_dueP hn h1, val_shift0, val_mul (small_ok hn h2) (small_ok hn h3)] at h5
  omega
end Pol
/-- a family: the numbers' polynomials in the drawn numbers, the first j numbers and the weights -/
structure Fam where
  n : Nat
  j : Nat
  ps : List Nat
  D : List (List Int)
  mon : List (List Nat)
  Q : List Pol
  rl : List (List Rl)
  b : List Nat
  w : List (List Nat)
namespace Fam
noncomputable def mn (F : Fam) (k c : Nat) : Nat := (F.mon.getD k []).getD c 0
noncomputable def q (F : Fam) (m : Nat) : Pol := @Bool.rec (fun _ => Pol) (@Bool.rec (fun _ => Pol) (F.Q.getD (m - (F.n + F.j)) .nil) (.cons (64 ^ m) 1 .nil) (Nat.blt m (F.n + F.j))) (.cons 0 1 .nil) (Nat.blt m F.n)
noncomputable def zp (F : Fam) (m : Nat) : Nat := @Bool.rec (fun _ => Nat) (64 ^ m) 0 (Nat.blt m F.n)
noncomputable def prods (F : Fam) (k : Nat) : List Nat → Nat → List (Nat × Pol × Pol)
  | [], _ => []
  | p :: r, c => (F.mn k c, F.q (F.n + k - p), F.q (k + p)) :: prods F k r (c + 1)
noncomputable def rel (F : Fam) (i : Nat) : List Nat → Nat → List Nat
  | [], _ => []
  | p :: r, c => (F.mn i c + F.zp (F.n + i - p) + F.zp (i + p)) :: rel F i r (c + 1)
noncomputable def chkK (F : Fam) (k : Nat) : Bool := Nat.blt k F.j || Pol.chk (F.prods k F.ps 0) (F.q k) (F.q (F.n + k)) (F.rl.getD (k - F.j) [])
noncomputable def okM (m : Nat) : Bool := Nat.beq (Nat.land m Pol.mask) 0
noncomputable def rlB (F : Fam) (r : Rl) : Bool := (List.range F.j).any fun i => Nat.beq r.z (64 ^ (F.n + i)) && (r.rs == F.rel i F.ps 0 && r.rs.all okM)
noncomputable def smB (F : Fam) (i : Nat) : List Nat → Nat → Bool
  | [], _ => true
  | p :: r, c => okM (F.mn i c) && (okM (F.zp (F.n + i - p)) && (okM (F.zp (i + p)) && (okM (F.mn i c + F.zp (F.n + i - p)) && smB F i r (c + 1))))
noncomputable def okB (F : Fam) : Bool := Nat.ble (F.n + F.j + F.ps.length) 20 && (Nat.ble F.j F.n && (F.ps.all (fun p => Nat.blt 0 p && Nat.blt p F.n) && (Nat.blt 0 F.ps.length && (F.rl.all (fun l => l.all F.rlB) && (List.range F.j).all fun i => F.smB i F.ps 0))))
/-- the sum that the rule makes -/
noncomputable def dueN (F : Fam) (W : Nat → Int) (N : Nat → Int) (k : Nat) : List Nat → Nat → Int
  | [], _ => 0
  | p :: r, c => W c * (N (F.n + k - p) * N (k + p)) + dueN F W N k r (c + 1)
theorem q_one {F : Fam} {m : Nat} (h : m < F.n) (env : List Int) : Pol.val env (F.q m) = 1 := by
  unfold q
  rw [show Nat.blt m F.n = true from Nat.ble_eq.mpr h]
  show 1 * evM env 0 + 0 = 1
  rw [evM_zero]; rfl
theorem evVar {env : List Int} {m : Nat} (h : m < env.length) : evM env (64 ^ m) = env.getD m 0 := by
  have h1 : 0 < 64 ^ m / 64 ^ m % 64 := by rw [Nat.div_self (Nat.pow_pos (by decide))]; decide
  rw [evM_down h h1, Nat.sub_self, evM_zero, Int.mul_one]
theorem q_var {F : Fam} {m : Nat} (h0 : F.n ≤ m) (h : m < F.n + F.j) {env : List Int} (hl : m < env.length) : Pol.val env (F.q m) = env.getD m 0 := by
  unfold q
  rw [show Nat.blt m F.n = false from by cases e : Nat.blt m F.n with | false => rfl | true => exact absurd (Nat.ble_eq.mp e) (by omega), show Nat.blt m (F.n + F.j) = true from Nat.ble_eq.mpr h]
  show 1 * evM env (64 ^ m) + 0 = _
  rw [evVar hl]; omega
theorem zp_ev {F : Fam} {m : Nat} {env : List Int} (hl : m < env.length) {N : Nat → Int} (h1 : ∀ m, m < F.n → N m = 1) (h2 : F.n ≤ m → env.getD m 0 = N m) : evM env (F.zp m) = N m := by
  unfold zp
  cases e : Nat.blt m F.n with
  | true => show evM env 0 = _; rw [evM_zero, h1 m (Nat.ble_eq.mp e)]
  | false =>
    show evM env (64 ^ m) = _
    rw [evVar hl, h2]
    rcases Nat.lt_or_ge m F.n with q | q
    · rw [show Nat.blt m F.n = true from Nat.ble_eq.mpr q] at e; cases e
    · exact q
section
variable {F : Fam} {env : List Int} {N : Nat → Int} {W : Nat → Nat → Int}
theorem smOk (hn : env.length ≤ 20) {m : Nat} (h : okM m = true) : SmallM env.length m := smallMono hn (smallOf 20 m (by rw [msk20]; exact Nat.eq_of_beq_eq_true h))
theorem relSum (hn : env.length ≤ 20) {i : Nat} (hW : ∀ c, W i c = evM env (F.mn i c)) (hz : ∀ m, m < F.n + F.j → evM env (F.zp m) = N m) (hi : i < F.j) : ∀ (l : List Nat) (c : Nat), (∀ p ∈ l, 0 < p ∧ p < F.n) → F.smB i l c = true →
    Pol.sumM env (F.rel i l c) = F.dueN (W i) N i l c
  | [], _, _, _ => rfl
  | p :: r, c, hp, hs => by
    unfold smB at hs
    rw [Bool.and_eq_true, Bool.and_eq_true, Bool.and_eq_true, Bool.and_eq_true] at hs
    obtain ⟨a, b, d, e, f⟩ := hs
    have hp0 := hp p (List.mem_cons_self ..)
    show evM env (F.mn i c + F.zp (F.n + i - p) + F.zp (i + p)) + Pol.sumM env (F.rel i r (c + 1)) = W i c * (N (F.n + i - p) * N (i + p)) + F.dueN (W i) N i r (c + 1)
    rw [relSum hn hW hz hi r (c + 1) (fun x hx => hp x (List.mem_cons_of_mem _ hx)) f, evM_add (smOk hn e) (smOk hn d), evM_add (smOk hn a) (smOk hn b), hz _ (by omega), hz _ (by omega), ← hW, Int.mul_assoc]
theorem prodSum {k : Nat} (hW : ∀ c, W k c = evM env (F.mn k c)) (hv : ∀ m, m < F.n + k → N m = Pol.val env (F.q m)) : ∀ (l : List Nat) (c : Nat), (∀ p ∈ l, 0 < p ∧ p < F.n) → Pol.sumT env (F.prods k l c) = F.dueN (W k) N k l c
  | [], _, _ => rfl
  | p :: r, c, hp => by
    have hp0 := hp p (List.mem_cons_self ..)
    show evM env (F.mn k c) * (Pol.val env (F.q (F.n + k - p)) * Pol.val env (F.q (k + p))) + Pol.sumT env (F.prods k r (c + 1)) = W k c * (N (F.n + k - p) * N (k + p)) + F.dueN (W k) N k r (c + 1)
    rw [prodSum hW hv r (c + 1) fun x hx => hp x (List.mem_cons_of_mem _ hx), hW, hv _ (by omega), hv _ (by omega)]
theorem duePos {k : Nat} (hW : ∀ c, c < F.ps.length → 1 ≤ W k c) (hN : ∀ m, m < F.n + k → 1 ≤ N m) : ∀ (l : List Nat) (c : Nat), c + l.length ≤ F.ps.length → (∀ p ∈ l, 0 < p ∧ p < F.n) → (l.length : Int) ≤ F.dueN (W k) N k l c
  | [], _, _, _ => Int.le_refl _
  | p :: r, c, hc, hp => by
    have hp0 := hp p (List.mem_cons_self ..)
    rw [List.length_cons] at hc
    have ih := duePos hW hN r (c + 1) (by omega) fun x hx => hp x (List.mem_cons_of_mem _ hx)
    have h1 := hW c (by omega)
    have h2 := hN (F.n + k - p) (by omega)
    have h3 := hN (k + p) (by omega)
    have h4 := Int.mul_pos (a := N (F.n + k - p)) (b := N (k + p)) (by omega) (by omega)
    have h5 := Int.mul_pos (a := W k c) (b := N (F.n + k - p) * N (k + p)) (by omega) h4
    show ((r.length + 1 : Nat) : Int) ≤ W k c * (N (F.n + k - p) * N (k + p)) + F.dueN (W k) N k r (c + 1)
    omega
/-- the family's law: each number divides the sum that the rule makes -/
theorem sound (ok : F.okB = true) (hc : ∀ k, k < F.n + 4 → F.chkK k = true) (hl : env.length = F.n + F.j + F.ps.length) (h1 : ∀ m, m < F.n → N m = 1) (hz : ∀ i, i < F.j → env.getD (F.n + i) 0 = N (F.n + i))
    (hW : ∀ k c, k < F.n + 4 → W k c = evM env (F.mn k c)) (hW1 : ∀ k c, k < F.n + 4 → c < F.ps.length → 1 ≤ W k c) (hN : ∀ k, k < F.n + 4 → N (F.n + k) = F.dueN (W k) N k F.ps 0 / N k) :
    ∀ k, k < F.n + 4 → F.dueN (W k) N k F.ps 0 = N (F.n + k) * N k ∧ 1 ≤ N (F.n + k) ∧ N (F.n + k) = Pol.val env (F.q (F.n + k)) := by
  unfold okB at ok
  simp only [Bool.and_eq_true] at ok
  obtain ⟨o1, o2, o3, o4, o5, o6⟩ := ok
  have o1 := Nat.ble_eq.mp o1
  have o2 := Nat.ble_eq.mp o2
  have o4 : 0 < F.ps.length := Nat.ble_eq.mp o4
  have hps : ∀ p ∈ F.ps, 0 < p ∧ p < F.n := fun p hp => by
    have := List.all_eq_true.mp o3 p hp
    rw [Bool.and_eq_true] at this
    exact ⟨Nat.ble_eq.mp this.1, Nat.ble_eq.mp this.2⟩
  have hn : env.length ≤ 20 := by omega
  have hzp : ∀ m, m < F.n + F.j → evM env (F.zp m) = N m := fun m hm => zp_ev (by omega) h1 fun h0 => by
    have := hz (m - F.n) (by omega)
    rw [show F.n + (m - F.n) = m by omega] at this
    exact this
  have hrl : ∀ r, F.rlB r = true → Pol.RlOk env r := fun r hr => by
    obtain ⟨i, hi, hb⟩ := List.any_eq_true.mp hr
    have hi := List.mem_range.mp hi
    rw [Bool.and_eq_true, Bool.and_eq_true] at hb
    obtain ⟨b1, b2, b3⟩ := hb
    have b2 : r.rs = F.rel i F.ps 0 := by simpa using b2
    refine ⟨F.n + i, by omega, Nat.eq_of_beq_eq_true b1, fun x hx => smOk hn (List.all_eq_true.mp b3 x hx), ?_⟩
    rw [b2, relSum hn (fun c => hW i c (by omega)) hzp hi F.ps 0 hps (List.all_eq_true.mp o6 i (List.mem_range.mpr hi)), hz i hi, hN i (by omega), h1 i (by omega), Int.ediv_one]
  intro k
  induction k using Nat.strongRecOn with
  | _ k ih =>
    intro hk
    have hv : ∀ m, m < F.n + k → 1 ≤ N m ∧ N m = Pol.val env (F.q m) := fun m hm => by
      rcases Nat.lt_or_ge m F.n with q | q
      · rw [h1 m q, q_one q]; exact ⟨Int.le_refl _, rfl⟩
      · have := ih (m - F.n) (by omega) (by omega)
        rw [show F.n + (m - F.n) = m by omega] at this
        exact this.2
    have hd := duePos (k := k) (fun c hc => hW1 k c hk hc) (fun m hm => (hv m hm).1) F.ps 0 (by omega) hps
    have hd1 : 1 ≤ F.dueN (W k) N k F.ps 0 := by omega
    rcases Nat.lt_or_ge k F.j with q | q
    · have e : N k = 1 := h1 k (by omega)
      have e2 := hN k hk
      rw [e, Int.ediv_one] at e2
      refine ⟨by rw [e, Int.mul_one, e2], by omega, ?_⟩
      rw [q_var (by omega) (by omega) (by omega), hz k q]
    · have c := hc k hk
      unfold chkK at c
      rw [show Nat.blt k F.j = false from by cases e : Nat.blt k F.j with | false => rfl | true => exact absurd (Nat.ble_eq.mp e) (by omega), Bool.false_or] at c
      have hr : ∀ r ∈ F.rl.getD (k - F.j) [], Pol.RlOk env r := fun r hr => by
        rw [List.getD_eq_getElem?_getD] at hr
        cases e : F.rl[k - F.j]? with
        | none => rw [e] at hr; cases hr
        | some l =>
          rw [e] at hr
          exact hrl r (List.all_eq_true.mp (List.all_eq_true.mp o5 l (List.mem_of_getElem? e)) r hr)
      have s := Pol.chk_sound hn c hr
      have hk0 : k < F.n + k := by
        have := hps _ (List.getElem_mem o4)
        omega
      rw [prodSum (fun c => hW k c hk) (fun m hm => (hv m hm).2) F.ps 0 hps, ← (hv k hk0).2] at s
      have hNk := (hv k hk0).1
      have e := hN k hk
      rw [s, Int.mul_ediv_cancel_left _ (by omega)] at e
      rw [← e] at s
      refine ⟨by rw [s, Int.mul_comm], ?_, e⟩
      rcases Int.lt_or_le (N (F.n + k)) 1 with q | q
      · have := Int.mul_nonneg (a := N k) (b := -N (F.n + k)) (by omega) (by omega)
        rw [Int.mul_neg] at this
        omega
      · exact q
end
end Fam
section
set_option maxRecDepth 100000
theorem lt0 {P : Nat → Prop} : ∀ k, k < 0 → P k := fun k h => absurd h (Nat.not_lt_zero k)
theorem ltS {P : Nat → Prop} {n : Nat} (h : P n) (r : ∀ k, k < n → P k) : ∀ k, k < n + 1 → P k := fun k hk => (Nat.lt_succ_iff_lt_or_eq.mp hk).elim (r k) fun e => e ▸ h
open Pol in
noncomputable def qS4_6 : Pol := cons (nat_lit 69793480705) (.ofNat (nat_lit 1)) (cons (nat_lit 4398080065600) (.ofNat (nat_lit 1)) (nil))
open Pol in
noncomputable def qS4_7 : Pol := cons (nat_lit 138529734721) (.ofNat (nat_lit 1)) (cons (nat_lit 4400193998849) (.ofNat (nat_lit 1)) (cons (nat_lit 4466816319616) (.ofNat (nat_lit 1)) (nil)))
open Pol in
noncomputable def qS4_8 : Pol := cons (nat_lit 71940702209) (.ofNat (nat_lit 1)) (cons (nat_lit 4536592765056) (.ofNat (nat_lit 1)) (cons (nat_lit 8865903542401) (.ofNat (nat_lit 2)) (cons (nat_lit 13194190127296) (.ofNat (nat_lit 1)) (nil))))
open Pol in
noncomputable def qS4_9 : Pol := cons (nat_lit 209380179971) (.ofNat (nat_lit 1)) (cons (nat_lit 4674032242818) (.ofNat (nat_lit 3)) (cons (nat_lit 8935696506946) (.ofNat (nat_lit 3)) (cons (nat_lit 9002318827713) (.ofNat (nat_lit 3)) (cons (nat_lit 9003343020163) (.ofNat (nat_lit 3)) (cons (nat_lit 13197360771074) (.ofNat (nat_lit 1)) (cons (nat_lit 13262942896384) (.ofNat (nat_lit 1)) (cons (nat_lit 13263983091841) (.ofNat (nat_lit 2)) (cons (nat_lit 13331629605058) (.ofNat (nat_lit 3)) (nil)))))))))
open Pol in
noncomputable def qS4_10 : Pol := cons (nat_lit 483201388739) (.ofNat (nat_lit 1)) (cons (nat_lit 4472134696963) (.ofNat (nat_lit 1)) (cons (nat_lit 4608500174915) (.ofNat (nat_lit 1)) (cons (nat_lit 4744865652867) (.ofNat (nat_lit 1)) (cons (nat_lit 4811487973634) (.ofNat (nat_lit 3)) (cons (nat_lit 4812512166084) (.ofNat (nat_lit 1)) (cons (nat_lit 9073152237762) (.ofNat (nat_lit 6)) (cons (nat_lit 9139774558529) (.ofNat (nat_lit 3)) (cons (nat_lit 9140798750979) (.ofNat (nat_lit 3)) (cons (nat_lit 13334816501890) (.ofNat (nat_lit 3)) (cons (nat_lit 13400398627200) (.ofNat (nat_lit 1)) (cons (nat_lit 13401438822657) (.ofNat (nat_lit 3)) (cons (nat_lit 13402463015107) (.ofNat (nat_lit 6)) (cons (nat_lit 13469085335874) (.ofNat (nat_lit 3)) (cons (nat_lit 17664127279235) (.ofNat (nat_lit 2)) (cons (nat_lit 17730749600002) (.ofNat (nat_lit 3)) (cons (nat_lit 17731773792452) (.ofNat (nat_lit 3)) (cons (nat_lit 22060060377347) (.ofNat (nat_lit 3)) (cons (nat_lit 26388346962242) (.ofNat (nat_lit 1)) (nil)))))))))))))))))))
open Pol in
noncomputable def qS4_11 : Pol := cons (nat_lit 212600881156) (.ofNat (nat_lit 1)) (cons (nat_lit 4949983899907) (.ofNat (nat_lit 3)) (cons (nat_lit 9211648164035) (.ofNat (nat_lit 6)) (cons (nat_lit 9278270484802) (.ofNat (nat_lit 3)) (cons (nat_lit 9279294677252) (.ofNat (nat_lit 12)) (cons (nat_lit 13404593463428) (.ofNat (nat_lit 6)) (cons (nat_lit 13472239976645) (.ofNat (nat_lit 5)) (cons (nat_lit 13473312428163) (.ofNat (nat_lit 3)) (cons (nat_lit 13539934748930) (.ofNat (nat_lit 3)) (cons (nat_lit 13540958941380) (.ofNat (nat_lit 12)) (cons (nat_lit 13606557069697) (.ofNat (nat_lit 1)) (cons (nat_lit 13607581262147) (.ofNat (nat_lit 19)) (cons (nat_lit 13608605454597) (.ofNat (nat_lit 9)) (cons (nat_lit 17869245526275) (.ofNat (nat_lit 21)) (cons (nat_lit 17935867847042) (.ofNat (nat_lit 15)) (cons (nat_lit 17936892039492) (.ofNat (nat_lit 26)) (cons (nat_lit 22130909790403) (.ofNat (nat_lit 6)) (cons (nat_lit 22196491915713) (.ofNat (nat_lit 6)) (cons (nat_lit 22197532111170) (.ofNat (nat_lit 12)) (cons (nat_lit 22198556303620) (.ofNat (nat_lit 15)) (cons (nat_lit 22265178624387) (.ofNat (nat_lit 24)) (cons (nat_lit 22266202816837) (.ofNat (nat_lit 10)) (cons (nat_lit 26392574054531) (.ofNat (nat_lit 1)) (cons (nat_lit 26457115984384) (.ofNat (nat_lit 1)) (cons (nat_lit 26459196375298) (.ofNat (nat_lit 3)) (cons (nat_lit 26525802693058) (.ofNat (nat_lit 5)) (cons (nat_lit 26525818696065) (.ofNat (nat_lit 3)) (cons (nat_lit 26526842888515) (.ofNat (nat_lit 9)) (cons (nat_lit 26594489401732) (.ofNat (nat_lit 10)) (cons (nat_lit 30855129473410) (.ofNat (nat_lit 2)) (nil))))))))))))))))))))))))))))))
noncomputable def rS4_2 : List Rl := [⟨nat_lit 1073741824, [nat_lit 68736258048, nat_lit 4398047035393], fun m => Nat.blt 1 (Nat.add (Nat.mod (Nat.div m (nat_lit 64)) 64) (Nat.mod (Nat.div m (nat_lit 1073741824)) 64))⟩, ⟨nat_lit 16777216, [nat_lit 68719738944, nat_lit 4398046519296], fun m => Nat.blt 2 (Nat.add (Nat.add (Nat.mod m 64) (Nat.mod (Nat.div m (nat_lit 16777216)) 64)) (Nat.mod (Nat.div m (nat_lit 1073741824)) 64))⟩]
noncomputable def rS4_3 : List Rl := [⟨nat_lit 1073741824, [nat_lit 68736258048, nat_lit 4398047035393], fun m => Nat.blt 2 (Nat.add (Nat.mod (Nat.div m (nat_lit 64)) 64) (Nat.mod (Nat.div m (nat_lit 1073741824)) 64))⟩, ⟨nat_lit 16777216, [nat_lit 68719738944, nat_lit 4398046519296], fun m => Nat.blt 3 (Nat.add (Nat.add (Nat.mod m 64) (Nat.mod (Nat.div m (nat_lit 16777216)) 64)) (Nat.mod (Nat.div m (nat_lit 1073741824)) 64))⟩]
noncomputable def rS4_4 : List Rl := [⟨nat_lit 1073741824, [nat_lit 68736258048, nat_lit 4398047035393], fun m => Nat.blt 3 (Nat.add (Nat.mod (Nat.div m (nat_lit 64)) 64) (Nat.mod (Nat.div m (nat_lit 1073741824)) 64))⟩, ⟨nat_lit 16777216, [nat_lit 68719738944, nat_lit 4398046519296], fun m => Nat.blt 4 (Nat.add (Nat.add (Nat.mod m 64) (Nat.mod (Nat.div m (nat_lit 16777216)) 64)) (Nat.mod (Nat.div m (nat_lit 1073741824)) 64))⟩]
noncomputable def rS4_5 : List Rl := [⟨nat_lit 1073741824, [nat_lit 68736258048, nat_lit 4398047035393], fun m => Nat.blt 4 (Nat.add (Nat.mod (Nat.div m (nat_lit 64)) 64) (Nat.mod (Nat.div m (nat_lit 1073741824)) 64))⟩, ⟨nat_lit 16777216, [nat_lit 68719738944, nat_lit 4398046519296], fun m => Nat.blt 6 (Nat.add (Nat.add (Nat.mod m 64) (Nat.mod (Nat.div m (nat_lit 16777216)) 64)) (Nat.mod (Nat.div m (nat_lit 1073741824)) 64))⟩]
noncomputable def rS4_6 : List Rl := [⟨nat_lit 1073741824, [nat_lit 68736258048, nat_lit 4398047035393], fun m => Nat.blt 6 (Nat.add (Nat.mod (Nat.div m (nat_lit 64)) 64) (Nat.mod (Nat.div m (nat_lit 1073741824)) 64))⟩, ⟨nat_lit 16777216, [nat_lit 68719738944, nat_lit 4398046519296], fun m => Nat.blt 8 (Nat.add (Nat.add (Nat.mod m 64) (Nat.mod (Nat.div m (nat_lit 16777216)) 64)) (Nat.mod (Nat.div m (nat_lit 1073741824)) 64))⟩]
noncomputable def rS4_7 : List Rl := [⟨nat_lit 1073741824, [nat_lit 68736258048, nat_lit 4398047035393], fun m => Nat.blt 8 (Nat.add (Nat.mod (Nat.div m (nat_lit 64)) 64) (Nat.mod (Nat.div m (nat_lit 1073741824)) 64))⟩, ⟨nat_lit 16777216, [nat_lit 68719738944, nat_lit 4398046519296], fun m => Nat.blt 10 (Nat.add (Nat.add (Nat.mod m 64) (Nat.mod (Nat.div m (nat_lit 16777216)) 64)) (Nat.mod (Nat.div m (nat_lit 1073741824)) 64))⟩]
noncomputable def fS4 : Fam := { n := 4, j := 2, ps := [1, 2], D := [[-1, 0, 0, 0], [0, -1, 0, 0], [0, 0, -1, 0], [0, 0, 0, -1], [1, 0, 0, 0], [1, 1, 0, 0], [2, 1, 1, 0], [3, 2, 1, 1], [3, 3, 2, 1], [5, 3, 3, 2], [6, 5, 3, 3], [7, 6, 5, 3]], mon := [[68719738944, 4398046519296], [68719480832, 4398047035393], [68719738881, 4398046511168], [68719476800, 4398046515201], [68719480832, 4398046773312], [68719738881, 4398046515200], [68719476800, 4398046773250], [68719480833, 4398046511232]], Q := [qS4_6, qS4_7, qS4_8, qS4_9, qS4_10, qS4_11], rl := [rS4_2, rS4_3, rS4_4, rS4_5, rS4_6, rS4_7], b := [0, 0, 0, 0, 18, 32, 50, 82, 128, 196, 292, 438], w := [[16, 16], [12, 20], [16, 12], [12, 16], [12, 16], [16, 12], [12, 20], [16, 16]] }
theorem okS4 : fS4.okB = true := by decide +kernel
theorem cS4_2 : fS4.chkK 2 = true := by decide +kernel
theorem cS4_3 : fS4.chkK 3 = true := by decide +kernel
theorem cS4_4 : fS4.chkK 4 = true := by decide +kernel
theorem cS4_5 : fS4.chkK 5 = true := by decide +kernel
theorem cS4_6 : fS4.chkK 6 = true := by decide +kernel
theorem cS4_7 : fS4.chkK 7 = true := by decide +kernel
theorem chS4 : ∀ k, k < fS4.n + 4 → fS4.chkK k = true :=
  show ∀ k, k < 8 → fS4.chkK k = true from ltS (cS4_7) (ltS (cS4_6) (ltS (cS4_5) (ltS (cS4_4) (ltS (cS4_3) (ltS (cS4_2) (ltS (rfl) (ltS (rfl) lt0)))))))
open Pol in
noncomputable def qS5_7 : Pol := cons (nat_lit 4466766249984) (.ofNat (nat_lit 1)) (cons (nat_lit 281476067229760) (.ofNat (nat_lit 1)) (nil))
open Pol in
noncomputable def qS5_8 : Pol := cons (nat_lit 8864829538305) (.ofNat (nat_lit 1)) (cons (nat_lit 281544769933312) (.ofNat (nat_lit 1)) (cons (nat_lit 285874130518081) (.ofNat (nat_lit 1)) (nil)))
open Pol in
noncomputable def qS5_9 : Pol := cons (nat_lit 13263949791297) (.ofNat (nat_lit 1)) (cons (nat_lit 285943890186304) (.ofNat (nat_lit 1)) (cons (nat_lit 286010462699521) (.ofNat (nat_lit 1)) (cons (nat_lit 290273250771073) (.ofNat (nat_lit 1)) (cons (nat_lit 563019763679297) (.ofNat (nat_lit 1)) (nil)))))
open Pol in
noncomputable def qS5_10 : Pol := cons (nat_lit 9002251714561) (.ofNat (nat_lit 1)) (cons (nat_lit 290409582436416) (.ofNat (nat_lit 1)) (cons (nat_lit 294738943021185) (.ofNat (nat_lit 1)) (cons (nat_lit 567485455929409) (.ofNat (nat_lit 2)) (cons (nat_lit 571814816514178) (.ofNat (nat_lit 2)) (cons (nat_lit 844494756909185) (.ofNat (nat_lit 1)) (cons (nat_lit 848824117493954) (.ofNat (nat_lit 1)) (nil)))))))
open Pol in
noncomputable def qS5_11 : Pol := cons (nat_lit 17798345261058) (.ofNat (nat_lit 1)) (cons (nat_lit 299205675982913) (.ofNat (nat_lit 1)) (cons (nat_lit 303535036567682) (.ofNat (nat_lit 3)) (cons (nat_lit 576214976962689) (.ofNat (nat_lit 3)) (cons (nat_lit 576281549475906) (.ofNat (nat_lit 4)) (cons (nat_lit 580544337547458) (.ofNat (nat_lit 3)) (cons (nat_lit 580610910060675) (.ofNat (nat_lit 3)) (cons (nat_lit 848894917357696) (.ofNat (nat_lit 1)) (cons (nat_lit 848961489870913) (.ofNat (nat_lit 1)) (cons (nat_lit 853223237746946) (.ofNat (nat_lit 1)) (cons (nat_lit 853224277942465) (.ofNat (nat_lit 2)) (cons (nat_lit 853290850455682) (.ofNat (nat_lit 5)) (cons (nat_lit 857620211040451) (.ofNat (nat_lit 3)) (cons (nat_lit 1125970790850689) (.ofNat (nat_lit 1)) (cons (nat_lit 1130300151435458) (.ofNat (nat_lit 2)) (nil)))))))))))))))
open Pol in
noncomputable def qS5_12 : Pol := cons (nat_lit 26594471837763) (.ofNat (nat_lit 1)) (cons (nat_lit 308001802559618) (.ofNat (nat_lit 3)) (cons (nat_lit 312331163144387) (.ofNat (nat_lit 3)) (cons (nat_lit 572020925140994) (.ofNat (nat_lit 1)) (cons (nat_lit 580681742954625) (.ofNat (nat_lit 3)) (cons (nat_lit 580748315467842) (.ofNat (nat_lit 2)) (cons (nat_lit 585011103539394) (.ofNat (nat_lit 6)) (cons (nat_lit 585077676052611) (.ofNat (nat_lit 6)) (cons (nat_lit 589340464124163) (.ofNat (nat_lit 3)) (cons (nat_lit 589407036637380) (.ofNat (nat_lit 3)) (cons (nat_lit 853361683349632) (.ofNat (nat_lit 1)) (cons (nat_lit 853428255862849) (.ofNat (nat_lit 2)) (cons (nat_lit 857691043934401) (.ofNat (nat_lit 3)) (cons (nat_lit 857757616447618) (.ofNat (nat_lit 8)) (cons (nat_lit 862019364323651) (.ofNat (nat_lit 1)) (cons (nat_lit 862020404519170) (.ofNat (nat_lit 3)) (cons (nat_lit 862086977032387) (.ofNat (nat_lit 9)) (cons (nat_lit 866416337617156) (.ofNat (nat_lit 3)) (cons (nat_lit 1130437556842625) (.ofNat (nat_lit 2)) (cons (nat_lit 1130504129355842) (.ofNat (nat_lit 2)) (cons (nat_lit 1134766917427394) (.ofNat (nat_lit 5)) (cons (nat_lit 1134833489940611) (.ofNat (nat_lit 2)) (cons (nat_lit 1139096278012163) (.ofNat (nat_lit 4)) (cons (nat_lit 1407513430335618) (.ofNat (nat_lit 1)) (cons (nat_lit 1411842790920387) (.ofNat (nat_lit 1)) (nil)))))))))))))))))))))))))
open Pol in
noncomputable def qS5_13 : Pol := cons (nat_lit 44119028932803) (.ofNat (nat_lit 1)) (cons (nat_lit 299410761187331) (.ofNat (nat_lit 1)) (cons (nat_lit 308138151514179) (.ofNat (nat_lit 1)) (cons (nat_lit 316798969327810) (.ofNat (nat_lit 3)) (cons (nat_lit 316865541841027) (.ofNat (nat_lit 1)) (cons (nat_lit 321128329912579) (.ofNat (nat_lit 3)) (cons (nat_lit 321194902425796) (.ofNat (nat_lit 1)) (cons (nat_lit 589478909722817) (.ofNat (nat_lit 3)) (cons (nat_lit 589545482236034) (.ofNat (nat_lit 6)) (cons (nat_lit 593808270307586) (.ofNat (nat_lit 6)) (cons (nat_lit 593874842820803) (.ofNat (nat_lit 12)) (cons (nat_lit 598137630892355) (.ofNat (nat_lit 3)) (cons (nat_lit 598204203405572) (.ofNat (nat_lit 3)) (cons (nat_lit 857893965402179) (.ofNat (nat_lit 4)) (cons (nat_lit 862158850117824) (.ofNat (nat_lit 1)) (cons (nat_lit 862223325986948) (.ofNat (nat_lit 4)) (cons (nat_lit 862225422631041) (.ofNat (nat_lit 3)) (cons (nat_lit 862291995144258) (.ofNat (nat_lit 3)) (cons (nat_lit 866488210702593) (.ofNat (nat_lit 3)) (cons (nat_lit 866554783215810) (.ofNat (nat_lit 15)) (cons (nat_lit 866621355729027) (.ofNat (nat_lit 10)) (cons (nat_lit 870816531091843) (.ofNat (nat_lit 1)) (cons (nat_lit 870817571287362) (.ofNat (nat_lit 3)) (cons (nat_lit 870884143800579) (.ofNat (nat_lit 15)) (cons (nat_lit 870950716313796) (.ofNat (nat_lit 6)) (cons (nat_lit 875213504385348) (.ofNat (nat_lit 3)) (cons (nat_lit 1139234723610817) (.ofNat (nat_lit 4)) (cons (nat_lit 1139301296124034) (.ofNat (nat_lit 8)) (cons (nat_lit 1143564084195586) (.ofNat (nat_lit 9)) (cons (nat_lit 1143630656708803) (.ofNat (nat_lit 21)) (cons (nat_lit 1147893444780355) (.ofNat (nat_lit 6)) (cons (nat_lit 1147960017293572) (.ofNat (nat_lit 12)) (cons (nat_lit 1416310597103810) (.ofNat (nat_lit 6)) (cons (nat_lit 1416377169617027) (.ofNat (nat_lit 6)) (cons (nat_lit 1420639957688579) (.ofNat (nat_lit 12)) (cons (nat_lit 1420706530201796) (.ofNat (nat_lit 12)) (cons (nat_lit 1424969318273348) (.ofNat (nat_lit 6)) (cons (nat_lit 1425035890786565) (.ofNat (nat_lit 6)) (cons (nat_lit 1693319898083586) (.ofNat (nat_lit 1)) (cons (nat_lit 1693386470596803) (.ofNat (nat_lit 4)) (cons (nat_lit 1697648218472836) (.ofNat (nat_lit 1)) (cons (nat_lit 1697649258668355) (.ofNat (nat_lit 2)) (cons (nat_lit 1697715831181572) (.ofNat (nat_lit 8)) (cons (nat_lit 1702045191766341) (.ofNat (nat_lit 4)) (cons (nat_lit 1970395771576579) (.ofNat (nat_lit 1)) (cons (nat_lit 1974725132161348) (.ofNat (nat_lit 2)) (nil))))))))))))))))))))))))))))))))))))))))))))))
noncomputable def rS5_2 : List Rl := [⟨nat_lit 68719476736, [nat_lit 4399120257024, nat_lit 281474993750017], fun m => Nat.blt 1 (Nat.add (Nat.mod (Nat.div m (nat_lit 64)) 64) (Nat.mod (Nat.div m (nat_lit 68719476736)) 64))⟩, ⟨nat_lit 1073741824, [nat_lit 4398063288384, nat_lit 281474976976896], fun m => Nat.blt 1 (Nat.add (Nat.add (Nat.mod m 64) (Nat.mod (Nat.div m (nat_lit 1073741824)) 64)) (Nat.mod (Nat.div m (nat_lit 68719476736)) 64))⟩]
noncomputable def rS5_3 : List Rl := [⟨nat_lit 68719476736, [nat_lit 4399120257024, nat_lit 281474993750017], fun m => Nat.blt 1 (Nat.add (Nat.mod (Nat.div m (nat_lit 64)) 64) (Nat.mod (Nat.div m (nat_lit 68719476736)) 64))⟩, ⟨nat_lit 1073741824, [nat_lit 4398063288384, nat_lit 281474976976896], fun m => Nat.blt 2 (Nat.add (Nat.add (Nat.mod m 64) (Nat.mod (Nat.div m (nat_lit 1073741824)) 64)) (Nat.mod (Nat.div m (nat_lit 68719476736)) 64))⟩]
noncomputable def rS5_4 : List Rl := [⟨nat_lit 68719476736, [nat_lit 4399120257024, nat_lit 281474993750017], fun m => Nat.blt 2 (Nat.add (Nat.mod (Nat.div m (nat_lit 64)) 64) (Nat.mod (Nat.div m (nat_lit 68719476736)) 64))⟩, ⟨nat_lit 1073741824, [nat_lit 4398063288384, nat_lit 281474976976896], fun m => Nat.blt 3 (Nat.add (Nat.add (Nat.mod m 64) (Nat.mod (Nat.div m (nat_lit 1073741824)) 64)) (Nat.mod (Nat.div m (nat_lit 68719476736)) 64))⟩]
noncomputable def rS5_5 : List Rl := [⟨nat_lit 68719476736, [nat_lit 4399120257024, nat_lit 281474993750017], fun m => Nat.blt 3 (Nat.add (Nat.mod (Nat.div m (nat_lit 64)) 64) (Nat.mod (Nat.div m (nat_lit 68719476736)) 64))⟩, ⟨nat_lit 1073741824, [nat_lit 4398063288384, nat_lit 281474976976896], fun m => Nat.blt 4 (Nat.add (Nat.add (Nat.mod m 64) (Nat.mod (Nat.div m (nat_lit 1073741824)) 64)) (Nat.mod (Nat.div m (nat_lit 68719476736)) 64))⟩]
noncomputable def rS5_6 : List Rl := [⟨nat_lit 68719476736, [nat_lit 4399120257024, nat_lit 281474993750017], fun m => Nat.blt 4 (Nat.add (Nat.mod (Nat.div m (nat_lit 64)) 64) (Nat.mod (Nat.div m (nat_lit 68719476736)) 64))⟩, ⟨nat_lit 1073741824, [nat_lit 4398063288384, nat_lit 281474976976896], fun m => Nat.blt 5 (Nat.add (Nat.add (Nat.mod m 64) (Nat.mod (Nat.div m (nat_lit 1073741824)) 64)) (Nat.mod (Nat.div m (nat_lit 68719476736)) 64))⟩]
noncomputable def rS5_7 : List Rl := [⟨nat_lit 68719476736, [nat_lit 4399120257024, nat_lit 281474993750017], fun m => Nat.blt 5 (Nat.add (Nat.mod (Nat.div m (nat_lit 64)) 64) (Nat.mod (Nat.div m (nat_lit 68719476736)) 64))⟩, ⟨nat_lit 1073741824, [nat_lit 4398063288384, nat_lit 281474976976896], fun m => Nat.blt 6 (Nat.add (Nat.add (Nat.mod m 64) (Nat.mod (Nat.div m (nat_lit 1073741824)) 64)) (Nat.mod (Nat.div m (nat_lit 68719476736)) 64))⟩]
noncomputable def rS5_8 : List Rl := [⟨nat_lit 68719476736, [nat_lit 4399120257024, nat_lit 281474993750017], fun m => Nat.blt 6 (Nat.add (Nat.mod (Nat.div m (nat_lit 64)) 64) (Nat.mod (Nat.div m (nat_lit 68719476736)) 64))⟩, ⟨nat_lit 1073741824, [nat_lit 4398063288384, nat_lit 281474976976896], fun m => Nat.blt 8 (Nat.add (Nat.add (Nat.mod m 64) (Nat.mod (Nat.div m (nat_lit 1073741824)) 64)) (Nat.mod (Nat.div m (nat_lit 68719476736)) 64))⟩]
noncomputable def fS5 : Fam := { n := 5, j := 2, ps := [1, 2], D := [[-1, 0, 0, 0, 0], [0, -1, 0, 0, 0], [0, 0, -1, 0, 0], [0, 0, 0, -1, 0], [0, 0, 0, 0, -1], [1, 0, 0, 0, 0], [1, 1, 0, 0, 0], [1, 1, 1, 0, 0], [2, 1, 1, 1, 0], [3, 2, 1, 1, 1], [3, 3, 2, 1, 1], [4, 3, 3, 2, 1], [5, 4, 3, 3, 2], [6, 5, 4, 3, 3]], mon := [[4398063288384, 281474976976896], [4398046515200, 281474993750017], [4398046773248, 281474993487936], [4398063288321, 281474976714752], [4398046511168, 281474976972801], [4398046515200, 281474993487937], [4398046773249, 281474976714816], [4398063288384, 281474976976896], [4398046515200, 281474993750017]], Q := [qS5_7, qS5_8, qS5_9, qS5_10, qS5_11, qS5_12, qS5_13], rl := [rS5_2, rS5_3, rS5_4, rS5_5, rS5_6, rS5_7, rS5_8], b := [0, 0, 0, 0, 0, 18, 32, 46, 64, 96, 142, 206, 288, 398], w := [[16, 16], [12, 20], [12, 16], [16, 12], [12, 16], [12, 20], [16, 16], [16, 16], [12, 20]] }
theorem okS5 : fS5.okB = true := by decide +kernel
theorem cS5_2 : fS5.chkK 2 = true := by decide +kernel
theorem cS5_3 : fS5.chkK 3 = true := by decide +kernel
theorem cS5_4 : fS5.chkK 4 = true := by decide +kernel
theorem cS5_5 : fS5.chkK 5 = true := by decide +kernel
theorem cS5_6 : fS5.chkK 6 = true := by decide +kernel
theorem cS5_7 : fS5.chkK 7 = true := by decide +kernel
theorem cS5_8 : fS5.chkK 8 = true := by decide +kernel
theorem chS5 : ∀ k, k < fS5.n + 4 → fS5.chkK k = true :=
  show ∀ k, k < 9 → fS5.chkK k = true from ltS (cS5_8) (ltS (cS5_7) (ltS (cS5_6) (ltS (cS5_5) (ltS (cS5_4) (ltS (cS5_3) (ltS (cS5_2) (ltS (rfl) (ltS (rfl) lt0))))))))
open Pol in
noncomputable def qS6b_8 : Pol := cons (nat_lit 285873023483904) (.ofNat (nat_lit 1)) (cons (nat_lit 18014467245736000) (.ofNat (nat_lit 1)) (nil))
open Pol in
noncomputable def qS6b_9 : Pol := cons (nat_lit 567348016971776) (.ofNat (nat_lit 1)) (cons (nat_lit 18018797629739008) (.ofNat (nat_lit 1)) (cons (nat_lit 18295942239223872) (.ofNat (nat_lit 1)) (nil)))
open Pol in
noncomputable def qS6b_10 : Pol := cons (nat_lit 848824067424257) (.ofNat (nat_lit 1)) (cons (nat_lit 18300273680191489) (.ofNat (nat_lit 1)) (cons (nat_lit 18300340252704768) (.ofNat (nat_lit 1)) (cons (nat_lit 18577418289676353) (.ofNat (nat_lit 1)) (cons (nat_lit 36028934474956864) (.ofNat (nat_lit 1)) (nil)))))
open Pol in
noncomputable def qS6b_11 : Pol := cons (nat_lit 1130367763611713) (.ofNat (nat_lit 1)) (cons (nat_lit 18581817376378945) (.ofNat (nat_lit 1)) (cons (nat_lit 18581883948892224) (.ofNat (nat_lit 1)) (cons (nat_lit 18586144589742081) (.ofNat (nat_lit 1)) (cons (nat_lit 18858961985863809) (.ofNat (nat_lit 1)) (cons (nat_lit 36037594202509313) (.ofNat (nat_lit 1)) (cons (nat_lit 36310478171144320) (.ofNat (nat_lit 1)) (cons (nat_lit 36314738811994177) (.ofNat (nat_lit 1)) (nil))))))))
open Pol in
noncomputable def qS6b_12 : Pol := cons (nat_lit 857619086704641) (.ofNat (nat_lit 1)) (cons (nat_lit 18309068699471873) (.ofNat (nat_lit 1)) (cons (nat_lit 18867688252641344) (.ofNat (nat_lit 1)) (cons (nat_lit 19144766289612929) (.ofNat (nat_lit 1)) (cons (nat_lit 36596282474893440) (.ofNat (nat_lit 1)) (cons (nat_lit 36600543115743297) (.ofNat (nat_lit 1)) (cons (nat_lit 36600544139935809) (.ofNat (nat_lit 1)) (cons (nat_lit 36877622176907394) (.ofNat (nat_lit 2)) (cons (nat_lit 54329071789674626) (.ofNat (nat_lit 1)) (cons (nat_lit 54329138362187905) (.ofNat (nat_lit 2)) (cons (nat_lit 54606216399159490) (.ofNat (nat_lit 1)) (cons (nat_lit 72057732584440001) (.ofNat (nat_lit 1)) (nil))))))))))))
open Pol in
noncomputable def qS6b_13 : Pol := cons (nat_lit 1420569040650241) (.ofNat (nat_lit 1)) (cons (nat_lit 18872018653417473) (.ofNat (nat_lit 1)) (cons (nat_lit 19430638206586944) (.ofNat (nat_lit 1)) (cons (nat_lit 19707716243558529) (.ofNat (nat_lit 3)) (cons (nat_lit 37159165856325761) (.ofNat (nat_lit 3)) (cons (nat_lit 37159232428839040) (.ofNat (nat_lit 3)) (cons (nat_lit 37163493069688897) (.ofNat (nat_lit 3)) (cons (nat_lit 37163494093881409) (.ofNat (nat_lit 1)) (cons (nat_lit 37436310465810625) (.ofNat (nat_lit 3)) (cons (nat_lit 37440572130852994) (.ofNat (nat_lit 3)) (cons (nat_lit 54610615469092993) (.ofNat (nat_lit 1)) (cons (nat_lit 54610682041606272) (.ofNat (nat_lit 1)) (cons (nat_lit 54614942682456129) (.ofNat (nat_lit 3)) (cons (nat_lit 54887759038382337) (.ofNat (nat_lit 1)) (cons (nat_lit 54887760078577857) (.ofNat (nat_lit 2)) (cons (nat_lit 54887826651091136) (.ofNat (nat_lit 3)) (cons (nat_lit 54892021743620226) (.ofNat (nat_lit 2)) (cons (nat_lit 54892087291940993) (.ofNat (nat_lit 3)) (cons (nat_lit 54892088316133505) (.ofNat (nat_lit 3)) (cons (nat_lit 55169166353105090) (.ofNat (nat_lit 3)) (cons (nat_lit 72066392295223361) (.ofNat (nat_lit 1)) (cons (nat_lit 72339275223662848) (.ofNat (nat_lit 1)) (cons (nat_lit 72339276263858368) (.ofNat (nat_lit 1)) (cons (nat_lit 72343536904708225) (.ofNat (nat_lit 2)) (cons (nat_lit 72620615965872322) (.ofNat (nat_lit 1)) (cons (nat_lit 72620681514193089) (.ofNat (nat_lit 1)) (cons (nat_lit 72620682538385601) (.ofNat (nat_lit 3)) (nil)))))))))))))))))))))))))))
open Pol in
noncomputable def qS6b_14 : Pol := cons (nat_lit 1983519027625986) (.ofNat (nat_lit 1)) (cons (nat_lit 19434968640393218) (.ofNat (nat_lit 3)) (cons (nat_lit 19993588193562689) (.ofNat (nat_lit 1)) (cons (nat_lit 20270666230534274) (.ofNat (nat_lit 3)) (cons (nat_lit 36886418253160450) (.ofNat (nat_lit 3)) (cons (nat_lit 37445037806329921) (.ofNat (nat_lit 3)) (cons (nat_lit 37722115843301506) (.ofNat (nat_lit 6)) (cons (nat_lit 37722182415814785) (.ofNat (nat_lit 3)) (cons (nat_lit 37726443056664642) (.ofNat (nat_lit 3)) (cons (nat_lit 37726444080857154) (.ofNat (nat_lit 1)) (cons (nat_lit 37999260452786370) (.ofNat (nat_lit 3)) (cons (nat_lit 38003522117828739) (.ofNat (nat_lit 3)) (cons (nat_lit 54337867865927682) (.ofNat (nat_lit 1)) (cons (nat_lit 54896487419097153) (.ofNat (nat_lit 2)) (cons (nat_lit 54896553991610432) (.ofNat (nat_lit 1)) (cons (nat_lit 54900814632460289) (.ofNat (nat_lit 1)) (cons (nat_lit 55173565456068738) (.ofNat (nat_lit 3)) (cons (nat_lit 55173632028582017) (.ofNat (nat_lit 5)) (cons (nat_lit 55177892669431874) (.ofNat (nat_lit 6)) (cons (nat_lit 55177893693624386) (.ofNat (nat_lit 3)) (cons (nat_lit 55450709025358082) (.ofNat (nat_lit 1)) (cons (nat_lit 55450710065553602) (.ofNat (nat_lit 3)) (cons (nat_lit 55450776638066881) (.ofNat (nat_lit 3)) (cons (nat_lit 55454971730595971) (.ofNat (nat_lit 6)) (cons (nat_lit 55455037278916738) (.ofNat (nat_lit 3)) (cons (nat_lit 55455038303109250) (.ofNat (nat_lit 3)) (cons (nat_lit 55732116340080835) (.ofNat (nat_lit 3)) (cons (nat_lit 72352264245227521) (.ofNat (nat_lit 1)) (cons (nat_lit 72625081641349249) (.ofNat (nat_lit 1)) (cons (nat_lit 72625148213862528) (.ofNat (nat_lit 1)) (cons (nat_lit 72629342282199106) (.ofNat (nat_lit 3)) (cons (nat_lit 72629343306391618) (.ofNat (nat_lit 2)) (cons (nat_lit 72629408854712385) (.ofNat (nat_lit 1)) (cons (nat_lit 72629409878904897) (.ofNat (nat_lit 1)) (cons (nat_lit 72902225210638593) (.ofNat (nat_lit 1)) (cons (nat_lit 72902226250834113) (.ofNat (nat_lit 2)) (cons (nat_lit 72906421343363203) (.ofNat (nat_lit 3)) (cons (nat_lit 72906486891683970) (.ofNat (nat_lit 3)) (cons (nat_lit 72906487915876482) (.ofNat (nat_lit 6)) (cons (nat_lit 73183565952848067) (.ofNat (nat_lit 3)) (cons (nat_lit 73183631501168834) (.ofNat (nat_lit 1)) (cons (nat_lit 73183632525361346) (.ofNat (nat_lit 3)) (cons (nat_lit 90357937528643714) (.ofNat (nat_lit 2)) (cons (nat_lit 90358004101156993) (.ofNat (nat_lit 2)) (cons (nat_lit 90635082138128578) (.ofNat (nat_lit 3)) (cons (nat_lit 108086598323409089) (.ofNat (nat_lit 1)) (nil))))))))))))))))))))))))))))))))))))))))))))))
open Pol in
noncomputable def qS6b_15 : Pol := cons (nat_lit 2546471128531011) (.ofNat (nat_lit 1)) (cons (nat_lit 19997920741298243) (.ofNat (nat_lit 3)) (cons (nat_lit 20556540294467714) (.ofNat (nat_lit 3)) (cons (nat_lit 20833618331439299) (.ofNat (nat_lit 3)) (cons (nat_lit 37449370354065475) (.ofNat (nat_lit 3)) (cons (nat_lit 37453764139941890) (.ofNat (nat_lit 1)) (cons (nat_lit 38007989907234946) (.ofNat (nat_lit 6)) (cons (nat_lit 38008056479748225) (.ofNat (nat_lit 3)) (cons (nat_lit 38012317120598082) (.ofNat (nat_lit 2)) (cons (nat_lit 38285067944206531) (.ofNat (nat_lit 6)) (cons (nat_lit 38285134516719810) (.ofNat (nat_lit 9)) (cons (nat_lit 38289395157569667) (.ofNat (nat_lit 3)) (cons (nat_lit 38289396181762179) (.ofNat (nat_lit 3)) (cons (nat_lit 38562212553691395) (.ofNat (nat_lit 3)) (cons (nat_lit 38566474218733764) (.ofNat (nat_lit 3)) (cons (nat_lit 54900819966832707) (.ofNat (nat_lit 1)) (cons (nat_lit 54905213752709122) (.ofNat (nat_lit 1)) (cons (nat_lit 55459439520002178) (.ofNat (nat_lit 3)) (cons (nat_lit 55459506092515457) (.ofNat (nat_lit 3)) (cons (nat_lit 55459572665028736) (.ofNat (nat_lit 1)) (cons (nat_lit 55463766733365314) (.ofNat (nat_lit 4)) (cons (nat_lit 55463833305878593) (.ofNat (nat_lit 2)) (cons (nat_lit 55736517556973763) (.ofNat (nat_lit 3)) (cons (nat_lit 55736584129487042) (.ofNat (nat_lit 12)) (cons (nat_lit 55736650702000321) (.ofNat (nat_lit 9)) (cons (nat_lit 55740844770336899) (.ofNat (nat_lit 6)) (cons (nat_lit 55740845794529411) (.ofNat (nat_lit 6)) (cons (nat_lit 55740911342850178) (.ofNat (nat_lit 9)) (cons (nat_lit 55740912367042690) (.ofNat (nat_lit 3)) (cons (nat_lit 56013661126263107) (.ofNat (nat_lit 1)) (cons (nat_lit 56013662166458627) (.ofNat (nat_lit 3)) (cons (nat_lit 56013728738971906) (.ofNat (nat_lit 9)) (cons (nat_lit 56017923831500996) (.ofNat (nat_lit 6)) (cons (nat_lit 56017989379821763) (.ofNat (nat_lit 3)) (cons (nat_lit 56017990404014275) (.ofNat (nat_lit 9)) (cons (nat_lit 56295068440985860) (.ofNat (nat_lit 3)) (cons (nat_lit 72915216346132546) (.ofNat (nat_lit 2)) (cons (nat_lit 72915282918645825) (.ofNat (nat_lit 1)) (cons (nat_lit 73188033742254274) (.ofNat (nat_lit 3)) (cons (nat_lit 73188100314767553) (.ofNat (nat_lit 6)) (cons (nat_lit 73188166887280832) (.ofNat (nat_lit 3)) (cons (nat_lit 73192294383104131) (.ofNat (nat_lit 3)) (cons (nat_lit 73192295407296643) (.ofNat (nat_lit 3)) (cons (nat_lit 73192360955617410) (.ofNat (nat_lit 11)) (cons (nat_lit 73192361979809922) (.ofNat (nat_lit 3)) (cons (nat_lit 73192427528130689) (.ofNat (nat_lit 6)) (cons (nat_lit 73192428552323201) (.ofNat (nat_lit 1)) (cons (nat_lit 73196688168980546) (.ofNat (nat_lit 3)) (cons (nat_lit 73196689193173058) (.ofNat (nat_lit 1)) (cons (nat_lit 73465177311543618) (.ofNat (nat_lit 3)) (cons (nat_lit 73465178351739138) (.ofNat (nat_lit 6)) (cons (nat_lit 73465244924252417) (.ofNat (nat_lit 9)) (cons (nat_lit 73469373444268228) (.ofNat (nat_lit 3)) (cons (nat_lit 73469438992588995) (.ofNat (nat_lit 3)) (cons (nat_lit 73469440016781507) (.ofNat (nat_lit 12)) (cons (nat_lit 73469505565102274) (.ofNat (nat_lit 9)) (cons (nat_lit 73469506589294786) (.ofNat (nat_lit 9)) (cons (nat_lit 73473767230144643) (.ofNat (nat_lit 3)) (cons (nat_lit 73746518053753092) (.ofNat (nat_lit 3)) (cons (nat_lit 73746583602073859) (.ofNat (nat_lit 1)) (cons (nat_lit 73746584626266371) (.ofNat (nat_lit 9)) (cons (nat_lit 90643810568384642) (.ofNat (nat_lit 3)) (cons (nat_lit 90643877140897921) (.ofNat (nat_lit 3)) (cons (nat_lit 90648137781747778) (.ofNat (nat_lit 3)) (cons (nat_lit 90916693496824129) (.ofNat (nat_lit 3)) (cons (nat_lit 90916694537019649) (.ofNat (nat_lit 3)) (cons (nat_lit 90916761109532928) (.ofNat (nat_lit 3)) (cons (nat_lit 90920889629548739) (.ofNat (nat_lit 3)) (cons (nat_lit 90920955177869506) (.ofNat (nat_lit 6)) (cons (nat_lit 90920956202062018) (.ofNat (nat_lit 6)) (cons (nat_lit 90921021750382785) (.ofNat (nat_lit 6)) (cons (nat_lit 90921022774575297) (.ofNat (nat_lit 3)) (cons (nat_lit 90925216842911875) (.ofNat (nat_lit 2)) (cons (nat_lit 90925282391232642) (.ofNat (nat_lit 3)) (cons (nat_lit 90925283415425154) (.ofNat (nat_lit 3)) (cons (nat_lit 91198034239033603) (.ofNat (nat_lit 6)) (cons (nat_lit 91198099787354370) (.ofNat (nat_lit 3)) (cons (nat_lit 91198100811546882) (.ofNat (nat_lit 9)) (cons (nat_lit 91202361452396739) (.ofNat (nat_lit 3)) (cons (nat_lit 108099587394515010) (.ofNat (nat_lit 1)) (cons (nat_lit 108368209682104640) (.ofNat (nat_lit 1)) (cons (nat_lit 108372471363150017) (.ofNat (nat_lit 2)) (cons (nat_lit 108376732003999874) (.ofNat (nat_lit 2)) (cons (nat_lit 108649550424314114) (.ofNat (nat_lit 3)) (cons (nat_lit 108649615972634881) (.ofNat (nat_lit 2)) (cons (nat_lit 108649616996827393) (.ofNat (nat_lit 3)) (cons (nat_lit 108653811065163971) (.ofNat (nat_lit 1)) (cons (nat_lit 108653876613484738) (.ofNat (nat_lit 1)) (cons (nat_lit 108653877637677250) (.ofNat (nat_lit 3)) (cons (nat_lit 108930955674648835) (.ofNat (nat_lit 1)) (cons (nat_lit 126382471859929346) (.ofNat (nat_lit 1)) (nil)))))))))))))))))))))))))))))))))))))))))))))))))))))))))))))))))))))))))))))))))))))))))))
noncomputable def rS6b_2 : List Rl := [⟨nat_lit 4398046511104, [nat_lit 281543696191488, nat_lit 18014399583485953], fun m => Nat.blt 1 (Nat.add (Nat.mod (Nat.div m (nat_lit 64)) 64) (Nat.mod (Nat.div m (nat_lit 4398046511104)) 64))⟩, ⟨nat_lit 68719476736, [nat_lit 281476050452544, nat_lit 18014398526263296], fun m => Nat.blt 1 (Nat.add (Nat.add (Nat.mod m 64) (Nat.mod (Nat.div m (nat_lit 68719476736)) 64)) (Nat.mod (Nat.div m (nat_lit 4398046511104)) 64))⟩]
noncomputable def rS6b_3 : List Rl := [⟨nat_lit 4398046511104, [nat_lit 281543696191488, nat_lit 18014399583485953], fun m => Nat.blt 1 (Nat.add (Nat.mod (Nat.div m (nat_lit 64)) 64) (Nat.mod (Nat.div m (nat_lit 4398046511104)) 64))⟩, ⟨nat_lit 68719476736, [nat_lit 281476050452544, nat_lit 18014398526263296], fun m => Nat.blt 1 (Nat.add (Nat.add (Nat.mod m 64) (Nat.mod (Nat.div m (nat_lit 68719476736)) 64)) (Nat.mod (Nat.div m (nat_lit 4398046511104)) 64))⟩]
noncomputable def rS6b_4 : List Rl := [⟨nat_lit 4398046511104, [nat_lit 281543696191488, nat_lit 18014399583485953], fun m => Nat.blt 1 (Nat.add (Nat.mod (Nat.div m (nat_lit 64)) 64) (Nat.mod (Nat.div m (nat_lit 4398046511104)) 64))⟩, ⟨nat_lit 68719476736, [nat_lit 281476050452544, nat_lit 18014398526263296], fun m => Nat.blt 2 (Nat.add (Nat.add (Nat.mod m 64) (Nat.mod (Nat.div m (nat_lit 68719476736)) 64)) (Nat.mod (Nat.div m (nat_lit 4398046511104)) 64))⟩]
noncomputable def rS6b_5 : List Rl := [⟨nat_lit 4398046511104, [nat_lit 281543696191488, nat_lit 18014399583485953], fun m => Nat.blt 2 (Nat.add (Nat.mod (Nat.div m (nat_lit 64)) 64) (Nat.mod (Nat.div m (nat_lit 4398046511104)) 64))⟩, ⟨nat_lit 68719476736, [nat_lit 281476050452544, nat_lit 18014398526263296], fun m => Nat.blt 3 (Nat.add (Nat.add (Nat.mod m 64) (Nat.mod (Nat.div m (nat_lit 68719476736)) 64)) (Nat.mod (Nat.div m (nat_lit 4398046511104)) 64))⟩]
noncomputable def rS6b_6 : List Rl := [⟨nat_lit 4398046511104, [nat_lit 281543696191488, nat_lit 18014399583485953], fun m => Nat.blt 3 (Nat.add (Nat.mod (Nat.div m (nat_lit 64)) 64) (Nat.mod (Nat.div m (nat_lit 4398046511104)) 64))⟩, ⟨nat_lit 68719476736, [nat_lit 281476050452544, nat_lit 18014398526263296], fun m => Nat.blt 4 (Nat.add (Nat.add (Nat.mod m 64) (Nat.mod (Nat.div m (nat_lit 68719476736)) 64)) (Nat.mod (Nat.div m (nat_lit 4398046511104)) 64))⟩]
noncomputable def rS6b_7 : List Rl := [⟨nat_lit 4398046511104, [nat_lit 281543696191488, nat_lit 18014399583485953], fun m => Nat.blt 4 (Nat.add (Nat.mod (Nat.div m (nat_lit 64)) 64) (Nat.mod (Nat.div m (nat_lit 4398046511104)) 64))⟩, ⟨nat_lit 68719476736, [nat_lit 281476050452544, nat_lit 18014398526263296], fun m => Nat.blt 4 (Nat.add (Nat.add (Nat.mod m 64) (Nat.mod (Nat.div m (nat_lit 68719476736)) 64)) (Nat.mod (Nat.div m (nat_lit 4398046511104)) 64))⟩]
noncomputable def rS6b_8 : List Rl := [⟨nat_lit 4398046511104, [nat_lit 281543696191488, nat_lit 18014399583485953], fun m => Nat.blt 4 (Nat.add (Nat.mod (Nat.div m (nat_lit 64)) 64) (Nat.mod (Nat.div m (nat_lit 4398046511104)) 64))⟩, ⟨nat_lit 68719476736, [nat_lit 281476050452544, nat_lit 18014398526263296], fun m => Nat.blt 5 (Nat.add (Nat.add (Nat.mod m 64) (Nat.mod (Nat.div m (nat_lit 68719476736)) 64)) (Nat.mod (Nat.div m (nat_lit 4398046511104)) 64))⟩]
noncomputable def rS6b_9 : List Rl := [⟨nat_lit 4398046511104, [nat_lit 281543696191488, nat_lit 18014399583485953], fun m => Nat.blt 5 (Nat.add (Nat.mod (Nat.div m (nat_lit 64)) 64) (Nat.mod (Nat.div m (nat_lit 4398046511104)) 64))⟩, ⟨nat_lit 68719476736, [nat_lit 281476050452544, nat_lit 18014398526263296], fun m => Nat.blt 6 (Nat.add (Nat.add (Nat.mod m 64) (Nat.mod (Nat.div m (nat_lit 68719476736)) 64)) (Nat.mod (Nat.div m (nat_lit 4398046511104)) 64))⟩]
noncomputable def fS6b : Fam := { n := 6, j := 2, ps := [1, 2], D := [[-1, 0, 0, 0, 0, 0], [0, -1, 0, 0, 0, 0], [0, 0, -1, 0, 0, 0], [0, 0, 0, -1, 0, 0], [0, 0, 0, 0, -1, 0], [0, 0, 0, 0, 0, -1], [1, 0, 0, 0, 0, 0], [1, 1, 0, 0, 0, 0], [1, 1, 1, 0, 0, 0], [1, 1, 1, 1, 0, 0], [2, 1, 1, 1, 1, 0], [3, 2, 1, 1, 1, 1], [3, 3, 2, 1, 1, 1], [3, 3, 3, 2, 1, 1], [4, 3, 3, 3, 2, 1], [5, 4, 3, 3, 3, 2]], mon := [[281476050452544, 18014398526263296], [281474976714752, 18014399583485953], [281474976972800, 18014398526259264], [281474993487872, 18014399583227904], [281476050452481, 18014398509744128], [281474976710720, 18014398526259201], [281474976714752, 18014399583223873], [281474976972800, 18014398509486144], [281474993487873, 18014398509748224], [281476050452544, 18014398526521344]], Q := [qS6b_8, qS6b_9, qS6b_10, qS6b_11, qS6b_12, qS6b_13, qS6b_14, qS6b_15], rl := [rS6b_2, rS6b_3, rS6b_4, rS6b_5, rS6b_6, rS6b_7, rS6b_8, rS6b_9], b := [0, 0, 0, 0, 0, 0, 18, 32, 46, 60, 78, 110, 156, 216, 294, 390], w := [[16, 16], [12, 20], [12, 16], [12, 16], [16, 12], [12, 16], [12, 20], [12, 16], [16, 16], [16, 16]] }
theorem okS6b : fS6b.okB = true := by decide +kernel
theorem cS6b_2 : fS6b.chkK 2 = true := by decide +kernel
theorem cS6b_3 : fS6b.chkK 3 = true := by decide +kernel
theorem cS6b_4 : fS6b.chkK 4 = true := by decide +kernel
theorem cS6b_5 : fS6b.chkK 5 = true := by decide +kernel
theorem cS6b_6 : fS6b.chkK 6 = true := by decide +kernel
theorem cS6b_7 : fS6b.chkK 7 = true := by decide +kernel
theorem cS6b_8 : fS6b.chkK 8 = true := by decide +kernel
theorem cS6b_9 : fS6b.chkK 9 = true := by decide +kernel
theorem chS6b : ∀ k, k < fS6b.n + 4 → fS6b.chkK k = true :=
  show ∀ k, k < 10 → fS6b.chkK k = true from ltS (cS6b_9) (ltS (cS6b_8) (ltS (cS6b_7) (ltS (cS6b_6) (ltS (cS6b_5) (ltS (cS6b_4) (ltS (cS6b_3) (ltS (cS6b_2) (ltS (rfl) (ltS (rfl) lt0)))))))))
open Pol in
noncomputable def qS6_9 : Pol := cons (nat_lit 18295873502969857) (.ofNat (nat_lit 1)) (cons (nat_lit 1152925903727104001) (.ofNat (nat_lit 1)) (cons (nat_lit 73786976432277164096) (.ofNat (nat_lit 1)) (nil)))
open Pol in
noncomputable def qS6_10 : Pol := cons (nat_lit 36310273086193729) (.ofNat (nat_lit 1)) (cons (nat_lit 1153203048303296576) (.ofNat (nat_lit 1)) (cons (nat_lit 1170940303310327873) (.ofNat (nat_lit 1)) (cons (nat_lit 73786985090931494912) (.ofNat (nat_lit 1)) (cons (nat_lit 73804990831860387968) (.ofNat (nat_lit 1)) (nil)))))
open Pol in
noncomputable def qS6_11 : Pol := cons (nat_lit 54324740315156545) (.ofNat (nat_lit 1)) (cons (nat_lit 1171217515532259392) (.ofNat (nat_lit 1)) (cons (nat_lit 1171221776173109249) (.ofNat (nat_lit 1)) (cons (nat_lit 1188954770539290689) (.ofNat (nat_lit 1)) (cons (nat_lit 2305851806397243393) (.ofNat (nat_lit 1)) (cons (nat_lit 73787539244808667137) (.ofNat (nat_lit 1)) (cons (nat_lit 73804999558160457728) (.ofNat (nat_lit 1)) (cons (nat_lit 73823005299089350784) (.ofNat (nat_lit 1)) (cons (nat_lit 74939902334947303488) (.ofNat (nat_lit 1)) (nil)))))))))
open Pol in
noncomputable def qS6_12 : Pol := cons (nat_lit 18581746526191617) (.ofNat (nat_lit 1)) (cons (nat_lit 1153211776750325761) (.ofNat (nat_lit 1)) (cons (nat_lit 1189236243369037888) (.ofNat (nat_lit 1)) (cons (nat_lit 1207246244938780801) (.negSucc (nat_lit 0)) (cons (nat_lit 2306405960241381441) (.ofNat (nat_lit 1)) (cons (nat_lit 2324143280796733505) (.negSucc (nat_lit 0)) (cons (nat_lit 2341876275162914945) (.negSucc (nat_lit 0)) (cons (nat_lit 3458773311020867649) (.negSucc (nat_lit 0)) (cons (nat_lit 73823018285997236224) (.ofNat (nat_lit 1)) (cons (nat_lit 73841024026926129280) (.ofNat (nat_lit 1)) (cons (nat_lit 73841300968581369986) (.negSucc (nat_lit 0)) (cons (nat_lit 74957921062784081984) (.ofNat (nat_lit 1)) (cons (nat_lit 74958193743798472833) (.ofNat (nat_lit 1)) (cons (nat_lit 74975930998805504130) (.negSucc (nat_lit 0)) (cons (nat_lit 147592248532989382785) (.ofNat (nat_lit 2)) (cons (nat_lit 148726878563213516929) (.ofNat (nat_lit 2)) (cons (nat_lit 221360929091763577024) (.ofNat (nat_lit 1)) (nil)))))))))))))))))
open Pol in
noncomputable def qS6_13 : Pol := cons (nat_lit 36873221982650370) (.ofNat (nat_lit 1)) (cons (nat_lit 1171503252206784514) (.ofNat (nat_lit 1)) (cons (nat_lit 1171780328063500353) (.ofNat (nat_lit 1)) (cons (nat_lit 2360167750619373698) (.ofNat (nat_lit 1)) (cons (nat_lit 3477060525836476545) (.ofNat (nat_lit 1)) (cons (nat_lit 3477064786477326402) (.ofNat (nat_lit 1)) (cons (nat_lit 3494797780843507842) (.ofNat (nat_lit 1)) (cons (nat_lit 4611694816701460546) (.ofNat (nat_lit 1)) (cons (nat_lit 73823568111620591745) (.ofNat (nat_lit 2)) (cons (nat_lit 73841309761453694977) (.ofNat (nat_lit 1)) (cons (nat_lit 73859315502382588033) (.negSucc (nat_lit 0)) (cons (nat_lit 74940460886837694592) (.ofNat (nat_lit 1)) (cons (nat_lit 74976208277599690880) (.negSucc (nat_lit 0)) (cons (nat_lit 74976212538240540737) (.ofNat (nat_lit 2)) (cons (nat_lit 74994222474261962883) (.ofNat (nat_lit 1)) (cons (nat_lit 76093382255112884290) (.ofNat (nat_lit 1)) (cons (nat_lit 76110842568464674881) (.ofNat (nat_lit 1)) (cons (nat_lit 76111115249479065730) (.ofNat (nat_lit 2)) (cons (nat_lit 76111115315027386497) (.ofNat (nat_lit 2)) (cons (nat_lit 76128848309393567937) (.ofNat (nat_lit 2)) (cons (nat_lit 76128852504486097027) (.ofNat (nat_lit 1)) (cons (nat_lit 77245745345251520641) (.ofNat (nat_lit 2)) (cons (nat_lit 147592248670394785984) (.ofNat (nat_lit 1)) (cons (nat_lit 147610267261883129922) (.ofNat (nat_lit 2)) (cons (nat_lit 147627996061156782272) (.negSucc (nat_lit 0)) (cons (nat_lit 148727160037100232769) (.ofNat (nat_lit 2)) (cons (nat_lit 148744893097014734976) (.ofNat (nat_lit 1)) (cons (nat_lit 148744897292107264066) (.ofNat (nat_lit 2)) (cons (nat_lit 148745170038669975682) (.ofNat (nat_lit 2)) (cons (nat_lit 148762903033036157122) (.ofNat (nat_lit 2)) (cons (nat_lit 149879795873801580736) (.ofNat (nat_lit 1)) (cons (nat_lit 221360942079728431105) (.ofNat (nat_lit 1)) (cons (nat_lit 221378947820657324161) (.ofNat (nat_lit 2)) (nil)))))))))))))))))))))))))))))))))
open Pol in
noncomputable def qS6_14 : Pol := cons (nat_lit 72902020092133443) (.ofNat (nat_lit 1)) (cons (nat_lit 1207532050316267587) (.ofNat (nat_lit 3)) (cons (nat_lit 1207809126172983426) (.ofNat (nat_lit 1)) (cons (nat_lit 2342162080540401731) (.ofNat (nat_lit 3)) (cons (nat_lit 2378186547159113858) (.ofNat (nat_lit 3)) (cons (nat_lit 3476792110764535875) (.ofNat (nat_lit 1)) (cons (nat_lit 3495079322376216705) (.ofNat (nat_lit 1)) (cons (nat_lit 3495083583017066562) (.ofNat (nat_lit 1)) (cons (nat_lit 3495356264031457411) (.ofNat (nat_lit 3)) (cons (nat_lit 3512816577383248002) (.ofNat (nat_lit 2)) (cons (nat_lit 3513089323945959618) (.ofNat (nat_lit 2)) (cons (nat_lit 4612249039248560258) (.ofNat (nat_lit 1)) (cons (nat_lit 4629713613241200706) (.ofNat (nat_lit 1)) (cons (nat_lit 4629986294255591555) (.ofNat (nat_lit 2)) (cons (nat_lit 4647719354170093762) (.ofNat (nat_lit 1)) (cons (nat_lit 73859596909730074818) (.ofNat (nat_lit 3)) (cons (nat_lit 73877338559563178050) (.ofNat (nat_lit 1)) (cons (nat_lit 74958206868161568770) (.ofNat (nat_lit 1)) (cons (nat_lit 74976489684947177665) (.ofNat (nat_lit 2)) (cons (nat_lit 75011968589787312194) (.ofNat (nat_lit 2)) (cons (nat_lit 75012237075709173953) (.ofNat (nat_lit 1)) (cons (nat_lit 75012241336350023810) (.ofNat (nat_lit 5)) (cons (nat_lit 75029974330716205250) (.ofNat (nat_lit 6)) (cons (nat_lit 76092836898385702914) (.ofNat (nat_lit 1)) (cons (nat_lit 76111401051652624450) (.ofNat (nat_lit 1)) (cons (nat_lit 76128861298431901762) (.ofNat (nat_lit 1)) (cons (nat_lit 76128861365004415041) (.ofNat (nat_lit 2)) (cons (nat_lit 76129129850926276800) (.ofNat (nat_lit 1)) (cons (nat_lit 76129134111567126657) (.ofNat (nat_lit 2)) (cons (nat_lit 76129138372207976514) (.ofNat (nat_lit 1)) (cons (nat_lit 76129411053222367363) (.ofNat (nat_lit 3)) (cons (nat_lit 76146867039360794818) (.ofNat (nat_lit 3)) (cons (nat_lit 76146867105933308097) (.ofNat (nat_lit 4)) (cons (nat_lit 76146871366574157954) (.ofNat (nat_lit 9)) (cons (nat_lit 76147144047588548803) (.ofNat (nat_lit 8)) (cons (nat_lit 76147144113136869570) (.ofNat (nat_lit 3)) (cons (nat_lit 76164877107503051010) (.ofNat (nat_lit 6)) (cons (nat_lit 77246031081876758594) (.ofNat (nat_lit 2)) (cons (nat_lit 77263764075218747522) (.ofNat (nat_lit 3)) (cons (nat_lit 77263764141791260801) (.ofNat (nat_lit 3)) (cons (nat_lit 77263768402432110658) (.ofNat (nat_lit 1)) (cons (nat_lit 77264036822805651650) (.ofNat (nat_lit 3)) (cons (nat_lit 77264041083446501507) (.ofNat (nat_lit 3)) (cons (nat_lit 77281769882720153857) (.ofNat (nat_lit 2)) (cons (nat_lit 77281774077812682947) (.ofNat (nat_lit 4)) (cons (nat_lit 77281774143361003714) (.ofNat (nat_lit 6)) (cons (nat_lit 78398671113670635651) (.ofNat (nat_lit 1)) (cons (nat_lit 147628277468504269057) (.ofNat (nat_lit 3)) (cons (nat_lit 147628558804985581698) (.ofNat (nat_lit 3)) (cons (nat_lit 147646019118337372289) (.ofNat (nat_lit 3)) (cons (nat_lit 147646296059992612995) (.ofNat (nat_lit 2)) (cons (nat_lit 148744906086053068801) (.ofNat (nat_lit 1)) (cons (nat_lit 148745170243721371904) (.ofNat (nat_lit 1)) (cons (nat_lit 148745451580202684545) (.ofNat (nat_lit 2)) (cons (nat_lit 148745455840843534402) (.ofNat (nat_lit 2)) (cons (nat_lit 148762911826981961857) (.ofNat (nat_lit 4)) (cons (nat_lit 148762911893554475136) (.ofNat (nat_lit 2)) (cons (nat_lit 148762916154195324993) (.ofNat (nat_lit 2)) (cons (nat_lit 148763188835209715842) (.ofNat (nat_lit 6)) (cons (nat_lit 148780917567910854913) (.ofNat (nat_lit 3)) (cons (nat_lit 148780917634483368192) (.ofNat (nat_lit 1)) (cons (nat_lit 148780921895124218049) (.ofNat (nat_lit 7)) (cons (nat_lit 148780926090216747139) (.ofNat (nat_lit 3)) (cons (nat_lit 148781198836779458755) (.ofNat (nat_lit 9)) (cons (nat_lit 148798931831145640195) (.ofNat (nat_lit 6)) (cons (nat_lit 149879808862839914561) (.ofNat (nat_lit 2)) (cons (nat_lit 149880085871067668546) (.ofNat (nat_lit 2)) (cons (nat_lit 149897814603768807617) (.ofNat (nat_lit 3)) (cons (nat_lit 149897814670341320896) (.ofNat (nat_lit 2)) (cons (nat_lit 149897818865433849986) (.ofNat (nat_lit 4)) (cons (nat_lit 149897818930982170753) (.ofNat (nat_lit 2)) (cons (nat_lit 149898091611996561602) (.ofNat (nat_lit 4)) (cons (nat_lit 149915824606362743042) (.ofNat (nat_lit 5)) (cons (nat_lit 149915824671911063809) (.ofNat (nat_lit 3)) (cons (nat_lit 149915828867003592899) (.ofNat (nat_lit 9)) (cons (nat_lit 151032721642220695746) (.ofNat (nat_lit 2)) (cons (nat_lit 221361773309479092290) (.ofNat (nat_lit 1)) (cons (nat_lit 221378956614603128896) (.ofNat (nat_lit 1)) (cons (nat_lit 221379233622830882881) (.ofNat (nat_lit 2)) (cons (nat_lit 221396958027278463296) (.ofNat (nat_lit 1)) (cons (nat_lit 221396962355532021952) (.ofNat (nat_lit 2)) (cons (nat_lit 221396970877837914178) (.ofNat (nat_lit 1)) (cons (nat_lit 221397239363759775937) (.ofNat (nat_lit 2)) (cons (nat_lit 221414976618766807234) (.ofNat (nat_lit 4)) (cons (nat_lit 222513859391389974656) (.ofNat (nat_lit 1)) (cons (nat_lit 222514136399617728641) (.ofNat (nat_lit 2)) (cons (nat_lit 222531865132318867712) (.ofNat (nat_lit 1)) (cons (nat_lit 222531869393983910081) (.ofNat (nat_lit 2)) (cons (nat_lit 222531873654624759938) (.ofNat (nat_lit 2)) (cons (nat_lit 222549879395553652994) (.ofNat (nat_lit 6)) (cons (nat_lit 223666772170770755841) (.ofNat (nat_lit 1)) (nil)))))))))))))))))))))))))))))))))))))))))))))))))))))))))))))))))))))))))))))))))))))))))))
open Pol in
noncomputable def qS6_15 : Pol := cons (nat_lit 108930818184843395) (.ofNat (nat_lit 1)) (cons (nat_lit 1243560848408977539) (.ofNat (nat_lit 3)) (cons (nat_lit 1243837924265693378) (.ofNat (nat_lit 3)) (cons (nat_lit 2342720629259898946) (.ofNat (nat_lit 1)) (cons (nat_lit 2360730699482796225) (.ofNat (nat_lit 3)) (cons (nat_lit 2378190878633111683) (.ofNat (nat_lit 3)) (cons (nat_lit 2396482350885642370) (.ofNat (nat_lit 2)) (cons (nat_lit 2414215345251823810) (.ofNat (nat_lit 6)) (cons (nat_lit 3477350659484033090) (.ofNat (nat_lit 1)) (cons (nat_lit 3477623474699899072) (.ofNat (nat_lit 1)) (cons (nat_lit 3512820908857245827) (.ofNat (nat_lit 1)) (cons (nat_lit 3513375126102745217) (.ofNat (nat_lit 2)) (cons (nat_lit 3531108120468926657) (.ofNat (nat_lit 3)) (cons (nat_lit 3531112381109776514) (.ofNat (nat_lit 4)) (cons (nat_lit 3531385062124167363) (.ofNat (nat_lit 6)) (cons (nat_lit 3531385127672488130) (.ofNat (nat_lit 2)) (cons (nat_lit 3548845375475957954) (.ofNat (nat_lit 3)) (cons (nat_lit 3549118122038669570) (.ofNat (nat_lit 6)) (cons (nat_lit 4630544842975088770) (.ofNat (nat_lit 1)) (cons (nat_lit 4648005156326879361) (.ofNat (nat_lit 1)) (cons (nat_lit 4648277837341270210) (.ofNat (nat_lit 3)) (cons (nat_lit 4648277902889590977) (.ofNat (nat_lit 2)) (cons (nat_lit 4665742411333910658) (.ofNat (nat_lit 2)) (cons (nat_lit 4666010897255772417) (.ofNat (nat_lit 3)) (cons (nat_lit 4666015092348301507) (.ofNat (nat_lit 3)) (cons (nat_lit 4666015157896622274) (.ofNat (nat_lit 5)) (cons (nat_lit 4683748152262803714) (.ofNat (nat_lit 3)) (cons (nat_lit 5782907933113725121) (.ofNat (nat_lit 2)) (cons (nat_lit 5782912193754574978) (.ofNat (nat_lit 1)) (cons (nat_lit 5800645188120756418) (.ofNat (nat_lit 3)) (cons (nat_lit 6917542223978709122) (.ofNat (nat_lit 1)) (cons (nat_lit 73805843914404401154) (.ofNat (nat_lit 1)) (cons (nat_lit 73859605636030144578) (.ofNat (nat_lit 1)) (cons (nat_lit 73895625707822784770) (.ofNat (nat_lit 3)) (cons (nat_lit 73913367357655888002) (.ofNat (nat_lit 1)) (cons (nat_lit 74940473944628535298) (.ofNat (nat_lit 1)) (cons (nat_lit 74959038097895456834) (.ofNat (nat_lit 1)) (cons (nat_lit 74994235666254278722) (.ofNat (nat_lit 3)) (cons (nat_lit 75012518483039887617) (.ofNat (nat_lit 6)) (cons (nat_lit 75012799819521200258) (.ofNat (nat_lit 2)) (cons (nat_lit 75030260132872990849) (.ofNat (nat_lit 6)) (cons (nat_lit 75047997387880022146) (.ofNat (nat_lit 2)) (cons (nat_lit 75048270134442733762) (.ofNat (nat_lit 3)) (cons (nat_lit 75066003128808915202) (.ofNat (nat_lit 6)) (cons (nat_lit 76093668128119590978) (.ofNat (nat_lit 2)) (cons (nat_lit 76093945203976306817) (.ofNat (nat_lit 1)) (cons (nat_lit 76111405448674943042) (.negSucc (nat_lit 1)) (cons (nat_lit 76128865696478412866) (.ofNat (nat_lit 2)) (cons (nat_lit 76129411258256990464) (.ofNat (nat_lit 3)) (cons (nat_lit 76129692594738303105) (.ofNat (nat_lit 1)) (cons (nat_lit 76147152908090093696) (.ofNat (nat_lit 3)) (cons (nat_lit 76147157168730943553) (.ofNat (nat_lit 4)) (cons (nat_lit 76147429849745334402) (.ofNat (nat_lit 8)) (cons (nat_lit 76164890096524611714) (.ofNat (nat_lit 1)) (cons (nat_lit 76164890163097124993) (.ofNat (nat_lit 6)) (cons (nat_lit 76165162909659836609) (.ofNat (nat_lit 11)) (cons (nat_lit 76165167170300686466) (.negSucc (nat_lit 0)) (cons (nat_lit 76165439851315077315) (.ofNat (nat_lit 6)) (cons (nat_lit 76182895837453504770) (.ofNat (nat_lit 3)) (cons (nat_lit 76182895904026018049) (.ofNat (nat_lit 6)) (cons (nat_lit 76182900164666867906) (.ofNat (nat_lit 7)) (cons (nat_lit 76183172845681258755) (.ofNat (nat_lit 12)) (cons (nat_lit 76183172911229579522) (.ofNat (nat_lit 2)) (cons (nat_lit 76200905905595760962) (.ofNat (nat_lit 6)) (cons (nat_lit 77246035478899077186) (.negSucc (nat_lit 1)) (cons (nat_lit 77264322624962437249) (.ofNat (nat_lit 3)) (cons (nat_lit 77264599632165998722) (.ofNat (nat_lit 1)) (cons (nat_lit 77281787198955077697) (.ofNat (nat_lit 2)) (cons (nat_lit 77282055684876939456) (.ofNat (nat_lit 4)) (cons (nat_lit 77282059879969468546) (.ofNat (nat_lit 6)) (cons (nat_lit 77282059945517789313) (.ofNat (nat_lit 4)) (cons (nat_lit 77282332626532180162) (.ofNat (nat_lit 6)) (cons (nat_lit 77299792873311457474) (.ofNat (nat_lit 3)) (cons (nat_lit 77299792939883970753) (.ofNat (nat_lit 10)) (cons (nat_lit 77299797200524820610) (.negSucc (nat_lit 0)) (cons (nat_lit 77300065620898361602) (.ofNat (nat_lit 9)) (cons (nat_lit 77300065686446682369) (.ofNat (nat_lit 6)) (cons (nat_lit 77300069881539211459) (.ofNat (nat_lit 6)) (cons (nat_lit 77317798680812863809) (.ofNat (nat_lit 6)) (cons (nat_lit 77317802875905392899) (.ofNat (nat_lit 6)) (cons (nat_lit 77317802941453713666) (.ofNat (nat_lit 5)) (cons (nat_lit 78399225401749283009) (.ofNat (nat_lit 1)) (cons (nat_lit 78416689975741923457) (.ofNat (nat_lit 3)) (cons (nat_lit 78416958461663785216) (.ofNat (nat_lit 2)) (cons (nat_lit 78416962656756314306) (.ofNat (nat_lit 3)) (cons (nat_lit 78416962722304635073) (.ofNat (nat_lit 2)) (cons (nat_lit 78416966982945484930) (.ofNat (nat_lit 1)) (cons (nat_lit 78434695716670816513) (.ofNat (nat_lit 6)) (cons (nat_lit 78434699911763345603) (.ofNat (nat_lit 3)) (cons (nat_lit 79551592752528769217) (.ofNat (nat_lit 2)) (cons (nat_lit 79551597013169619074) (.ofNat (nat_lit 1)) (cons (nat_lit 147610280453875445761) (.ofNat (nat_lit 2)) (cons (nat_lit 147628563136459579523) (.negSucc (nat_lit 1)) (cons (nat_lit 147664042175501189185) (.ofNat (nat_lit 1)) (cons (nat_lit 147664306266596979009) (.ofNat (nat_lit 3)) (cons (nat_lit 147664587603078291650) (.ofNat (nat_lit 3)) (cons (nat_lit 147682047916430082241) (.ofNat (nat_lit 6)) (cons (nat_lit 147682324858085322947) (.ofNat (nat_lit 2)) (cons (nat_lit 148744910484099579905) (.ofNat (nat_lit 1)) (cons (nat_lit 148745732987533398209) (.ofNat (nat_lit 1)) (cons (nat_lit 148763193166683713667) (.negSucc (nat_lit 1)) (cons (nat_lit 148763474637366501441) (.ofNat (nat_lit 4)) (cons (nat_lit 148780934884145778753) (.ofNat (nat_lit 2)) (cons (nat_lit 148780934950718292032) (.ofNat (nat_lit 3)) (cons (nat_lit 148781199041814081856) (.ofNat (nat_lit 3)) (cons (nat_lit 148781480378295394497) (.ofNat (nat_lit 3)) (cons (nat_lit 148781484638936244354) (.ofNat (nat_lit 4)) (cons (nat_lit 148798940625074671809) (.ofNat (nat_lit 6)) (cons (nat_lit 148798940691647185088) (.ofNat (nat_lit 6)) (cons (nat_lit 148798944952288034945) (.ofNat (nat_lit 6)) (cons (nat_lit 148799217633302425794) (.ofNat (nat_lit 16)) (cons (nat_lit 148799494640505987267) (.negSucc (nat_lit 1)) (cons (nat_lit 148816946366003564865) (.ofNat (nat_lit 3)) (cons (nat_lit 148816950693216928001) (.ofNat (nat_lit 9)) (cons (nat_lit 148816954888309457091) (.ofNat (nat_lit 3)) (cons (nat_lit 148817227634872168707) (.ofNat (nat_lit 9)) (cons (nat_lit 148834960629238350147) (.ofNat (nat_lit 6)) (cons (nat_lit 149898104667590635585) (.ofNat (nat_lit 3)) (cons (nat_lit 149898377414153347201) (.ofNat (nat_lit 4)) (cons (nat_lit 149915837660932624513) (.ofNat (nat_lit 4)) (cons (nat_lit 149915837727505137792) (.ofNat (nat_lit 5)) (cons (nat_lit 149916110408519528641) (.ofNat (nat_lit 9)) (cons (nat_lit 149916114669160378498) (.ofNat (nat_lit 10)) (cons (nat_lit 149916387415723090114) (.ofNat (nat_lit 2)) (cons (nat_lit 149933843401861517569) (.ofNat (nat_lit 3)) (cons (nat_lit 149933843468434030848) (.ofNat (nat_lit 8)) (cons (nat_lit 149933847663526559938) (.ofNat (nat_lit 12)) (cons (nat_lit 149933847729074880705) (.ofNat (nat_lit 4)) (cons (nat_lit 149934120410089271554) (.ofNat (nat_lit 12)) (cons (nat_lit 149934124670730121411) (.negSucc (nat_lit 1)) (cons (nat_lit 149951853404455452994) (.ofNat (nat_lit 9)) (cons (nat_lit 149951853470003773761) (.ofNat (nat_lit 3)) (cons (nat_lit 149951857665096302851) (.ofNat (nat_lit 9)) (cons (nat_lit 151033007444377481345) (.ofNat (nat_lit 2)) (cons (nat_lit 151033280190940192961) (.ofNat (nat_lit 2)) (cons (nat_lit 151050740504291983552) (.ofNat (nat_lit 3)) (cons (nat_lit 151050744699384512642) (.ofNat (nat_lit 4)) (cons (nat_lit 151051013185306374401) (.ofNat (nat_lit 3)) (cons (nat_lit 151051017445947224258) (.ofNat (nat_lit 2)) (cons (nat_lit 151068746245220876608) (.ofNat (nat_lit 3)) (cons (nat_lit 151068750440313405698) (.ofNat (nat_lit 6)) (cons (nat_lit 152185643281078829312) (.ofNat (nat_lit 1)) (cons (nat_lit 221396979671766945792) (.ofNat (nat_lit 1)) (cons (nat_lit 221397802107571802242) (.ofNat (nat_lit 1)) (cons (nat_lit 221414985412695838848) (.ofNat (nat_lit 3)) (cons (nat_lit 221415262420923592833) (.ofNat (nat_lit 4)) (cons (nat_lit 221432986825371173248) (.ofNat (nat_lit 1)) (cons (nat_lit 221432991153624731904) (.ofNat (nat_lit 3)) (cons (nat_lit 221432999675930624130) (.ofNat (nat_lit 1)) (cons (nat_lit 221433268161852485889) (.ofNat (nat_lit 2)) (cons (nat_lit 221433272422493335746) (.ofNat (nat_lit 6)) (cons (nat_lit 221451005416859517186) (.ofNat (nat_lit 6)) (cons (nat_lit 221451282358514757892) (.ofNat (nat_lit 1)) (cons (nat_lit 222531882448553791552) (.ofNat (nat_lit 1)) (cons (nat_lit 222532159456781545537) (.ofNat (nat_lit 2)) (cons (nat_lit 222532432137795936386) (.ofNat (nat_lit 2)) (cons (nat_lit 222549888189482684608) (.ofNat (nat_lit 2)) (cons (nat_lit 222549892451147726977) (.ofNat (nat_lit 6)) (cons (nat_lit 222550165197710438593) (.ofNat (nat_lit 6)) (cons (nat_lit 222550169458351288450) (.ofNat (nat_lit 4)) (cons (nat_lit 222550442139365679299) (.ofNat (nat_lit 4)) (cons (nat_lit 222567893930411577664) (.ofNat (nat_lit 1)) (cons (nat_lit 222567898192076620033) (.ofNat (nat_lit 9)) (cons (nat_lit 222567902452717469890) (.ofNat (nat_lit 10)) (cons (nat_lit 222585908193646362946) (.ofNat (nat_lit 6)) (cons (nat_lit 222585912388738892036) (.ofNat (nat_lit 1)) (cons (nat_lit 223666789487005679681) (.ofNat (nat_lit 1)) (cons (nat_lit 223667334914582782146) (.ofNat (nat_lit 2)) (cons (nat_lit 223684795227934572737) (.ofNat (nat_lit 4)) (cons (nat_lit 223684799488575422594) (.ofNat (nat_lit 4)) (cons (nat_lit 223685067974497284353) (.ofNat (nat_lit 1)) (cons (nat_lit 223685072169589813443) (.ofNat (nat_lit 4)) (cons (nat_lit 223702800968863465793) (.ofNat (nat_lit 3)) (cons (nat_lit 295166486926986846338) (.ofNat (nat_lit 2)) (cons (nat_lit 295183947240338636929) (.ofNat (nat_lit 2)) (cons (nat_lit 295184496928556589251) (.ofNat (nat_lit 3)) (cons (nat_lit 295201952981267529985) (.ofNat (nat_lit 3)) (cons (nat_lit 296301116957210980482) (.ofNat (nat_lit 2)) (cons (nat_lit 296318850017125482689) (.ofNat (nat_lit 2)) (cons (nat_lit 296319122698139873538) (.ofNat (nat_lit 2)) (cons (nat_lit 296319126958780723395) (.ofNat (nat_lit 6)) (cons (nat_lit 297453756989004857539) (.ofNat (nat_lit 3)) (cons (nat_lit 368953177487330783490) (.ofNat (nat_lit 3)) (cons (nat_lit 370087807517554917634) (.ofNat (nat_lit 3)) (cons (nat_lit 442721858046104977729) (.ofNat (nat_lit 1)) (nil)))))))))))))))))))))))))))))))))))))))))))))))))))))))))))))))))))))))))))))))))))))))))))))))))))))))))))))))))))))))))))))))))))))))))))))))))))))))))))))))))))))))))))))))))))))))))
noncomputable def rS6_3 : List Rl := [⟨nat_lit 281474976710656, [nat_lit 18018796556255232, nat_lit 1152921573343100992, nat_lit 73786976296985690177], fun m => Nat.blt 1 (Nat.add (Nat.mod (Nat.div m (nat_lit 4096)) 64) (Nat.mod (Nat.div m (nat_lit 281474976710656)) 64))⟩, ⟨nat_lit 4398046511104, [nat_lit 18014467228962816, nat_lit 1152921505680850945, nat_lit 73786976294871760897], fun m => Nat.blt 1 (Nat.add (Nat.add (Nat.mod (Nat.div m (nat_lit 64)) 64) (Nat.mod (Nat.div m (nat_lit 4398046511104)) 64)) (Nat.mod (Nat.div m (nat_lit 281474976710656)) 64))⟩, ⟨nat_lit 68719476736, [nat_lit 18014399583223872, nat_lit 1152921504623628288, nat_lit 73786976294838730752], fun m => Nat.blt 2 (Nat.add (Nat.add (Nat.add (Nat.mod m 64) (Nat.mod (Nat.div m (nat_lit 68719476736)) 64)) (Nat.mod (Nat.div m (nat_lit 4398046511104)) 64)) (Nat.mod (Nat.div m (nat_lit 281474976710656)) 64))⟩]
noncomputable def rS6_4 : List Rl := [⟨nat_lit 281474976710656, [nat_lit 18018796556255232, nat_lit 1152921573343100992, nat_lit 73786976296985690177], fun m => Nat.blt 1 (Nat.add (Nat.mod (Nat.div m (nat_lit 4096)) 64) (Nat.mod (Nat.div m (nat_lit 281474976710656)) 64))⟩, ⟨nat_lit 4398046511104, [nat_lit 18014467228962816, nat_lit 1152921505680850945, nat_lit 73786976294871760897], fun m => Nat.blt 2 (Nat.add (Nat.add (Nat.mod (Nat.div m (nat_lit 64)) 64) (Nat.mod (Nat.div m (nat_lit 4398046511104)) 64)) (Nat.mod (Nat.div m (nat_lit 281474976710656)) 64))⟩, ⟨nat_lit 68719476736, [nat_lit 18014399583223872, nat_lit 1152921504623628288, nat_lit 73786976294838730752], fun m => Nat.blt 2 (Nat.add (Nat.add (Nat.add (Nat.mod m 64) (Nat.mod (Nat.div m (nat_lit 68719476736)) 64)) (Nat.mod (Nat.div m (nat_lit 4398046511104)) 64)) (Nat.mod (Nat.div m (nat_lit 281474976710656)) 64))⟩]
noncomputable def rS6_5 : List Rl := [⟨nat_lit 281474976710656, [nat_lit 18018796556255232, nat_lit 1152921573343100992, nat_lit 73786976296985690177], fun m => Nat.blt 2 (Nat.add (Nat.mod (Nat.div m (nat_lit 4096)) 64) (Nat.mod (Nat.div m (nat_lit 281474976710656)) 64))⟩, ⟨nat_lit 4398046511104, [nat_lit 18014467228962816, nat_lit 1152921505680850945, nat_lit 73786976294871760897], fun m => Nat.blt 2 (Nat.add (Nat.add (Nat.mod (Nat.div m (nat_lit 64)) 64) (Nat.mod (Nat.div m (nat_lit 4398046511104)) 64)) (Nat.mod (Nat.div m (nat_lit 281474976710656)) 64))⟩, ⟨nat_lit 68719476736, [nat_lit 18014399583223872, nat_lit 1152921504623628288, nat_lit 73786976294838730752], fun m => Nat.blt 3 (Nat.add (Nat.add (Nat.add (Nat.mod m 64) (Nat.mod (Nat.div m (nat_lit 68719476736)) 64)) (Nat.mod (Nat.div m (nat_lit 4398046511104)) 64)) (Nat.mod (Nat.div m (nat_lit 281474976710656)) 64))⟩]
noncomputable def rS6_6 : List Rl := [⟨nat_lit 281474976710656, [nat_lit 18018796556255232, nat_lit 1152921573343100992, nat_lit 73786976296985690177], fun m => Nat.blt 2 (Nat.add (Nat.mod (Nat.div m (nat_lit 4096)) 64) (Nat.mod (Nat.div m (nat_lit 281474976710656)) 64))⟩, ⟨nat_lit 4398046511104, [nat_lit 18014467228962816, nat_lit 1152921505680850945, nat_lit 73786976294871760897], fun m => Nat.blt 3 (Nat.add (Nat.add (Nat.mod (Nat.div m (nat_lit 64)) 64) (Nat.mod (Nat.div m (nat_lit 4398046511104)) 64)) (Nat.mod (Nat.div m (nat_lit 281474976710656)) 64))⟩, ⟨nat_lit 68719476736, [nat_lit 18014399583223872, nat_lit 1152921504623628288, nat_lit 73786976294838730752], fun m => Nat.blt 4 (Nat.add (Nat.add (Nat.add (Nat.mod m 64) (Nat.mod (Nat.div m (nat_lit 68719476736)) 64)) (Nat.mod (Nat.div m (nat_lit 4398046511104)) 64)) (Nat.mod (Nat.div m (nat_lit 281474976710656)) 64))⟩]
noncomputable def rS6_7 : List Rl := [⟨nat_lit 281474976710656, [nat_lit 18018796556255232, nat_lit 1152921573343100992, nat_lit 73786976296985690177], fun m => Nat.blt 3 (Nat.add (Nat.mod (Nat.div m (nat_lit 4096)) 64) (Nat.mod (Nat.div m (nat_lit 281474976710656)) 64))⟩, ⟨nat_lit 4398046511104, [nat_lit 18014467228962816, nat_lit 1152921505680850945, nat_lit 73786976294871760897], fun m => Nat.blt 4 (Nat.add (Nat.add (Nat.mod (Nat.div m (nat_lit 64)) 64) (Nat.mod (Nat.div m (nat_lit 4398046511104)) 64)) (Nat.mod (Nat.div m (nat_lit 281474976710656)) 64))⟩, ⟨nat_lit 68719476736, [nat_lit 18014399583223872, nat_lit 1152921504623628288, nat_lit 73786976294838730752], fun m => Nat.blt 5 (Nat.add (Nat.add (Nat.add (Nat.mod m 64) (Nat.mod (Nat.div m (nat_lit 68719476736)) 64)) (Nat.mod (Nat.div m (nat_lit 4398046511104)) 64)) (Nat.mod (Nat.div m (nat_lit 281474976710656)) 64))⟩]
noncomputable def rS6_8 : List Rl := [⟨nat_lit 281474976710656, [nat_lit 18018796556255232, nat_lit 1152921573343100992, nat_lit 73786976296985690177], fun m => Nat.blt 4 (Nat.add (Nat.mod (Nat.div m (nat_lit 4096)) 64) (Nat.mod (Nat.div m (nat_lit 281474976710656)) 64))⟩, ⟨nat_lit 4398046511104, [nat_lit 18014467228962816, nat_lit 1152921505680850945, nat_lit 73786976294871760897], fun m => Nat.blt 5 (Nat.add (Nat.add (Nat.mod (Nat.div m (nat_lit 64)) 64) (Nat.mod (Nat.div m (nat_lit 4398046511104)) 64)) (Nat.mod (Nat.div m (nat_lit 281474976710656)) 64))⟩, ⟨nat_lit 68719476736, [nat_lit 18014399583223872, nat_lit 1152921504623628288, nat_lit 73786976294838730752], fun m => Nat.blt 6 (Nat.add (Nat.add (Nat.add (Nat.mod m 64) (Nat.mod (Nat.div m (nat_lit 68719476736)) 64)) (Nat.mod (Nat.div m (nat_lit 4398046511104)) 64)) (Nat.mod (Nat.div m (nat_lit 281474976710656)) 64))⟩]
noncomputable def rS6_9 : List Rl := [⟨nat_lit 281474976710656, [nat_lit 18018796556255232, nat_lit 1152921573343100992, nat_lit 73786976296985690177], fun m => Nat.blt 5 (Nat.add (Nat.mod (Nat.div m (nat_lit 4096)) 64) (Nat.mod (Nat.div m (nat_lit 281474976710656)) 64))⟩, ⟨nat_lit 4398046511104, [nat_lit 18014467228962816, nat_lit 1152921505680850945, nat_lit 73786976294871760897], fun m => Nat.blt 6 (Nat.add (Nat.add (Nat.mod (Nat.div m (nat_lit 64)) 64) (Nat.mod (Nat.div m (nat_lit 4398046511104)) 64)) (Nat.mod (Nat.div m (nat_lit 281474976710656)) 64))⟩, ⟨nat_lit 68719476736, [nat_lit 18014399583223872, nat_lit 1152921504623628288, nat_lit 73786976294838730752], fun m => Nat.blt 7 (Nat.add (Nat.add (Nat.add (Nat.mod m 64) (Nat.mod (Nat.div m (nat_lit 68719476736)) 64)) (Nat.mod (Nat.div m (nat_lit 4398046511104)) 64)) (Nat.mod (Nat.div m (nat_lit 281474976710656)) 64))⟩]
noncomputable def fS6 : Fam := { n := 6, j := 3, ps := [1, 2, 3], D := [[-1, 0, 0, 0, 0, 0], [0, -1, 0, 0, 0, 0], [0, 0, -1, 0, 0, 0], [0, 0, 0, -1, 0, 0], [0, 0, 0, 0, -1, 0], [0, 0, 0, 0, 0, -1], [1, 0, 0, 0, 0, 0], [1, 1, 0, 0, 0, 0], [1, 1, 1, 0, 0, 0], [2, 1, 1, 1, 0, 0], [2, 2, 1, 1, 1, 0], [3, 2, 2, 1, 1, 1], [3, 3, 2, 2, 1, 1], [4, 3, 3, 2, 2, 1], [5, 4, 3, 3, 2, 2], [5, 5, 4, 3, 3, 2]], mon := [[18014399583223872, 1152921504623628288, 73786976294838730752], [18014398509486080, 1152921505680850945, 73786976294871760897], [18014398509744128, 1152921504623624256, 73786976296985690177], [18014398526259201, 1152921505680592897, 73786976294838210624], [18014399583223872, 1152921504607109184, 73786976294838472704], [18014398509486080, 1152921504623628288, 73786976294855245825], [18014398509744128, 1152921505680850945, 73786976295928725568], [18014398526259201, 1152921504623624256, 73786976295911952385], [18014399583223872, 1152921505680592897, 73786976294838468672], [18014398509486080, 1152921504607109184, 73786976294854987777]], Q := [qS6_9, qS6_10, qS6_11, qS6_12, qS6_13, qS6_14, qS6_15], rl := [rS6_3, rS6_4, rS6_5, rS6_6, rS6_7, rS6_8, rS6_9], b := [0, 0, 0, 0, 0, 0, 18, 32, 46, 64, 82, 114, 160, 224, 306, 402], w := [[16, 16, 16], [12, 20, 20], [12, 16, 24], [16, 20, 16], [16, 16, 16], [12, 16, 20], [12, 20, 20], [16, 16, 20], [16, 20, 16], [12, 16, 20]] }
theorem okS6 : fS6.okB = true := by decide +kernel
theorem cS6_3 : fS6.chkK 3 = true := by decide +kernel
theorem cS6_4 : fS6.chkK 4 = true := by decide +kernel
theorem cS6_5 : fS6.chkK 5 = true := by decide +kernel
theorem cS6_6 : fS6.chkK 6 = true := by decide +kernel
theorem cS6_7 : fS6.chkK 7 = true := by decide +kernel
theorem cS6_8 : fS6.chkK 8 = true := by decide +kernel
theorem cS6_9 : fS6.chkK 9 = true := by decide +kernel
theorem chS6 : ∀ k, k < fS6.n + 4 → fS6.chkK k = true :=
  show ∀ k, k < 10 → fS6.chkK k = true from ltS (cS6_9) (ltS (cS6_8) (ltS (cS6_7) (ltS (cS6_6) (ltS (cS6_5) (ltS (cS6_4) (ltS (cS6_3) (ltS (rfl) (ltS (rfl) (ltS (rfl) lt0)))))))))
open Pol in
noncomputable def qS7b_10 : Pol := cons (nat_lit 1170935903133106176) (.ofNat (nat_lit 1)) (cons (nat_lit 73786980761604198464) (.ofNat (nat_lit 1)) (nil))
open Pol in
noncomputable def qS7b_11 : Pol := cons (nat_lit 2323857408813694977) (.ofNat (nat_lit 1)) (cons (nat_lit 73787262167861694464) (.ofNat (nat_lit 1)) (cons (nat_lit 74939902267284787265) (.ofNat (nat_lit 1)) (nil)))
open Pol in
noncomputable def qS7b_12 : Pol := cons (nat_lit 3476778982140018753) (.ofNat (nat_lit 1)) (cons (nat_lit 73805272168341438464) (.ofNat (nat_lit 1)) (cons (nat_lit 74940183741188018240) (.ofNat (nat_lit 1)) (cons (nat_lit 76092823840611111041) (.ofNat (nat_lit 1)) (nil))))
open Pol in
noncomputable def qS7b_13 : Pol := cons (nat_lit 4629704884793380929) (.ofNat (nat_lit 1)) (cons (nat_lit 74958198070994800640) (.ofNat (nat_lit 1)) (cons (nat_lit 74975926597571313665) (.ofNat (nat_lit 1)) (cons (nat_lit 76093109643841380416) (.ofNat (nat_lit 1)) (cons (nat_lit 77245749743264473217) (.ofNat (nat_lit 1)) (cons (nat_lit 147591971456042405953) (.ofNat (nat_lit 1)) (nil))))))
open Pol in
noncomputable def qS7b_14 : Pol := cons (nat_lit 2342153282299887617) (.ofNat (nat_lit 1)) (cons (nat_lit 76111396652532109312) (.ofNat (nat_lit 1)) (cons (nat_lit 77246308225378689088) (.ofNat (nat_lit 1)) (cons (nat_lit 78398948324801781889) (.ofNat (nat_lit 1)) (cons (nat_lit 78416676851378294914) (.negSucc (nat_lit 0)) (cons (nat_lit 148745170037579714625) (.ofNat (nat_lit 2)) (cons (nat_lit 149897810137002807426) (.ofNat (nat_lit 2)) (cons (nat_lit 221361214896050806913) (.ofNat (nat_lit 1)) (cons (nat_lit 222513854995473899714) (.ofNat (nat_lit 1)) (nil)))))))))
open Pol in
noncomputable def qS7b_15 : Pol := cons (nat_lit 3512807710456283137) (.ofNat (nat_lit 1)) (cons (nat_lit 77281769744207188097) (.ofNat (nat_lit 2)) (cons (nat_lit 77282051080688504832) (.ofNat (nat_lit 1)) (cons (nat_lit 78416962653535084608) (.ofNat (nat_lit 1)) (cons (nat_lit 79569602752958177409) (.negSucc (nat_lit 0)) (cons (nat_lit 149897814602678280385) (.ofNat (nat_lit 1)) (cons (nat_lit 149915824465736110145) (.ofNat (nat_lit 3)) (cons (nat_lit 151050736038582689921) (.ofNat (nat_lit 2)) (cons (nat_lit 152185647611429269697) (.negSucc (nat_lit 0)) (cons (nat_lit 221379229224784109632) (.ofNat (nat_lit 1)) (cons (nat_lit 222514140797630689408) (.ofNat (nat_lit 1)) (cons (nat_lit 222531869324207202433) (.ofNat (nat_lit 2)) (cons (nat_lit 223666780897053782209) (.ofNat (nat_lit 2)) (nil)))))))))))))
open Pol in
noncomputable def qS7b_16 : Pol := cons (nat_lit 5818650720760496130) (.ofNat (nat_lit 1)) (cons (nat_lit 79587612754511401090) (.ofNat (nat_lit 3)) (cons (nat_lit 79587894090992717825) (.ofNat (nat_lit 1)) (cons (nat_lit 80722805663839297601) (.ofNat (nat_lit 1)) (cons (nat_lit 152203657612982493378) (.ofNat (nat_lit 3)) (cons (nat_lit 152203938949463810113) (.ofNat (nat_lit 3)) (cons (nat_lit 152221667476040323138) (.ofNat (nat_lit 5)) (cons (nat_lit 153338850522310389889) (.ofNat (nat_lit 3)) (cons (nat_lit 153356579048886902914) (.ofNat (nat_lit 2)) (cons (nat_lit 222532432135665229824) (.ofNat (nat_lit 1)) (cons (nat_lit 222550160662241742849) (.ofNat (nat_lit 1)) (cons (nat_lit 223667066700284051584) (.ofNat (nat_lit 1)) (cons (nat_lit 223667343708511809600) (.ofNat (nat_lit 2)) (cons (nat_lit 223685072235088322625) (.ofNat (nat_lit 2)) (cons (nat_lit 224819702471453585666) (.ofNat (nat_lit 1)) (cons (nat_lit 224819706799707144385) (.ofNat (nat_lit 2)) (cons (nat_lit 224819983807934902401) (.ofNat (nat_lit 3)) (cons (nat_lit 224837712334511415426) (.ofNat (nat_lit 7)) (cons (nat_lit 225972623907357995202) (.ofNat (nat_lit 4)) (cons (nat_lit 295166205520712835137) (.ofNat (nat_lit 1)) (cons (nat_lit 296301117093559414913) (.ofNat (nat_lit 2)) (cons (nat_lit 297453757192982507714) (.ofNat (nat_lit 3)) (nil))))))))))))))))))))))
open Pol in
noncomputable def qS7b_17 : Pol := cons (nat_lit 8124493799767408707) (.ofNat (nat_lit 1)) (cons (nat_lit 81893455833518313667) (.ofNat (nat_lit 3)) (cons (nat_lit 81893737169999630402) (.ofNat (nat_lit 1)) (cons (nat_lit 83028648742846210178) (.ofNat (nat_lit 3)) (cons (nat_lit 149934120271593340930) (.ofNat (nat_lit 1)) (cons (nat_lit 153357141929047629889) (.ofNat (nat_lit 3)) (cons (nat_lit 153374870455624142914) (.ofNat (nat_lit 2)) (cons (nat_lit 154492053501894209665) (.ofNat (nat_lit 3)) (cons (nat_lit 154509500691989405955) (.ofNat (nat_lit 3)) (cons (nat_lit 154509782028470722690) (.ofNat (nat_lit 3)) (cons (nat_lit 154527510555047235715) (.ofNat (nat_lit 7)) (cons (nat_lit 155644693601317302466) (.ofNat (nat_lit 6)) (cons (nat_lit 155662422127893815491) (.ofNat (nat_lit 3)) (cons (nat_lit 223685635115249049600) (.ofNat (nat_lit 1)) (cons (nat_lit 223703363641825562625) (.ofNat (nat_lit 2)) (cons (nat_lit 224820269679867871360) (.ofNat (nat_lit 1)) (cons (nat_lit 224820546688095629376) (.ofNat (nat_lit 2)) (cons (nat_lit 224838275214672142401) (.ofNat (nat_lit 3)) (cons (nat_lit 224856003741248655426) (.ofNat (nat_lit 2)) (cons (nat_lit 225972909779290964161) (.ofNat (nat_lit 3)) (cons (nat_lit 225973186787518722177) (.ofNat (nat_lit 4)) (cons (nat_lit 225990915314095235202) (.ofNat (nat_lit 10)) (cons (nat_lit 226008643840671748227) (.negSucc (nat_lit 0)) (cons (nat_lit 227125545550460498243) (.ofNat (nat_lit 1)) (cons (nat_lit 227125549878714056962) (.ofNat (nat_lit 3)) (cons (nat_lit 227125826886941814978) (.ofNat (nat_lit 5)) (cons (nat_lit 227143555413518328003) (.ofNat (nat_lit 11)) (cons (nat_lit 228278466986364907779) (.ofNat (nat_lit 6)) (cons (nat_lit 296319408500296654913) (.ofNat (nat_lit 2)) (cons (nat_lit 296337137026873167938) (.ofNat (nat_lit 2)) (cons (nat_lit 297454320073143234689) (.ofNat (nat_lit 3)) (cons (nat_lit 297472048599719747714) (.ofNat (nat_lit 2)) (cons (nat_lit 297489777126296260739) (.ofNat (nat_lit 2)) (cons (nat_lit 298606960172566327490) (.ofNat (nat_lit 7)) (cons (nat_lit 299759600271989420291) (.ofNat (nat_lit 5)) (cons (nat_lit 368953181885344260226) (.ofNat (nat_lit 1)) (cons (nat_lit 370105821984767353027) (.ofNat (nat_lit 1)) (nil)))))))))))))))))))))))))))))))))))))
noncomputable def rS7b_3 : List Rl := [⟨nat_lit 18014398509481984, [nat_lit 1153202979583819776, nat_lit 73786976364631425089], fun m => Nat.blt 1 (Nat.add (Nat.mod (Nat.div m (nat_lit 4096)) 64) (Nat.mod (Nat.div m (nat_lit 18014398509481984)) 64))⟩, ⟨nat_lit 281474976710656, [nat_lit 1152925902653362176, nat_lit 73786976295928725505], fun m => Nat.blt 1 (Nat.add (Nat.add (Nat.mod (Nat.div m (nat_lit 64)) 64) (Nat.mod (Nat.div m (nat_lit 281474976710656)) 64)) (Nat.mod (Nat.div m (nat_lit 18014398509481984)) 64))⟩, ⟨nat_lit 4398046511104, [nat_lit 1152921573326323776, nat_lit 73786976294855245824], fun m => Nat.blt 1 (Nat.add (Nat.add (Nat.add (Nat.mod m 64) (Nat.mod (Nat.div m (nat_lit 4398046511104)) 64)) (Nat.mod (Nat.div m (nat_lit 281474976710656)) 64)) (Nat.mod (Nat.div m (nat_lit 18014398509481984)) 64))⟩]
noncomputable def rS7b_4 : List Rl := [⟨nat_lit 18014398509481984, [nat_lit 1153202979583819776, nat_lit 73786976364631425089], fun m => Nat.blt 1 (Nat.add (Nat.mod (Nat.div m (nat_lit 4096)) 64) (Nat.mod (Nat.div m (nat_lit 18014398509481984)) 64))⟩, ⟨nat_lit 281474976710656, [nat_lit 1152925902653362176, nat_lit 73786976295928725505], fun m => Nat.blt 1 (Nat.add (Nat.add (Nat.mod (Nat.div m (nat_lit 64)) 64) (Nat.mod (Nat.div m (nat_lit 281474976710656)) 64)) (Nat.mod (Nat.div m (nat_lit 18014398509481984)) 64))⟩, ⟨nat_lit 4398046511104, [nat_lit 1152921573326323776, nat_lit 73786976294855245824], fun m => Nat.blt 2 (Nat.add (Nat.add (Nat.add (Nat.mod m 64) (Nat.mod (Nat.div m (nat_lit 4398046511104)) 64)) (Nat.mod (Nat.div m (nat_lit 281474976710656)) 64)) (Nat.mod (Nat.div m (nat_lit 18014398509481984)) 64))⟩]
noncomputable def rS7b_5 : List Rl := [⟨nat_lit 18014398509481984, [nat_lit 1153202979583819776, nat_lit 73786976364631425089], fun m => Nat.blt 1 (Nat.add (Nat.mod (Nat.div m (nat_lit 4096)) 64) (Nat.mod (Nat.div m (nat_lit 18014398509481984)) 64))⟩, ⟨nat_lit 281474976710656, [nat_lit 1152925902653362176, nat_lit 73786976295928725505], fun m => Nat.blt 2 (Nat.add (Nat.add (Nat.mod (Nat.div m (nat_lit 64)) 64) (Nat.mod (Nat.div m (nat_lit 281474976710656)) 64)) (Nat.mod (Nat.div m (nat_lit 18014398509481984)) 64))⟩, ⟨nat_lit 4398046511104, [nat_lit 1152921573326323776, nat_lit 73786976294855245824], fun m => Nat.blt 2 (Nat.add (Nat.add (Nat.add (Nat.mod m 64) (Nat.mod (Nat.div m (nat_lit 4398046511104)) 64)) (Nat.mod (Nat.div m (nat_lit 281474976710656)) 64)) (Nat.mod (Nat.div m (nat_lit 18014398509481984)) 64))⟩]
noncomputable def rS7b_6 : List Rl := [⟨nat_lit 18014398509481984, [nat_lit 1153202979583819776, nat_lit 73786976364631425089], fun m => Nat.blt 2 (Nat.add (Nat.mod (Nat.div m (nat_lit 4096)) 64) (Nat.mod (Nat.div m (nat_lit 18014398509481984)) 64))⟩, ⟨nat_lit 281474976710656, [nat_lit 1152925902653362176, nat_lit 73786976295928725505], fun m => Nat.blt 2 (Nat.add (Nat.add (Nat.mod (Nat.div m (nat_lit 64)) 64) (Nat.mod (Nat.div m (nat_lit 281474976710656)) 64)) (Nat.mod (Nat.div m (nat_lit 18014398509481984)) 64))⟩, ⟨nat_lit 4398046511104, [nat_lit 1152921573326323776, nat_lit 73786976294855245824], fun m => Nat.blt 3 (Nat.add (Nat.add (Nat.add (Nat.mod m 64) (Nat.mod (Nat.div m (nat_lit 4398046511104)) 64)) (Nat.mod (Nat.div m (nat_lit 281474976710656)) 64)) (Nat.mod (Nat.div m (nat_lit 18014398509481984)) 64))⟩]
noncomputable def rS7b_7 : List Rl := [⟨nat_lit 18014398509481984, [nat_lit 1153202979583819776, nat_lit 73786976364631425089], fun m => Nat.blt 2 (Nat.add (Nat.mod (Nat.div m (nat_lit 4096)) 64) (Nat.mod (Nat.div m (nat_lit 18014398509481984)) 64))⟩, ⟨nat_lit 281474976710656, [nat_lit 1152925902653362176, nat_lit 73786976295928725505], fun m => Nat.blt 3 (Nat.add (Nat.add (Nat.mod (Nat.div m (nat_lit 64)) 64) (Nat.mod (Nat.div m (nat_lit 281474976710656)) 64)) (Nat.mod (Nat.div m (nat_lit 18014398509481984)) 64))⟩, ⟨nat_lit 4398046511104, [nat_lit 1152921573326323776, nat_lit 73786976294855245824], fun m => Nat.blt 4 (Nat.add (Nat.add (Nat.add (Nat.mod m 64) (Nat.mod (Nat.div m (nat_lit 4398046511104)) 64)) (Nat.mod (Nat.div m (nat_lit 281474976710656)) 64)) (Nat.mod (Nat.div m (nat_lit 18014398509481984)) 64))⟩]
noncomputable def rS7b_8 : List Rl := [⟨nat_lit 18014398509481984, [nat_lit 1153202979583819776, nat_lit 73786976364631425089], fun m => Nat.blt 3 (Nat.add (Nat.mod (Nat.div m (nat_lit 4096)) 64) (Nat.mod (Nat.div m (nat_lit 18014398509481984)) 64))⟩, ⟨nat_lit 281474976710656, [nat_lit 1152925902653362176, nat_lit 73786976295928725505], fun m => Nat.blt 4 (Nat.add (Nat.add (Nat.mod (Nat.div m (nat_lit 64)) 64) (Nat.mod (Nat.div m (nat_lit 281474976710656)) 64)) (Nat.mod (Nat.div m (nat_lit 18014398509481984)) 64))⟩, ⟨nat_lit 4398046511104, [nat_lit 1152921573326323776, nat_lit 73786976294855245824], fun m => Nat.blt 4 (Nat.add (Nat.add (Nat.add (Nat.mod m 64) (Nat.mod (Nat.div m (nat_lit 4398046511104)) 64)) (Nat.mod (Nat.div m (nat_lit 281474976710656)) 64)) (Nat.mod (Nat.div m (nat_lit 18014398509481984)) 64))⟩]
noncomputable def rS7b_9 : List Rl := [⟨nat_lit 18014398509481984, [nat_lit 1153202979583819776, nat_lit 73786976364631425089], fun m => Nat.blt 4 (Nat.add (Nat.mod (Nat.div m (nat_lit 4096)) 64) (Nat.mod (Nat.div m (nat_lit 18014398509481984)) 64))⟩, ⟨nat_lit 281474976710656, [nat_lit 1152925902653362176, nat_lit 73786976295928725505], fun m => Nat.blt 4 (Nat.add (Nat.add (Nat.mod (Nat.div m (nat_lit 64)) 64) (Nat.mod (Nat.div m (nat_lit 281474976710656)) 64)) (Nat.mod (Nat.div m (nat_lit 18014398509481984)) 64))⟩, ⟨nat_lit 4398046511104, [nat_lit 1152921573326323776, nat_lit 73786976294855245824], fun m => Nat.blt 5 (Nat.add (Nat.add (Nat.add (Nat.mod m 64) (Nat.mod (Nat.div m (nat_lit 4398046511104)) 64)) (Nat.mod (Nat.div m (nat_lit 281474976710656)) 64)) (Nat.mod (Nat.div m (nat_lit 18014398509481984)) 64))⟩]
noncomputable def rS7b_10 : List Rl := [⟨nat_lit 18014398509481984, [nat_lit 1153202979583819776, nat_lit 73786976364631425089], fun m => Nat.blt 4 (Nat.add (Nat.mod (Nat.div m (nat_lit 4096)) 64) (Nat.mod (Nat.div m (nat_lit 18014398509481984)) 64))⟩, ⟨nat_lit 281474976710656, [nat_lit 1152925902653362176, nat_lit 73786976295928725505], fun m => Nat.blt 5 (Nat.add (Nat.add (Nat.mod (Nat.div m (nat_lit 64)) 64) (Nat.mod (Nat.div m (nat_lit 281474976710656)) 64)) (Nat.mod (Nat.div m (nat_lit 18014398509481984)) 64))⟩, ⟨nat_lit 4398046511104, [nat_lit 1152921573326323776, nat_lit 73786976294855245824], fun m => Nat.blt 6 (Nat.add (Nat.add (Nat.add (Nat.mod m 64) (Nat.mod (Nat.div m (nat_lit 4398046511104)) 64)) (Nat.mod (Nat.div m (nat_lit 281474976710656)) 64)) (Nat.mod (Nat.div m (nat_lit 18014398509481984)) 64))⟩]
noncomputable def fS7b : Fam := { n := 7, j := 3, ps := [1, 3], D := [[-1, 0, 0, 0, 0, 0, 0], [0, -1, 0, 0, 0, 0, 0], [0, 0, -1, 0, 0, 0, 0], [0, 0, 0, -1, 0, 0, 0], [0, 0, 0, 0, -1, 0, 0], [0, 0, 0, 0, 0, -1, 0], [0, 0, 0, 0, 0, 0, -1], [1, 0, 0, 0, 0, 0, 0], [1, 1, 0, 0, 0, 0, 0], [1, 1, 1, 0, 0, 0, 0], [1, 1, 1, 1, 0, 0, 0], [2, 1, 1, 1, 1, 0, 0], [2, 2, 1, 1, 1, 1, 0], [3, 2, 2, 1, 1, 1, 1], [3, 3, 2, 2, 1, 1, 1], [3, 3, 3, 2, 2, 1, 1], [4, 3, 3, 3, 2, 2, 1], [5, 4, 3, 3, 3, 2, 2]], mon := [[1152921573326323776, 73786976294855245824], [1152921504606851072, 73786976295928725505], [1152921504607109120, 73786976364631425089], [1152921504623624192, 73786976363557687360], [1152921505680588801, 73786976294838472704], [1152921573326323776, 73786976294855245824], [1152921504606851072, 73786976295928725505], [1152921504607109120, 73786976364631425089], [1152921504623624192, 73786976363557687360], [1152921505680588801, 73786976294838472704], [1152921573326323776, 73786976294855245824]], Q := [qS7b_10, qS7b_11, qS7b_12, qS7b_13, qS7b_14, qS7b_15, qS7b_16, qS7b_17], rl := [rS7b_3, rS7b_4, rS7b_5, rS7b_6, rS7b_7, rS7b_8, rS7b_9, rS7b_10], b := [0, 0, 0, 0, 0, 0, 0, 18, 32, 46, 60, 78, 96, 128, 174, 234, 312, 408], w := [[16, 16], [12, 20], [12, 24], [12, 20], [16, 16], [16, 16], [12, 20], [12, 24], [12, 20], [16, 16], [16, 16]] }
theorem okS7b : fS7b.okB = true := by decide +kernel
theorem cS7b_3 : fS7b.chkK 3 = true := by decide +kernel
theorem cS7b_4 : fS7b.chkK 4 = true := by decide +kernel
theorem cS7b_5 : fS7b.chkK 5 = true := by decide +kernel
theorem cS7b_6 : fS7b.chkK 6 = true := by decide +kernel
theorem cS7b_7 : fS7b.chkK 7 = true := by decide +kernel
theorem cS7b_8 : fS7b.chkK 8 = true := by decide +kernel
theorem cS7b_9 : fS7b.chkK 9 = true := by decide +kernel
theorem cS7b_10 : fS7b.chkK 10 = true := by decide +kernel
theorem chS7b : ∀ k, k < fS7b.n + 4 → fS7b.chkK k = true :=
  show ∀ k, k < 11 → fS7b.chkK k = true from ltS (cS7b_10) (ltS (cS7b_9) (ltS (cS7b_8) (ltS (cS7b_7) (ltS (cS7b_6) (ltS (cS7b_5) (ltS (cS7b_4) (ltS (cS7b_3) (ltS (rfl) (ltS (rfl) (ltS (rfl) lt0))))))))))
open Pol in
noncomputable def qS7c_10 : Pol := cons (nat_lit 1153202980657299457) (.ofNat (nat_lit 1)) (cons (nat_lit 73786980761604194368) (.ofNat (nat_lit 1)) (nil))
open Pol in
noncomputable def qS7c_11 : Pol := cons (nat_lit 1170935971835805760) (.ofNat (nat_lit 1)) (cons (nat_lit 73787262167861432320) (.ofNat (nat_lit 1)) (nil))
open Pol in
noncomputable def qS7c_12 : Pol := cons (nat_lit 2306128883310661633) (.ofNat (nat_lit 1)) (cons (nat_lit 73805272168324661249) (.ofNat (nat_lit 1)) (cons (nat_lit 74939906664257556544) (.ofNat (nat_lit 1)) (nil)))
open Pol in
noncomputable def qS7c_13 : Pol := cons (nat_lit 2324138951419625537) (.ofNat (nat_lit 1)) (cons (nat_lit 74940465147445252097) (.ofNat (nat_lit 1)) (cons (nat_lit 74958193674021765185) (.ofNat (nat_lit 1)) (cons (nat_lit 147591971454968660096) (.ofNat (nat_lit 1)) (nil))))
open Pol in
noncomputable def qS7c_14 : Pol := cons (nat_lit 1189231776602521665) (.ofNat (nat_lit 1)) (cons (nat_lit 76110838169344151680) (.ofNat (nat_lit 1)) (cons (nat_lit 148727437046384173058) (.ofNat (nat_lit 1)) (cons (nat_lit 148744888631305441409) (.ofNat (nat_lit 1)) (cons (nat_lit 221361214827331067969) (.ofNat (nat_lit 1)) (nil)))))
open Pol in
noncomputable def qS7c_15 : Pol := cons (nat_lit 4629981962780807234) (.ofNat (nat_lit 1)) (cons (nat_lit 77246308158806433794) (.ofNat (nat_lit 1)) (cons (nat_lit 77263759743727702145) (.ofNat (nat_lit 2)) (cons (nat_lit 77264036685382946882) (.ofNat (nat_lit 1)) (cons (nat_lit 148744897426324721856) (.ofNat (nat_lit 1)) (cons (nat_lit 148762903028741701761) (.ofNat (nat_lit 1)) (cons (nat_lit 149880085939753328705) (.ofNat (nat_lit 2)) (cons (nat_lit 149897814466329841793) (.ofNat (nat_lit 2)) (cons (nat_lit 221379229224767328321) (.ofNat (nat_lit 1)) (cons (nat_lit 222513863720700223616) (.ofNat (nat_lit 1)) (nil))))))))))
open Pol in
noncomputable def qS7c_16 : Pol := cons (nat_lit 3495074923255431298) (.ofNat (nat_lit 1)) (cons (nat_lit 78399229731075792962) (.ofNat (nat_lit 2)) (cons (nat_lit 78416681315997061313) (.ofNat (nat_lit 1)) (cons (nat_lit 149880644422940766210) (.ofNat (nat_lit 1)) (cons (nat_lit 149898373016089792578) (.ofNat (nat_lit 2)) (cons (nat_lit 151033007512022687873) (.ofNat (nat_lit 2)) (cons (nat_lit 151033280193037082691) (.ofNat (nat_lit 2)) (cons (nat_lit 151033284453677932610) (.ofNat (nat_lit 1)) (cons (nat_lit 151050731777958351042) (.ofNat (nat_lit 1)) (cons (nat_lit 222514422203887661121) (.ofNat (nat_lit 1)) (cons (nat_lit 222514699212115419138) (.ofNat (nat_lit 1)) (cons (nat_lit 222532427738691932226) (.ofNat (nat_lit 1)) (cons (nat_lit 223667057973983977602) (.ofNat (nat_lit 2)) (cons (nat_lit 223667062234624827521) (.ofNat (nat_lit 2)) (cons (nat_lit 295166205519638827137) (.ofNat (nat_lit 1)) (cons (nat_lit 296300840015571722432) (.ofNat (nat_lit 1)) (nil))))))))))))))))
open Pol in
noncomputable def qS7c_17 : Pol := cons (nat_lit 6935829370057793666) (.ofNat (nat_lit 1)) (cons (nat_lit 76147144043277058178) (.ofNat (nat_lit 1)) (cons (nat_lit 78434972655071793282) (.ofNat (nat_lit 1)) (cons (nat_lit 79552155566083420226) (.ofNat (nat_lit 1)) (cons (nat_lit 79569607151004688577) (.ofNat (nat_lit 2)) (cons (nat_lit 79569884092659933314) (.ofNat (nat_lit 1)) (cons (nat_lit 148781198765879197826) (.ofNat (nat_lit 1)) (cons (nat_lit 151050744833601708288) (.ofNat (nat_lit 1)) (cons (nat_lit 151051298851097419842) (.ofNat (nat_lit 2)) (cons (nat_lit 151068750436018688193) (.ofNat (nat_lit 2)) (cons (nat_lit 151069027377673932930) (.ofNat (nat_lit 1)) (cons (nat_lit 152185933347030315137) (.ofNat (nat_lit 2)) (cons (nat_lit 152203661873606828225) (.ofNat (nat_lit 2)) (cons (nat_lit 222550442136111419458) (.ofNat (nat_lit 1)) (cons (nat_lit 223685076632044314753) (.ofNat (nat_lit 2)) (cons (nat_lit 223685349313058709571) (.ofNat (nat_lit 2)) (cons (nat_lit 223702805158620827841) (.ofNat (nat_lit 2)) (cons (nat_lit 224819711127977210048) (.ofNat (nat_lit 1)) (cons (nat_lit 296301675509084336131) (.ofNat (nat_lit 1)) (cons (nat_lit 296319404035660849219) (.ofNat (nat_lit 1)) (cons (nat_lit 296336855620582117570) (.ofNat (nat_lit 1)) (cons (nat_lit 368953181816607744130) (.ofNat (nat_lit 1)) (nil))))))))))))))))))))))
noncomputable def rS7c_3 : List Rl := [⟨nat_lit 18014398509481984, [nat_lit 1152925902670135296, nat_lit 73786976364631425025], fun m => Nat.blt 0 (Nat.add (Nat.mod (Nat.div m (nat_lit 4096)) 64) (Nat.mod (Nat.div m (nat_lit 18014398509481984)) 64))⟩, ⟨nat_lit 281474976710656, [nat_lit 1152921573326585856, nat_lit 73786976295928725504], fun m => Nat.blt 1 (Nat.add (Nat.mod (Nat.div m (nat_lit 64)) 64) (Nat.mod (Nat.div m (nat_lit 281474976710656)) 64))⟩, ⟨nat_lit 4398046511104, [nat_lit 1152921505680592896, nat_lit 73786976294855245824], fun m => Nat.blt 1 (Nat.add (Nat.add (Nat.mod m 64) (Nat.mod (Nat.div m (nat_lit 4398046511104)) 64)) (Nat.mod (Nat.div m (nat_lit 18014398509481984)) 64))⟩]
noncomputable def rS7c_4 : List Rl := [⟨nat_lit 18014398509481984, [nat_lit 1152925902670135296, nat_lit 73786976364631425025], fun m => Nat.blt 1 (Nat.add (Nat.mod (Nat.div m (nat_lit 4096)) 64) (Nat.mod (Nat.div m (nat_lit 18014398509481984)) 64))⟩, ⟨nat_lit 281474976710656, [nat_lit 1152921573326585856, nat_lit 73786976295928725504], fun m => Nat.blt 1 (Nat.add (Nat.mod (Nat.div m (nat_lit 64)) 64) (Nat.mod (Nat.div m (nat_lit 281474976710656)) 64))⟩, ⟨nat_lit 4398046511104, [nat_lit 1152921505680592896, nat_lit 73786976294855245824], fun m => Nat.blt 1 (Nat.add (Nat.add (Nat.mod m 64) (Nat.mod (Nat.div m (nat_lit 4398046511104)) 64)) (Nat.mod (Nat.div m (nat_lit 18014398509481984)) 64))⟩]
noncomputable def rS7c_5 : List Rl := [⟨nat_lit 18014398509481984, [nat_lit 1152925902670135296, nat_lit 73786976364631425025], fun m => Nat.blt 1 (Nat.add (Nat.mod (Nat.div m (nat_lit 4096)) 64) (Nat.mod (Nat.div m (nat_lit 18014398509481984)) 64))⟩, ⟨nat_lit 281474976710656, [nat_lit 1152921573326585856, nat_lit 73786976295928725504], fun m => Nat.blt 1 (Nat.add (Nat.mod (Nat.div m (nat_lit 64)) 64) (Nat.mod (Nat.div m (nat_lit 281474976710656)) 64))⟩, ⟨nat_lit 4398046511104, [nat_lit 1152921505680592896, nat_lit 73786976294855245824], fun m => Nat.blt 2 (Nat.add (Nat.add (Nat.mod m 64) (Nat.mod (Nat.div m (nat_lit 4398046511104)) 64)) (Nat.mod (Nat.div m (nat_lit 18014398509481984)) 64))⟩]
noncomputable def rS7c_6 : List Rl := [⟨nat_lit 18014398509481984, [nat_lit 1152925902670135296, nat_lit 73786976364631425025], fun m => Nat.blt 1 (Nat.add (Nat.mod (Nat.div m (nat_lit 4096)) 64) (Nat.mod (Nat.div m (nat_lit 18014398509481984)) 64))⟩, ⟨nat_lit 281474976710656, [nat_lit 1152921573326585856, nat_lit 73786976295928725504], fun m => Nat.blt 2 (Nat.add (Nat.mod (Nat.div m (nat_lit 64)) 64) (Nat.mod (Nat.div m (nat_lit 281474976710656)) 64))⟩, ⟨nat_lit 4398046511104, [nat_lit 1152921505680592896, nat_lit 73786976294855245824], fun m => Nat.blt 2 (Nat.add (Nat.add (Nat.mod m 64) (Nat.mod (Nat.div m (nat_lit 4398046511104)) 64)) (Nat.mod (Nat.div m (nat_lit 18014398509481984)) 64))⟩]
noncomputable def rS7c_7 : List Rl := [⟨nat_lit 18014398509481984, [nat_lit 1152925902670135296, nat_lit 73786976364631425025], fun m => Nat.blt 2 (Nat.add (Nat.mod (Nat.div m (nat_lit 4096)) 64) (Nat.mod (Nat.div m (nat_lit 18014398509481984)) 64))⟩, ⟨nat_lit 281474976710656, [nat_lit 1152921573326585856, nat_lit 73786976295928725504], fun m => Nat.blt 2 (Nat.add (Nat.mod (Nat.div m (nat_lit 64)) 64) (Nat.mod (Nat.div m (nat_lit 281474976710656)) 64))⟩, ⟨nat_lit 4398046511104, [nat_lit 1152921505680592896, nat_lit 73786976294855245824], fun m => Nat.blt 3 (Nat.add (Nat.add (Nat.mod m 64) (Nat.mod (Nat.div m (nat_lit 4398046511104)) 64)) (Nat.mod (Nat.div m (nat_lit 18014398509481984)) 64))⟩]
noncomputable def rS7c_8 : List Rl := [⟨nat_lit 18014398509481984, [nat_lit 1152925902670135296, nat_lit 73786976364631425025], fun m => Nat.blt 2 (Nat.add (Nat.mod (Nat.div m (nat_lit 4096)) 64) (Nat.mod (Nat.div m (nat_lit 18014398509481984)) 64))⟩, ⟨nat_lit 281474976710656, [nat_lit 1152921573326585856, nat_lit 73786976295928725504], fun m => Nat.blt 3 (Nat.add (Nat.mod (Nat.div m (nat_lit 64)) 64) (Nat.mod (Nat.div m (nat_lit 281474976710656)) 64))⟩, ⟨nat_lit 4398046511104, [nat_lit 1152921505680592896, nat_lit 73786976294855245824], fun m => Nat.blt 3 (Nat.add (Nat.add (Nat.mod m 64) (Nat.mod (Nat.div m (nat_lit 4398046511104)) 64)) (Nat.mod (Nat.div m (nat_lit 18014398509481984)) 64))⟩]
noncomputable def rS7c_9 : List Rl := [⟨nat_lit 18014398509481984, [nat_lit 1152925902670135296, nat_lit 73786976364631425025], fun m => Nat.blt 3 (Nat.add (Nat.mod (Nat.div m (nat_lit 4096)) 64) (Nat.mod (Nat.div m (nat_lit 18014398509481984)) 64))⟩, ⟨nat_lit 281474976710656, [nat_lit 1152921573326585856, nat_lit 73786976295928725504], fun m => Nat.blt 3 (Nat.add (Nat.mod (Nat.div m (nat_lit 64)) 64) (Nat.mod (Nat.div m (nat_lit 281474976710656)) 64))⟩, ⟨nat_lit 4398046511104, [nat_lit 1152921505680592896, nat_lit 73786976294855245824], fun m => Nat.blt 4 (Nat.add (Nat.add (Nat.mod m 64) (Nat.mod (Nat.div m (nat_lit 4398046511104)) 64)) (Nat.mod (Nat.div m (nat_lit 18014398509481984)) 64))⟩]
noncomputable def rS7c_10 : List Rl := [⟨nat_lit 18014398509481984, [nat_lit 1152925902670135296, nat_lit 73786976364631425025], fun m => Nat.blt 3 (Nat.add (Nat.mod (Nat.div m (nat_lit 4096)) 64) (Nat.mod (Nat.div m (nat_lit 18014398509481984)) 64))⟩, ⟨nat_lit 281474976710656, [nat_lit 1152921573326585856, nat_lit 73786976295928725504], fun m => Nat.blt 4 (Nat.add (Nat.mod (Nat.div m (nat_lit 64)) 64) (Nat.mod (Nat.div m (nat_lit 281474976710656)) 64))⟩, ⟨nat_lit 4398046511104, [nat_lit 1152921505680592896, nat_lit 73786976294855245824], fun m => Nat.blt 5 (Nat.add (Nat.add (Nat.mod m 64) (Nat.mod (Nat.div m (nat_lit 4398046511104)) 64)) (Nat.mod (Nat.div m (nat_lit 18014398509481984)) 64))⟩]
noncomputable def fS7c : Fam := { n := 7, j := 3, ps := [2, 3], D := [[-1, 0, 0, 0, 0, 0, 0], [0, -1, 0, 0, 0, 0, 0], [0, 0, -1, 0, 0, 0, 0], [0, 0, 0, -1, 0, 0, 0], [0, 0, 0, 0, -1, 0, 0], [0, 0, 0, 0, 0, -1, 0], [0, 0, 0, 0, 0, 0, -1], [1, 0, 0, 0, 0, 0, 0], [0, 1, 0, 0, 0, 0, 0], [1, 0, 1, 0, 0, 0, 0], [1, 1, 0, 1, 0, 0, 0], [1, 1, 1, 0, 1, 0, 0], [2, 1, 1, 1, 0, 1, 0], [2, 2, 1, 1, 1, 0, 1], [2, 2, 2, 1, 1, 1, 0], [3, 2, 2, 2, 1, 1, 1], [3, 3, 2, 2, 2, 1, 1], [4, 3, 3, 2, 2, 2, 1]], mon := [[1152921505680592896, 73786976294855245824], [1152921573326585856, 73786976295928725504], [1152921504623624192, 73786976364631425025], [1152921505680588801, 73786976363557683264], [1152921573326323776, 73786976294838210560], [1152921504606851072, 73786976294838468609], [1152921504607109121, 73786976294854983744], [1152921504623624256, 73786976295911952385], [1152921505680592896, 73786976363557945408], [1152921573326585857, 73786976294854987776], [1152921504623624256, 73786976295912210433]], Q := [qS7c_10, qS7c_11, qS7c_12, qS7c_13, qS7c_14, qS7c_15, qS7c_16, qS7c_17], rl := [rS7c_3, rS7c_4, rS7c_5, rS7c_6, rS7c_7, rS7c_8, rS7c_9, rS7c_10], b := [0, 0, 0, 0, 0, 0, 0, 18, 18, 32, 36, 50, 68, 86, 118, 140, 190, 226], w := [[16, 16], [16, 16], [12, 20], [16, 16], [16, 12], [12, 16], [16, 16], [16, 20], [16, 20], [20, 16], [16, 20]] }
theorem okS7c : fS7c.okB = true := by decide +kernel
theorem cS7c_3 : fS7c.chkK 3 = true := by decide +kernel
theorem cS7c_4 : fS7c.chkK 4 = true := by decide +kernel
theorem cS7c_5 : fS7c.chkK 5 = true := by decide +kernel
theorem cS7c_6 : fS7c.chkK 6 = true := by decide +kernel
theorem cS7c_7 : fS7c.chkK 7 = true := by decide +kernel
theorem cS7c_8 : fS7c.chkK 8 = true := by decide +kernel
theorem cS7c_9 : fS7c.chkK 9 = true := by decide +kernel
theorem cS7c_10 : fS7c.chkK 10 = true := by decide +kernel
theorem chS7c : ∀ k, k < fS7c.n + 4 → fS7c.chkK k = true :=
  show ∀ k, k < 11 → fS7c.chkK k = true from ltS (cS7c_10) (ltS (cS7c_9) (ltS (cS7c_8) (ltS (cS7c_7) (ltS (cS7c_6) (ltS (cS7c_5) (ltS (cS7c_4) (ltS (cS7c_3) (ltS (rfl) (ltS (rfl) (ltS (rfl) lt0))))))))))
open Pol in
noncomputable def qS7_10 : Pol := cons (nat_lit 1170935903133106176) (.ofNat (nat_lit 1)) (cons (nat_lit 73787257770888663040) (.ofNat (nat_lit 1)) (cons (nat_lit 4722366487336411205696) (.ofNat (nat_lit 1)) (nil)))
open Pol in
noncomputable def qS7_11 : Pol := cons (nat_lit 2323857408813694977) (.ofNat (nat_lit 1)) (cons (nat_lit 73804990762067427329) (.ofNat (nat_lit 1)) (cons (nat_lit 74940179276569251841) (.ofNat (nat_lit 1)) (cons (nat_lit 4722366768742668701696) (.ofNat (nat_lit 1)) (cons (nat_lit 4723519408842091794497) (.ofNat (nat_lit 1)) (nil)))))
open Pol in
noncomputable def qS7_12 : Pol := cons (nat_lit 3476778982140018753) (.ofNat (nat_lit 1)) (cons (nat_lit 74957912335393751105) (.ofNat (nat_lit 1)) (cons (nat_lit 74957916596034601024) (.ofNat (nat_lit 1)) (cons (nat_lit 76093100849895575617) (.ofNat (nat_lit 1)) (cons (nat_lit 147574238463790157888) (.ofNat (nat_lit 1)) (cons (nat_lit 4722384778743148445696) (.ofNat (nat_lit 1)) (cons (nat_lit 4723519690315995025472) (.ofNat (nat_lit 1)) (cons (nat_lit 4724672330415418118273) (.ofNat (nat_lit 1)) (cons (nat_lit 4796153468029312700544) (.ofNat (nat_lit 1)) (nil)))))))))
open Pol in
noncomputable def qS7_13 : Pol := cons (nat_lit 4629704884793380929) (.ofNat (nat_lit 1)) (cons (nat_lit 76110838238047113281) (.ofNat (nat_lit 1)) (cons (nat_lit 76110842498687963200) (.ofNat (nat_lit 1)) (cons (nat_lit 76111115179702358017) (.ofNat (nat_lit 1)) (cons (nat_lit 77246026752548937793) (.ofNat (nat_lit 1)) (cons (nat_lit 147592248532956090369) (.ofNat (nat_lit 1)) (cons (nat_lit 148727164366443520064) (.ofNat (nat_lit 1)) (cons (nat_lit 148727437047457914881) (.ofNat (nat_lit 1)) (cons (nat_lit 4723537704645801807872) (.ofNat (nat_lit 1)) (cons (nat_lit 4723555433172378320897) (.ofNat (nat_lit 1)) (cons (nat_lit 4724672616218648387648) (.ofNat (nat_lit 1)) (cons (nat_lit 4725825256318071480449) (.ofNat (nat_lit 1)) (cons (nat_lit 4796154026513557364736) (.ofNat (nat_lit 1)) (cons (nat_lit 4796171755040133877761) (.ofNat (nat_lit 1)) (cons (nat_lit 4797306393931966062720) (.ofNat (nat_lit 1)) (cons (nat_lit 4797306666612980457537) (.ofNat (nat_lit 1)) (cons (nat_lit 9444750984605656420417) (.ofNat (nat_lit 1)) (nil)))))))))))))))))
open Pol in
noncomputable def qS7_14 : Pol := cons (nat_lit 2342153282299887617) (.ofNat (nat_lit 1)) (cons (nat_lit 73823286635553619969) (.ofNat (nat_lit 1)) (cons (nat_lit 74958475150055444481) (.ofNat (nat_lit 1)) (cons (nat_lit 77264041080225271872) (.ofNat (nat_lit 1)) (cons (nat_lit 78416681179648364673) (.negSucc (nat_lit 0)) (cons (nat_lit 148762902960055517249) (.ofNat (nat_lit 1)) (cons (nat_lit 149880362947980828736) (.ofNat (nat_lit 1)) (cons (nat_lit 149897814532902097025) (.negSucc (nat_lit 0)) (cons (nat_lit 149898091474557341761) (.negSucc (nat_lit 0)) (cons (nat_lit 151033003047403921537) (.negSucc (nat_lit 0)) (cons (nat_lit 222514413342312898625) (.negSucc (nat_lit 0)) (cons (nat_lit 4724690903227339116544) (.ofNat (nat_lit 1)) (cons (nat_lit 4725825814800185696320) (.ofNat (nat_lit 1)) (cons (nat_lit 4726978454899608789121) (.ofNat (nat_lit 1)) (cons (nat_lit 4726996183426185302146) (.negSucc (nat_lit 0)) (cons (nat_lit 4797307225095094673408) (.ofNat (nat_lit 1)) (cons (nat_lit 4797324676680015941697) (.ofNat (nat_lit 1)) (cons (nat_lit 4798459592513503371392) (.ofNat (nat_lit 1)) (cons (nat_lit 4798459865194517766209) (.ofNat (nat_lit 1)) (cons (nat_lit 4799612505293940859010) (.negSucc (nat_lit 0)) (cons (nat_lit 4869958454393333616769) (.ofNat (nat_lit 1)) (cons (nat_lit 9445904183187193729089) (.ofNat (nat_lit 2)) (cons (nat_lit 9447056823286616821890) (.ofNat (nat_lit 2)) (cons (nat_lit 9518520505054949285953) (.ofNat (nat_lit 1)) (cons (nat_lit 9518537956639870554242) (.ofNat (nat_lit 1)) (cons (nat_lit 9519673145154372378754) (.ofNat (nat_lit 2)) (cons (nat_lit 14167099734620471828609) (.ofNat (nat_lit 1)) (cons (nat_lit 14168252374719894921410) (.ofNat (nat_lit 1)) (nil))))))))))))))))))))))))))))
open Pol in
noncomputable def qS7_15 : Pol := cons (nat_lit 3512807710456283137) (.ofNat (nat_lit 1)) (cons (nat_lit 74993941063710015489) (.ofNat (nat_lit 1)) (cons (nat_lit 76129129578211840001) (.ofNat (nat_lit 1)) (cons (nat_lit 76146862499630678080) (.ofNat (nat_lit 1)) (cons (nat_lit 151051017376137224256) (.ofNat (nat_lit 1)) (cons (nat_lit 152203657475560317057) (.ofNat (nat_lit 1)) (cons (nat_lit 222549879255967469633) (.ofNat (nat_lit 1)) (cons (nat_lit 223684790828814049409) (.ofNat (nat_lit 1)) (cons (nat_lit 223684795089454899328) (.ofNat (nat_lit 2)) (cons (nat_lit 223685067770469294145) (.ofNat (nat_lit 1)) (cons (nat_lit 224819979343315873921) (.ofNat (nat_lit 1)) (cons (nat_lit 295166201123723026497) (.ofNat (nat_lit 1)) (cons (nat_lit 296301116957210456192) (.ofNat (nat_lit 1)) (cons (nat_lit 296301389638224851009) (.ofNat (nat_lit 1)) (cons (nat_lit 4725861276319014195329) (.ofNat (nat_lit 2)) (cons (nat_lit 4725861557655495512064) (.ofNat (nat_lit 1)) (cons (nat_lit 4726996469228342091840) (.ofNat (nat_lit 1)) (cons (nat_lit 4728149109327765184641) (.negSucc (nat_lit 0)) (cons (nat_lit 4797342409672267927681) (.ofNat (nat_lit 1)) (cons (nat_lit 4797342413932908777600) (.ofNat (nat_lit 2)) (cons (nat_lit 4798477879523251068928) (.ofNat (nat_lit 1)) (cons (nat_lit 4798495331108172337217) (.ofNat (nat_lit 1)) (cons (nat_lit 4798495335368813187136) (.ofNat (nat_lit 1)) (cons (nat_lit 4799630242681018916993) (.negSucc (nat_lit 0)) (cons (nat_lit 4799630519622674161729) (.ofNat (nat_lit 1)) (cons (nat_lit 4800783159722097254530) (.ofNat (nat_lit 1)) (cons (nat_lit 4871111657236568744000) (.ofNat (nat_lit 2)) (cons (nat_lit 4871129385763145257025) (.ofNat (nat_lit 2)) (cons (nat_lit 4872246568809415323776) (.ofNat (nat_lit 1)) (cons (nat_lit 4872264293075350986882) (.ofNat (nat_lit 2)) (cons (nat_lit 4872264297335991836801) (.ofNat (nat_lit 4)) (cons (nat_lit 4873399208908838416577) (.ofNat (nat_lit 2)) (cons (nat_lit 4873399481589852811394) (.ofNat (nat_lit 1)) (cons (nat_lit 4943727979104324300864) (.ofNat (nat_lit 1)) (cons (nat_lit 4943745430689245569153) (.ofNat (nat_lit 2)) (cons (nat_lit 4943745707630900813889) (.ofNat (nat_lit 1)) (cons (nat_lit 4944880346522732998848) (.ofNat (nat_lit 2)) (cons (nat_lit 4944880619203747393665) (.ofNat (nat_lit 3)) (cons (nat_lit 9447056827752292294849) (.ofNat (nat_lit 1)) (cons (nat_lit 9447074837615350124609) (.ofNat (nat_lit 3)) (cons (nat_lit 9448209749188196704385) (.ofNat (nat_lit 2)) (cons (nat_lit 9449344660761043284161) (.negSucc (nat_lit 0)) (cons (nat_lit 9518537965366186877120) (.ofNat (nat_lit 1)) (cons (nat_lit 9518555970968603856961) (.ofNat (nat_lit 1)) (cons (nat_lit 9519690882541450436737) (.ofNat (nat_lit 2)) (cons (nat_lit 9519690886802091286656) (.ofNat (nat_lit 2)) (cons (nat_lit 9519691159483105681473) (.ofNat (nat_lit 2)) (cons (nat_lit 9520826071055952261249) (.ofNat (nat_lit 2)) (cons (nat_lit 9520843799582528774274) (.ofNat (nat_lit 2)) (cons (nat_lit 9521978711155375354050) (.ofNat (nat_lit 2)) (cons (nat_lit 9592307208669846843520) (.ofNat (nat_lit 2)) (cons (nat_lit 9592324937196423356545) (.ofNat (nat_lit 2)) (cons (nat_lit 9593459848769269936321) (.ofNat (nat_lit 3)) (cons (nat_lit 14167117748949205131328) (.ofNat (nat_lit 1)) (cons (nat_lit 14168252660522051711104) (.ofNat (nat_lit 1)) (cons (nat_lit 14168270389048628224129) (.ofNat (nat_lit 2)) (cons (nat_lit 14169405300621474803905) (.ofNat (nat_lit 2)) (cons (nat_lit 14240886438235369386176) (.ofNat (nat_lit 1)) (nil))))))))))))))))))))))))))))))))))))))))))))))))))))))))))
open Pol in
noncomputable def qS7_16 : Pol := cons (nat_lit 5818650720760496130) (.ofNat (nat_lit 1)) (cons (nat_lit 77299784074014228482) (.ofNat (nat_lit 1)) (cons (nat_lit 78434972588516052994) (.ofNat (nat_lit 3)) (cons (nat_lit 78452705509934891073) (.ofNat (nat_lit 1)) (cons (nat_lit 149916105941769785346) (.ofNat (nat_lit 3)) (cons (nat_lit 151051294456271609858) (.ofNat (nat_lit 3)) (cons (nat_lit 153356860386441437249) (.ofNat (nat_lit 3)) (cons (nat_lit 221397239295023517698) (.ofNat (nat_lit 1)) (cons (nat_lit 222532427809525342210) (.ofNat (nat_lit 2)) (cons (nat_lit 223667616324027166722) (.ofNat (nat_lit 1)) (cons (nat_lit 224837993739695169601) (.ofNat (nat_lit 1)) (cons (nat_lit 224855722266271682626) (.ofNat (nat_lit 3)) (cons (nat_lit 225973182254196994113) (.ofNat (nat_lit 3)) (cons (nat_lit 225990633839118262402) (.negSucc (nat_lit 0)) (cons (nat_lit 225990638099759112321) (.ofNat (nat_lit 3)) (cons (nat_lit 296336855619525414978) (.ofNat (nat_lit 1)) (cons (nat_lit 297454315540878213185) (.ofNat (nat_lit 1)) (cons (nat_lit 297454315607450726465) (.ofNat (nat_lit 1)) (cons (nat_lit 297471767192371994754) (.negSucc (nat_lit 0)) (cons (nat_lit 297472044134027239490) (.ofNat (nat_lit 2)) (cons (nat_lit 298606955706873819266) (.negSucc (nat_lit 0)) (cons (nat_lit 298606959967514669185) (.ofNat (nat_lit 3)) (cons (nat_lit 4728167119329318408322) (.ofNat (nat_lit 3)) (cons (nat_lit 4728167400665799725057) (.ofNat (nat_lit 1)) (cons (nat_lit 4729302312238646304833) (.ofNat (nat_lit 1)) (cons (nat_lit 4799648252682572140674) (.ofNat (nat_lit 2)) (cons (nat_lit 4799648256943212990593) (.ofNat (nat_lit 3)) (cons (nat_lit 4800783722533555281921) (.ofNat (nat_lit 3)) (cons (nat_lit 4800801174118476550210) (.ofNat (nat_lit 1)) (cons (nat_lit 4800801178379117400129) (.ofNat (nat_lit 1)) (cons (nat_lit 4801918634106401861697) (.ofNat (nat_lit 3)) (cons (nat_lit 4801936085691323129986) (.ofNat (nat_lit 1)) (cons (nat_lit 4801936089951963979905) (.ofNat (nat_lit 2)) (cons (nat_lit 4801936362632978374722) (.ofNat (nat_lit 3)) (cons (nat_lit 4803071274205824954498) (.ofNat (nat_lit 6)) (cons (nat_lit 4872264855886809014273) (.ofNat (nat_lit 1)) (cons (nat_lit 4873399767393083080769) (.ofNat (nat_lit 2)) (cons (nat_lit 4873399767459655594049) (.ofNat (nat_lit 2)) (cons (nat_lit 4873399771720296443968) (.ofNat (nat_lit 1)) (cons (nat_lit 4873400044401310838785) (.ofNat (nat_lit 4)) (cons (nat_lit 4873417219044576862338) (.ofNat (nat_lit 1)) (cons (nat_lit 4873417223305217712257) (.ofNat (nat_lit 2)) (cons (nat_lit 4873417227565858562176) (.ofNat (nat_lit 1)) (cons (nat_lit 4873417495986232107074) (.ofNat (nat_lit 6)) (cons (nat_lit 4873417500246872956993) (.ofNat (nat_lit 4)) (cons (nat_lit 4873435228773449470018) (.ofNat (nat_lit 3)) (cons (nat_lit 4874552407492506173570) (.ofNat (nat_lit 3)) (cons (nat_lit 4874552407559078686850) (.ofNat (nat_lit 4)) (cons (nat_lit 4874552411819719536769) (.ofNat (nat_lit 10)) (cons (nat_lit 4874552684500733931586) (.ofNat (nat_lit 6)) (cons (nat_lit 4874570136085655199875) (.ofNat (nat_lit 5)) (cons (nat_lit 4874570140346296049794) (.ofNat (nat_lit 6)) (cons (nat_lit 4875705051919142629570) (.ofNat (nat_lit 6)) (cons (nat_lit 4944880905006977663040) (.ofNat (nat_lit 1)) (cons (nat_lit 4944881177687992057857) (.ofNat (nat_lit 2)) (cons (nat_lit 4944881177754564571137) (.ofNat (nat_lit 2)) (cons (nat_lit 4944898629339485839426) (.ofNat (nat_lit 3)) (cons (nat_lit 4944898633600126689345) (.ofNat (nat_lit 2)) (cons (nat_lit 4946033545106400755841) (.ofNat (nat_lit 3)) (cons (nat_lit 4946033545172973269121) (.ofNat (nat_lit 3)) (cons (nat_lit 4946033549433614119040) (.ofNat (nat_lit 2)) (cons (nat_lit 4946033817787415150658) (.ofNat (nat_lit 3)) (cons (nat_lit 4946033817853987663938) (.ofNat (nat_lit 6)) (cons (nat_lit 4946033822114628513857) (.ofNat (nat_lit 5)) (cons (nat_lit 4946051269438908932227) (.ofNat (nat_lit 2)) (cons (nat_lit 4946051273699549782146) (.ofNat (nat_lit 8)) (cons (nat_lit 4946051550641205026882) (.ofNat (nat_lit 3)) (cons (nat_lit 4947186185272396361922) (.ofNat (nat_lit 2)) (cons (nat_lit 4947186189533037211841) (.ofNat (nat_lit 6)) (cons (nat_lit 4947186457953410756739) (.ofNat (nat_lit 2)) (cons (nat_lit 4947186462214051606658) (.ofNat (nat_lit 9)) (cons (nat_lit 5017514955467882246209) (.ofNat (nat_lit 2)) (cons (nat_lit 5017532407052803514498) (.ofNat (nat_lit 1)) (cons (nat_lit 5018667595567305339010) (.ofNat (nat_lit 5)) (cons (nat_lit 5018667872508960583746) (.ofNat (nat_lit 1)) (cons (nat_lit 9449362670762596507842) (.ofNat (nat_lit 3)) (cons (nat_lit 9449362952099077824577) (.ofNat (nat_lit 3)) (cons (nat_lit 9449380680625654337602) (.ofNat (nat_lit 5)) (cons (nat_lit 9450497863671924404353) (.ofNat (nat_lit 3)) (cons (nat_lit 9450515592198500917378) (.ofNat (nat_lit 2)) (cons (nat_lit 9520826356859182530624) (.ofNat (nat_lit 1)) (cons (nat_lit 9520826633867410288640) (.ofNat (nat_lit 1)) (cons (nat_lit 9520843804115850240194) (.ofNat (nat_lit 1)) (cons (nat_lit 9520843808376491090113) (.ofNat (nat_lit 3)) (cons (nat_lit 9520844085452331556929) (.ofNat (nat_lit 2)) (cons (nat_lit 9520844089712972406848) (.ofNat (nat_lit 2)) (cons (nat_lit 9520844362393986801665) (.ofNat (nat_lit 2)) (cons (nat_lit 9520861813978908069954) (.ofNat (nat_lit 3)) (cons (nat_lit 9520861818239548919873) (.ofNat (nat_lit 1)) (cons (nat_lit 9521978996958605623425) (.ofNat (nat_lit 4)) (cons (nat_lit 9521978997025178136705) (.ofNat (nat_lit 2)) (cons (nat_lit 9521979001285818986624) (.ofNat (nat_lit 2)) (cons (nat_lit 9521979273966833381441) (.ofNat (nat_lit 6)) (cons (nat_lit 9521996725551754649730) (.ofNat (nat_lit 3)) (cons (nat_lit 9521996729812395499649) (.ofNat (nat_lit 3)) (cons (nat_lit 9521997002493409894466) (.ofNat (nat_lit 12)) (cons (nat_lit 9523131637058028716226) (.ofNat (nat_lit 3)) (cons (nat_lit 9523131637124601229506) (.ofNat (nat_lit 1)) (cons (nat_lit 9523131641385242079425) (.ofNat (nat_lit 4)) (cons (nat_lit 9523131914066256474242) (.ofNat (nat_lit 7)) (cons (nat_lit 9523149642592832987267) (.ofNat (nat_lit 9)) (cons (nat_lit 9524284554165679567043) (.ofNat (nat_lit 6)) (cons (nat_lit 9592307767154091507712) (.ofNat (nat_lit 1)) (cons (nat_lit 9592325495747240534017) (.ofNat (nat_lit 2)) (cons (nat_lit 9593460134572500205696) (.ofNat (nat_lit 2)) (cons (nat_lit 9593460407253514600513) (.ofNat (nat_lit 4)) (cons (nat_lit 9593460407320087113793) (.ofNat (nat_lit 3)) (cons (nat_lit 9593460411580727963712) (.ofNat (nat_lit 3)) (cons (nat_lit 9593460684261742358529) (.ofNat (nat_lit 2)) (cons (nat_lit 9593478135846663626818) (.ofNat (nat_lit 6)) (cons (nat_lit 9593478140107304476737) (.ofNat (nat_lit 2)) (cons (nat_lit 9594612774671923298497) (.ofNat (nat_lit 3)) (cons (nat_lit 9594612774738495811777) (.ofNat (nat_lit 2)) (cons (nat_lit 9594612778999136661696) (.ofNat (nat_lit 2)) (cons (nat_lit 9594613047352937693314) (.ofNat (nat_lit 3)) (cons (nat_lit 9594613047419510206594) (.ofNat (nat_lit 6)) (cons (nat_lit 9594613051680151056513) (.ofNat (nat_lit 8)) (cons (nat_lit 9594613324361165451330) (.ofNat (nat_lit 9)) (cons (nat_lit 9594630775946086719619) (.ofNat (nat_lit 6)) (cons (nat_lit 9594630780206727569538) (.ofNat (nat_lit 6)) (cons (nat_lit 9595765687518933299395) (.ofNat (nat_lit 5)) (cons (nat_lit 9595765691779574149314) (.ofNat (nat_lit 9)) (cons (nat_lit 9595765964460588544131) (.ofNat (nat_lit 9)) (cons (nat_lit 9666094185033404788865) (.ofNat (nat_lit 2)) (cons (nat_lit 9666094457714419183682) (.ofNat (nat_lit 2)) (cons (nat_lit 9666094461975060033601) (.ofNat (nat_lit 1)) (cons (nat_lit 9666111909299340451971) (.ofNat (nat_lit 1)) (cons (nat_lit 9667246825132827881666) (.ofNat (nat_lit 4)) (cons (nat_lit 9667247097813842276483) (.ofNat (nat_lit 4)) (cons (nat_lit 9667247102074483126402) (.ofNat (nat_lit 3)) (cons (nat_lit 14168270951860086251520) (.ofNat (nat_lit 1)) (cons (nat_lit 14168288680386662764545) (.ofNat (nat_lit 1)) (cons (nat_lit 14169405586424705073280) (.ofNat (nat_lit 1)) (cons (nat_lit 14169405863432932831296) (.ofNat (nat_lit 2)) (cons (nat_lit 14169423591959509344321) (.ofNat (nat_lit 2)) (cons (nat_lit 14170558222195874607362) (.ofNat (nat_lit 1)) (cons (nat_lit 14170558226524128166081) (.ofNat (nat_lit 2)) (cons (nat_lit 14170558503532355924097) (.ofNat (nat_lit 3)) (cons (nat_lit 14170576232058932437122) (.ofNat (nat_lit 7)) (cons (nat_lit 14171711143631779016898) (.ofNat (nat_lit 4)) (cons (nat_lit 14240886996719614050368) (.ofNat (nat_lit 1)) (cons (nat_lit 14240887273727841808384) (.ofNat (nat_lit 1)) (cons (nat_lit 14240905002254418321409) (.ofNat (nat_lit 1)) (cons (nat_lit 14242039359809769189633) (.ofNat (nat_lit 1)) (cons (nat_lit 14242039364138022748352) (.ofNat (nat_lit 1)) (cons (nat_lit 14242039636819037143169) (.ofNat (nat_lit 2)) (cons (nat_lit 14242039641146250506368) (.ofNat (nat_lit 2)) (cons (nat_lit 14242039913827264901185) (.ofNat (nat_lit 5)) (cons (nat_lit 14242057365412186169474) (.ofNat (nat_lit 2)) (cons (nat_lit 14242057369672827019393) (.ofNat (nat_lit 2)) (cons (nat_lit 14243192276918460235970) (.ofNat (nat_lit 1)) (cons (nat_lit 14243192276985032749250) (.ofNat (nat_lit 2)) (cons (nat_lit 14243192281245673599169) (.ofNat (nat_lit 3)) (cons (nat_lit 14243192553926687993986) (.ofNat (nat_lit 11)) (cons (nat_lit 14244345194026111086787) (.ofNat (nat_lit 6)) (cons (nat_lit 14314673687279941726338) (.ofNat (nat_lit 2)) (cons (nat_lit 14314673691540582576257) (.ofNat (nat_lit 2)) (cons (nat_lit 14315826327379364819139) (.ofNat (nat_lit 2)) (cons (nat_lit 14315826331640005669058) (.ofNat (nat_lit 3)) (cons (nat_lit 18889484231819940864065) (.ofNat (nat_lit 1)) (cons (nat_lit 18890619143392787443841) (.ofNat (nat_lit 2)) (cons (nat_lit 18891771783492210536642) (.ofNat (nat_lit 3)) (cons (nat_lit 18963252921106105118913) (.ofNat (nat_lit 1)) (nil)))))))))))))))))))))))))))))))))))))))))))))))))))))))))))))))))))))))))))))))))))))))))))))))))))))))))))))))))))))))))))))))))))))))))))))))))))))))))))))))))))
open Pol in
noncomputable def qS7_17 : Pol := cons (nat_lit 8124493799767408707) (.ofNat (nat_lit 1)) (cons (nat_lit 79605627153021141059) (.ofNat (nat_lit 3)) (cons (nat_lit 80740815667522965571) (.ofNat (nat_lit 3)) (cons (nat_lit 80758548588941803650) (.ofNat (nat_lit 1)) (cons (nat_lit 151086760506274873411) (.ofNat (nat_lit 3)) (cons (nat_lit 152221949020776697923) (.ofNat (nat_lit 6)) (cons (nat_lit 152239681942195536002) (.ofNat (nat_lit 3)) (cons (nat_lit 153357137535278522435) (.ofNat (nat_lit 3)) (cons (nat_lit 155662703465448349826) (.ofNat (nat_lit 3)) (cons (nat_lit 222567893859528605763) (.ofNat (nat_lit 1)) (cons (nat_lit 223703082374030430275) (.ofNat (nat_lit 3)) (cons (nat_lit 223720815295449268354) (.ofNat (nat_lit 2)) (cons (nat_lit 223720819556090118273) (.ofNat (nat_lit 1)) (cons (nat_lit 224838270888532254787) (.ofNat (nat_lit 3)) (cons (nat_lit 225973459403034079299) (.ofNat (nat_lit 1)) (cons (nat_lit 226008925245855502402) (.ofNat (nat_lit 1)) (cons (nat_lit 227143836818702082178) (.ofNat (nat_lit 5)) (cons (nat_lit 227161565345278595203) (.ofNat (nat_lit 3)) (cons (nat_lit 228279025333203906690) (.ofNat (nat_lit 3)) (cons (nat_lit 228296481178766024898) (.ofNat (nat_lit 3)) (cons (nat_lit 297490058599109234754) (.ofNat (nat_lit 1)) (cons (nat_lit 298624970171955814530) (.ofNat (nat_lit 1)) (cons (nat_lit 298624974432596664449) (.ofNat (nat_lit 1)) (cons (nat_lit 298625247113611059266) (.ofNat (nat_lit 1)) (cons (nat_lit 298642698698532327555) (.ofNat (nat_lit 5)) (cons (nat_lit 298642702959173177474) (.ofNat (nat_lit 1)) (cons (nat_lit 299760158619885125762) (.ofNat (nat_lit 1)) (cons (nat_lit 299760158686457639042) (.ofNat (nat_lit 2)) (cons (nat_lit 299777614532019757250) (.ofNat (nat_lit 6)) (cons (nat_lit 299777887213034152067) (.ofNat (nat_lit 3)) (cons (nat_lit 300912803046521581762) (.ofNat (nat_lit 3)) (cons (nat_lit 370123832051786059907) (.ofNat (nat_lit 1)) (cons (nat_lit 370123836312426909826) (.ofNat (nat_lit 2)) (cons (nat_lit 371258747885273489602) (.ofNat (nat_lit 2)) (cons (nat_lit 371258752145914339521) (.ofNat (nat_lit 2)) (cons (nat_lit 371259020566287884419) (.ofNat (nat_lit 2)) (cons (nat_lit 371259024826928734338) (.ofNat (nat_lit 2)) (cons (nat_lit 372393936399775314114) (.ofNat (nat_lit 3)) (cons (nat_lit 372394209080789708931) (.ofNat (nat_lit 1)) (cons (nat_lit 442740158180182466690) (.ofNat (nat_lit 1)) (cons (nat_lit 443875074013669896385) (.ofNat (nat_lit 1)) (cons (nat_lit 443875346694684291202) (.ofNat (nat_lit 1)) (cons (nat_lit 4730472962408325320899) (.ofNat (nat_lit 3)) (cons (nat_lit 4730473243744806637634) (.ofNat (nat_lit 1)) (cons (nat_lit 4731608155317653217410) (.ofNat (nat_lit 3)) (cons (nat_lit 4798513626914029568002) (.ofNat (nat_lit 1)) (cons (nat_lit 4799648815428531392514) (.ofNat (nat_lit 1)) (cons (nat_lit 4801954095761579053251) (.ofNat (nat_lit 6)) (cons (nat_lit 4801954100022219903170) (.ofNat (nat_lit 3)) (cons (nat_lit 4801954377098060369986) (.ofNat (nat_lit 2)) (cons (nat_lit 4803089288670906949762) (.ofNat (nat_lit 6)) (cons (nat_lit 4803089292931547799681) (.ofNat (nat_lit 3)) (cons (nat_lit 4803089565612562194498) (.ofNat (nat_lit 5)) (cons (nat_lit 4803107017197483462787) (.ofNat (nat_lit 3)) (cons (nat_lit 4803107021458124312706) (.ofNat (nat_lit 1)) (cons (nat_lit 4804224477185408774274) (.ofNat (nat_lit 6)) (cons (nat_lit 4804241933030970892482) (.ofNat (nat_lit 3)) (cons (nat_lit 4804242205711985287299) (.ofNat (nat_lit 3)) (cons (nat_lit 4805377117284831867075) (.ofNat (nat_lit 6)) (cons (nat_lit 4869994760267283300354) (.ofNat (nat_lit 1)) (cons (nat_lit 4871129948781785124866) (.ofNat (nat_lit 2)) (cons (nat_lit 4872265137296286949378) (.ofNat (nat_lit 1)) (cons (nat_lit 4873435229114832785603) (.ofNat (nat_lit 3)) (cons (nat_lit 4873435233375473635522) (.ofNat (nat_lit 6)) (cons (nat_lit 4873435510451314102338) (.ofNat (nat_lit 1)) (cons (nat_lit 4873435514711954952257) (.ofNat (nat_lit 2)) (cons (nat_lit 4873453243238531465282) (.ofNat (nat_lit 1)) (cons (nat_lit 4874570422024160682114) (.ofNat (nat_lit 3)) (cons (nat_lit 4874570426284801532033) (.ofNat (nat_lit 4)) (cons (nat_lit 4874570430545442381952) (.ofNat (nat_lit 1)) (cons (nat_lit 4874570698965815926850) (.ofNat (nat_lit 8)) (cons (nat_lit 4874570703226456776769) (.ofNat (nat_lit 2)) (cons (nat_lit 4874588150550737195139) (.ofNat (nat_lit 6)) (cons (nat_lit 4874588154811378045058) (.ofNat (nat_lit 5)) (cons (nat_lit 4875705610472089993346) (.ofNat (nat_lit 3)) (cons (nat_lit 4875705610538662506626) (.ofNat (nat_lit 6)) (cons (nat_lit 4875705614799303356545) (.ofNat (nat_lit 5)) (cons (nat_lit 4875705887480317751362) (.ofNat (nat_lit 7)) (cons (nat_lit 4875723066384224624834) (.ofNat (nat_lit 5)) (cons (nat_lit 4875723070644865474753) (.ofNat (nat_lit 2)) (cons (nat_lit 4875723339065239019651) (.ofNat (nat_lit 12)) (cons (nat_lit 4875723343325879869570) (.ofNat (nat_lit 4)) (cons (nat_lit 4875741071852456382595) (.ofNat (nat_lit 3)) (cons (nat_lit 4876858250571513086147) (.ofNat (nat_lit 3)) (cons (nat_lit 4876858250638085599427) (.ofNat (nat_lit 6)) (cons (nat_lit 4876858254898726449346) (.ofNat (nat_lit 12)) (cons (nat_lit 4876858527579740844163) (.ofNat (nat_lit 6)) (cons (nat_lit 4876875979164662112452) (.ofNat (nat_lit 6)) (cons (nat_lit 4876875983425302962371) (.ofNat (nat_lit 6)) (cons (nat_lit 4878010894998149542147) (.ofNat (nat_lit 6)) (cons (nat_lit 4944916366728727367874) (.ofNat (nat_lit 2)) (cons (nat_lit 4944916370989368217793) (.ofNat (nat_lit 2)) (cons (nat_lit 4944934376591785197634) (.ofNat (nat_lit 2)) (cons (nat_lit 4946051832319069659202) (.ofNat (nat_lit 3)) (cons (nat_lit 4946051836579710509121) (.ofNat (nat_lit 3)) (cons (nat_lit 4946069283903990927491) (.ofNat (nat_lit 3)) (cons (nat_lit 4946069288164631777410) (.ofNat (nat_lit 5)) (cons (nat_lit 4946069292425272627329) (.ofNat (nat_lit 3)) (cons (nat_lit 4946069565106287022146) (.ofNat (nat_lit 2)) (cons (nat_lit 4947186748085984575617) (.ofNat (nat_lit 2)) (cons (nat_lit 4947186748152557088897) (.ofNat (nat_lit 2)) (cons (nat_lit 4947186752413197938816) (.ofNat (nat_lit 1)) (cons (nat_lit 4947187020766998970434) (.ofNat (nat_lit 3)) (cons (nat_lit 4947187020833571483714) (.ofNat (nat_lit 6)) (cons (nat_lit 4947187025094212333633) (.ofNat (nat_lit 2)) (cons (nat_lit 4947204199737478357186) (.ofNat (nat_lit 2)) (cons (nat_lit 4947204203998119207105) (.ofNat (nat_lit 2)) (cons (nat_lit 4947204472418492752003) (.ofNat (nat_lit 9)) (cons (nat_lit 4947204476679133601922) (.ofNat (nat_lit 13)) (cons (nat_lit 4947204753620788846658) (.negSucc (nat_lit 0)) (cons (nat_lit 4947222205205710114947) (.ofNat (nat_lit 6)) (cons (nat_lit 4948339388185407668418) (.ofNat (nat_lit 3)) (cons (nat_lit 4948339388251980181698) (.ofNat (nat_lit 10)) (cons (nat_lit 4948339392512621031617) (.ofNat (nat_lit 4)) (cons (nat_lit 4948339660866422063235) (.ofNat (nat_lit 3)) (cons (nat_lit 4948339660932994576515) (.ofNat (nat_lit 9)) (cons (nat_lit 4948339665193635426434) (.ofNat (nat_lit 6)) (cons (nat_lit 4948357112517915844804) (.ofNat (nat_lit 6)) (cons (nat_lit 4948357116778556694723) (.ofNat (nat_lit 18)) (cons (nat_lit 4948357393720211939459) (.ofNat (nat_lit 3)) (cons (nat_lit 4949492028351403274499) (.ofNat (nat_lit 6)) (cons (nat_lit 4949492032612044124418) (.ofNat (nat_lit 6)) (cons (nat_lit 4949492301032417669316) (.ofNat (nat_lit 3)) (cons (nat_lit 4949492305293058519235) (.ofNat (nat_lit 9)) (cons (nat_lit 5017550698459540754498) (.ofNat (nat_lit 1)) (cons (nat_lit 5018685610032387334274) (.ofNat (nat_lit 5)) (cons (nat_lit 5018685614293028184193) (.ofNat (nat_lit 4)) (cons (nat_lit 5018703338558963847299) (.ofNat (nat_lit 2)) (cons (nat_lit 5018703342819604697218) (.ofNat (nat_lit 2)) (cons (nat_lit 5019820525865874763969) (.ofNat (nat_lit 3)) (cons (nat_lit 5019820798546889158786) (.ofNat (nat_lit 8)) (cons (nat_lit 5019821075488544403522) (.negSucc (nat_lit 0)) (cons (nat_lit 5019838250131810427075) (.ofNat (nat_lit 10)) (cons (nat_lit 5019838254392451276994) (.ofNat (nat_lit 4)) (cons (nat_lit 5019838527073465671811) (.ofNat (nat_lit 3)) (cons (nat_lit 5020973165965297856770) (.ofNat (nat_lit 6)) (cons (nat_lit 5020973438646312251587) (.ofNat (nat_lit 12)) (cons (nat_lit 5020973715587967496323) (.ofNat (nat_lit 1)) (cons (nat_lit 5091301936160783741057) (.ofNat (nat_lit 1)) (cons (nat_lit 5091319387745705009346) (.ofNat (nat_lit 2)) (cons (nat_lit 5091319664687360254082) (.ofNat (nat_lit 1)) (cons (nat_lit 5092454303579192439041) (.ofNat (nat_lit 2)) (cons (nat_lit 5092454576260206833858) (.ofNat (nat_lit 3)) (cons (nat_lit 9447093133421207355394) (.ofNat (nat_lit 1)) (cons (nat_lit 9450516155078661644353) (.ofNat (nat_lit 3)) (cons (nat_lit 9450533883605238157378) (.ofNat (nat_lit 2)) (cons (nat_lit 9451651066651508224129) (.ofNat (nat_lit 3)) (cons (nat_lit 9451668513841603420419) (.ofNat (nat_lit 3)) (cons (nat_lit 9451668795178084737154) (.ofNat (nat_lit 3)) (cons (nat_lit 9451686523704661250179) (.ofNat (nat_lit 7)) (cons (nat_lit 9452803706750931316930) (.ofNat (nat_lit 6)) (cons (nat_lit 9452821435277507829955) (.ofNat (nat_lit 3)) (cons (nat_lit 9518574266774461087746) (.ofNat (nat_lit 1)) (cons (nat_lit 9519709455288962912258) (.ofNat (nat_lit 1)) (cons (nat_lit 9520862376859068796929) (.ofNat (nat_lit 1)) (cons (nat_lit 9521997288431915376705) (.ofNat (nat_lit 4)) (cons (nat_lit 9521997292692556226624) (.ofNat (nat_lit 2)) (cons (nat_lit 9521997565373570621441) (.ofNat (nat_lit 2)) (cons (nat_lit 9522015016958491889730) (.ofNat (nat_lit 5)) (cons (nat_lit 9522015021219132739649) (.ofNat (nat_lit 2)) (cons (nat_lit 9523132199938189443201) (.ofNat (nat_lit 3)) (cons (nat_lit 9523132200004761956481) (.ofNat (nat_lit 3)) (cons (nat_lit 9523132204265402806400) (.ofNat (nat_lit 2)) (cons (nat_lit 9523132476946417201217) (.ofNat (nat_lit 7)) (cons (nat_lit 9523149647194857152771) (.ofNat (nat_lit 3)) (cons (nat_lit 9523149651455498002690) (.ofNat (nat_lit 3)) (cons (nat_lit 9523149928531338469506) (.ofNat (nat_lit 7)) (cons (nat_lit 9523149932791979319425) (.ofNat (nat_lit 3)) (cons (nat_lit 9523150205472993714242) (.ofNat (nat_lit 5)) (cons (nat_lit 9523167657057914982531) (.ofNat (nat_lit 14)) (cons (nat_lit 9523167661318555832450) (.ofNat (nat_lit 2)) (cons (nat_lit 9524284840037612536002) (.ofNat (nat_lit 6)) (cons (nat_lit 9524284840104185049282) (.ofNat (nat_lit 6)) (cons (nat_lit 9524284844364825899201) (.ofNat (nat_lit 8)) (cons (nat_lit 9524285117045840294018) (.ofNat (nat_lit 10)) (cons (nat_lit 9524302568630761562307) (.ofNat (nat_lit 12)) (cons (nat_lit 9524302572891402412226) (.ofNat (nat_lit 4)) (cons (nat_lit 9524302845572416807043) (.ofNat (nat_lit 16)) (cons (nat_lit 9525437480137035628803) (.ofNat (nat_lit 3)) (cons (nat_lit 9525437484464248992002) (.ofNat (nat_lit 6)) (cons (nat_lit 9525437757145263386819) (.ofNat (nat_lit 9)) (cons (nat_lit 9525455485671839899844) (.ofNat (nat_lit 9)) (cons (nat_lit 9526590397244686479620) (.ofNat (nat_lit 6)) (cons (nat_lit 9593478698726824353793) (.ofNat (nat_lit 2)) (cons (nat_lit 9593496150311745622082) (.ofNat (nat_lit 4)) (cons (nat_lit 9593496154572386472001) (.ofNat (nat_lit 3)) (cons (nat_lit 9593513883098962985026) (.ofNat (nat_lit 2)) (cons (nat_lit 9594613337552084025472) (.ofNat (nat_lit 1)) (cons (nat_lit 9594613610233098420289) (.ofNat (nat_lit 3)) (cons (nat_lit 9594613610299670933569) (.ofNat (nat_lit 3)) (cons (nat_lit 9594613614560311783488) (.ofNat (nat_lit 2)) (cons (nat_lit 9594613887241326178305) (.ofNat (nat_lit 2)) (cons (nat_lit 9594630784808751735042) (.ofNat (nat_lit 3)) (cons (nat_lit 9594631061884592201858) (.ofNat (nat_lit 3)) (cons (nat_lit 9594631066145233051777) (.ofNat (nat_lit 6)) (cons (nat_lit 9594631338826247446594) (.ofNat (nat_lit 8)) (cons (nat_lit 9594631343086888296513) (.ofNat (nat_lit 2)) (cons (nat_lit 9594648790411168714883) (.ofNat (nat_lit 8)) (cons (nat_lit 9594648794671809564802) (.ofNat (nat_lit 6)) (cons (nat_lit 9594649071613464809538) (.negSucc (nat_lit 0)) (cons (nat_lit 9595765977651507118273) (.ofNat (nat_lit 4)) (cons (nat_lit 9595765977718079631553) (.ofNat (nat_lit 5)) (cons (nat_lit 9595765981978720481472) (.ofNat (nat_lit 2)) (cons (nat_lit 9595766250332521513090) (.ofNat (nat_lit 6)) (cons (nat_lit 9595766250399094026370) (.ofNat (nat_lit 9)) (cons (nat_lit 9595766254659734876289) (.ofNat (nat_lit 8)) (cons (nat_lit 9595766527340749271106) (.ofNat (nat_lit 4)) (cons (nat_lit 9595783701984015294659) (.ofNat (nat_lit 9)) (cons (nat_lit 9595783706244656144578) (.ofNat (nat_lit 12)) (cons (nat_lit 9595783978925670539395) (.ofNat (nat_lit 20)) (cons (nat_lit 9595783983186311389314) (.ofNat (nat_lit 5)) (cons (nat_lit 9596918617750930211074) (.ofNat (nat_lit 3)) (cons (nat_lit 9596918617817502724354) (.ofNat (nat_lit 5)) (cons (nat_lit 9596918622078143574273) (.ofNat (nat_lit 4)) (cons (nat_lit 9596918890431944605891) (.ofNat (nat_lit 3)) (cons (nat_lit 9596918890498517119171) (.ofNat (nat_lit 15)) (cons (nat_lit 9596918894759157969090) (.ofNat (nat_lit 12)) (cons (nat_lit 9596919167440172363907) (.ofNat (nat_lit 12)) (cons (nat_lit 9596936619025093632196) (.ofNat (nat_lit 12)) (cons (nat_lit 9596936623285734482115) (.ofNat (nat_lit 6)) (cons (nat_lit 9598071530597940211972) (.ofNat (nat_lit 9)) (cons (nat_lit 9598071534858581061891) (.ofNat (nat_lit 9)) (cons (nat_lit 9598071807539595456708) (.ofNat (nat_lit 9)) (cons (nat_lit 9666111922422646317313) (.ofNat (nat_lit 1)) (cons (nat_lit 9666112476440142028865) (.ofNat (nat_lit 2)) (cons (nat_lit 9666129928025063297154) (.ofNat (nat_lit 2)) (cons (nat_lit 9666130204966718541890) (.ofNat (nat_lit 1)) (cons (nat_lit 9667247388012988608641) (.ofNat (nat_lit 4)) (cons (nat_lit 9667264839597909876930) (.ofNat (nat_lit 4)) (cons (nat_lit 9667264843858550726849) (.ofNat (nat_lit 4)) (cons (nat_lit 9667265112278924271747) (.ofNat (nat_lit 3)) (cons (nat_lit 9667265116539565121666) (.ofNat (nat_lit 8)) (cons (nat_lit 9667265393481220366402) (.negSucc (nat_lit 0)) (cons (nat_lit 9668399755431397306625) (.ofNat (nat_lit 2)) (cons (nat_lit 9668400028112411701442) (.ofNat (nat_lit 14)) (cons (nat_lit 9668400300793426096259) (.ofNat (nat_lit 6)) (cons (nat_lit 9668400305054066946178) (.ofNat (nat_lit 3)) (cons (nat_lit 9668417752378347364548) (.ofNat (nat_lit 3)) (cons (nat_lit 9668417756638988214467) (.ofNat (nat_lit 6)) (cons (nat_lit 9669552668211834794243) (.ofNat (nat_lit 12)) (cons (nat_lit 9669552940892849189060) (.ofNat (nat_lit 6)) (cons (nat_lit 9669552945153490038979) (.ofNat (nat_lit 3)) (cons (nat_lit 9739881165726306283713) (.ofNat (nat_lit 2)) (cons (nat_lit 9739898894252882796738) (.ofNat (nat_lit 2)) (cons (nat_lit 9741033805825729376514) (.ofNat (nat_lit 3)) (cons (nat_lit 14169424154839670071296) (.ofNat (nat_lit 1)) (cons (nat_lit 14169441883366246584321) (.ofNat (nat_lit 2)) (cons (nat_lit 14170558789404288893056) (.ofNat (nat_lit 1)) (cons (nat_lit 14170559066412516651072) (.ofNat (nat_lit 2)) (cons (nat_lit 14170576794939093164097) (.ofNat (nat_lit 3)) (cons (nat_lit 14170594523465669677122) (.ofNat (nat_lit 2)) (cons (nat_lit 14171711429503711985857) (.ofNat (nat_lit 3)) (cons (nat_lit 14171711706511939743873) (.ofNat (nat_lit 4)) (cons (nat_lit 14171729435038516256898) (.ofNat (nat_lit 10)) (cons (nat_lit 14171747163565092769923) (.negSucc (nat_lit 0)) (cons (nat_lit 14172864065274881519939) (.ofNat (nat_lit 1)) (cons (nat_lit 14172864069603135078658) (.ofNat (nat_lit 3)) (cons (nat_lit 14172864346611362836674) (.ofNat (nat_lit 5)) (cons (nat_lit 14172882075137939349699) (.ofNat (nat_lit 11)) (cons (nat_lit 14174016986710785929475) (.ofNat (nat_lit 6)) (cons (nat_lit 14240923016719500316673) (.ofNat (nat_lit 1)) (cons (nat_lit 14242040199699197870144) (.ofNat (nat_lit 1)) (cons (nat_lit 14242040476707425628160) (.ofNat (nat_lit 1)) (cons (nat_lit 14242057928292346896449) (.ofNat (nat_lit 2)) (cons (nat_lit 14242058205234002141185) (.ofNat (nat_lit 2)) (cons (nat_lit 14242075656818923409474) (.ofNat (nat_lit 5)) (cons (nat_lit 14243192567117606568128) (.ofNat (nat_lit 1)) (cons (nat_lit 14243192839798620962945) (.ofNat (nat_lit 3)) (cons (nat_lit 14243192839865193476225) (.ofNat (nat_lit 1)) (cons (nat_lit 14243192844125834326144) (.ofNat (nat_lit 2)) (cons (nat_lit 14243193116806848720961) (.ofNat (nat_lit 3)) (cons (nat_lit 14243210568391769989250) (.ofNat (nat_lit 11)) (cons (nat_lit 14243210572652410839169) (.ofNat (nat_lit 4)) (cons (nat_lit 14243210845333425233986) (.ofNat (nat_lit 6)) (cons (nat_lit 14243228296918346502275) (.ofNat (nat_lit 1)) (cons (nat_lit 14244345202888776102210) (.ofNat (nat_lit 1)) (cons (nat_lit 14244345207217029660929) (.ofNat (nat_lit 2)) (cons (nat_lit 14244345479898044055746) (.ofNat (nat_lit 3)) (cons (nat_lit 14244345479964616569026) (.ofNat (nat_lit 6)) (cons (nat_lit 14244345484225257418945) (.ofNat (nat_lit 4)) (cons (nat_lit 14244345756906271813762) (.ofNat (nat_lit 13)) (cons (nat_lit 14244363208491193082051) (.ofNat (nat_lit 12)) (cons (nat_lit 14244363212751833931970) (.ofNat (nat_lit 6)) (cons (nat_lit 14244363485432848326787) (.ofNat (nat_lit 1)) (cons (nat_lit 14245498119997467148547) (.ofNat (nat_lit 1)) (cons (nat_lit 14245498120064039661827) (.ofNat (nat_lit 9)) (cons (nat_lit 14245498124324680511746) (.ofNat (nat_lit 5)) (cons (nat_lit 14245498397005694906563) (.ofNat (nat_lit 17)) (cons (nat_lit 14246651037105117999364) (.ofNat (nat_lit 6)) (cons (nat_lit 14314691706005664571521) (.ofNat (nat_lit 2)) (cons (nat_lit 14314691978686678966338) (.ofNat (nat_lit 2)) (cons (nat_lit 14314709434532241084546) (.ofNat (nat_lit 2)) (cons (nat_lit 14315826617578511151297) (.ofNat (nat_lit 2)) (cons (nat_lit 14315826890259525546114) (.ofNat (nat_lit 3)) (cons (nat_lit 14315826894520166396033) (.ofNat (nat_lit 2)) (cons (nat_lit 14315827167201180790850) (.ofNat (nat_lit 2)) (cons (nat_lit 14315844346105087664322) (.ofNat (nat_lit 6)) (cons (nat_lit 14315844618786102059139) (.ofNat (nat_lit 2)) (cons (nat_lit 14316979257677934244098) (.ofNat (nat_lit 6)) (cons (nat_lit 14316979530358948638915) (.ofNat (nat_lit 6)) (cons (nat_lit 14316979534619589488834) (.ofNat (nat_lit 6)) (cons (nat_lit 14316979807300603883651) (.ofNat (nat_lit 2)) (cons (nat_lit 14318132170458371731716) (.ofNat (nat_lit 3)) (cons (nat_lit 14318132174719012581635) (.ofNat (nat_lit 3)) (cons (nat_lit 14388460395291828826369) (.ofNat (nat_lit 1)) (cons (nat_lit 18890637434799524683841) (.ofNat (nat_lit 2)) (cons (nat_lit 18890655163326101196866) (.ofNat (nat_lit 2)) (cons (nat_lit 18891772346372371263617) (.ofNat (nat_lit 3)) (cons (nat_lit 18891790074898947776642) (.ofNat (nat_lit 2)) (cons (nat_lit 18891807803425524289667) (.ofNat (nat_lit 2)) (cons (nat_lit 18892924986471794356418) (.ofNat (nat_lit 7)) (cons (nat_lit 18894077626571217449219) (.ofNat (nat_lit 5)) (cons (nat_lit 18963253756667280240705) (.ofNat (nat_lit 1)) (cons (nat_lit 18963271485193856753730) (.ofNat (nat_lit 1)) (cons (nat_lit 18963288936778778022019) (.ofNat (nat_lit 1)) (cons (nat_lit 18964406124085688938689) (.ofNat (nat_lit 2)) (cons (nat_lit 18964406396766703333506) (.ofNat (nat_lit 2)) (cons (nat_lit 18964424125293279846531) (.ofNat (nat_lit 2)) (cons (nat_lit 18965558764185112031490) (.ofNat (nat_lit 3)) (cons (nat_lit 18965559036866126426307) (.ofNat (nat_lit 1)) (cons (nat_lit 23611850714759379296386) (.ofNat (nat_lit 1)) (cons (nat_lit 23613003354858802389187) (.ofNat (nat_lit 1)) (nil))))))))))))))))))))))))))))))))))))))))))))))))))))))))))))))))))))))))))))))))))))))))))))))))))))))))))))))))))))))))))))))))))))))))))))))))))))))))))))))))))))))))))))))))))))))))))))))))))))))))))))))))))))))))))))))))))))))))))))))))))))))))))))))))))))))))))))))))))))))))))))))))))))))))))))))))))))))))))))))))))
noncomputable def rS7_3 : List Rl := [⟨nat_lit 18014398509481984, [nat_lit 1153202979583819776, nat_lit 73786980692901494848, nat_lit 4722366482939438432321], fun m => Nat.blt 1 (Nat.add (Nat.mod (Nat.div m (nat_lit 4096)) 64) (Nat.mod (Nat.div m (nat_lit 18014398509481984)) 64))⟩, ⟨nat_lit 281474976710656, [nat_lit 1152925902653362176, nat_lit 73786976363557945345, nat_lit 4722366482870735732737], fun m => Nat.blt 1 (Nat.add (Nat.add (Nat.mod (Nat.div m (nat_lit 64)) 64) (Nat.mod (Nat.div m (nat_lit 281474976710656)) 64)) (Nat.mod (Nat.div m (nat_lit 18014398509481984)) 64))⟩, ⟨nat_lit 4398046511104, [nat_lit 1152921573326323776, nat_lit 73786976295911952384, nat_lit 4722366482869662253056], fun m => Nat.blt 1 (Nat.add (Nat.add (Nat.add (Nat.mod m 64) (Nat.mod (Nat.div m (nat_lit 4398046511104)) 64)) (Nat.mod (Nat.div m (nat_lit 281474976710656)) 64)) (Nat.mod (Nat.div m (nat_lit 18014398509481984)) 64))⟩]
noncomputable def rS7_4 : List Rl := [⟨nat_lit 18014398509481984, [nat_lit 1153202979583819776, nat_lit 73786980692901494848, nat_lit 4722366482939438432321], fun m => Nat.blt 1 (Nat.add (Nat.mod (Nat.div m (nat_lit 4096)) 64) (Nat.mod (Nat.div m (nat_lit 18014398509481984)) 64))⟩, ⟨nat_lit 281474976710656, [nat_lit 1152925902653362176, nat_lit 73786976363557945345, nat_lit 4722366482870735732737], fun m => Nat.blt 1 (Nat.add (Nat.add (Nat.mod (Nat.div m (nat_lit 64)) 64) (Nat.mod (Nat.div m (nat_lit 281474976710656)) 64)) (Nat.mod (Nat.div m (nat_lit 18014398509481984)) 64))⟩, ⟨nat_lit 4398046511104, [nat_lit 1152921573326323776, nat_lit 73786976295911952384, nat_lit 4722366482869662253056], fun m => Nat.blt 2 (Nat.add (Nat.add (Nat.add (Nat.mod m 64) (Nat.mod (Nat.div m (nat_lit 4398046511104)) 64)) (Nat.mod (Nat.div m (nat_lit 281474976710656)) 64)) (Nat.mod (Nat.div m (nat_lit 18014398509481984)) 64))⟩]
noncomputable def rS7_5 : List Rl := [⟨nat_lit 18014398509481984, [nat_lit 1153202979583819776, nat_lit 73786980692901494848, nat_lit 4722366482939438432321], fun m => Nat.blt 1 (Nat.add (Nat.mod (Nat.div m (nat_lit 4096)) 64) (Nat.mod (Nat.div m (nat_lit 18014398509481984)) 64))⟩, ⟨nat_lit 281474976710656, [nat_lit 1152925902653362176, nat_lit 73786976363557945345, nat_lit 4722366482870735732737], fun m => Nat.blt 2 (Nat.add (Nat.add (Nat.mod (Nat.div m (nat_lit 64)) 64) (Nat.mod (Nat.div m (nat_lit 281474976710656)) 64)) (Nat.mod (Nat.div m (nat_lit 18014398509481984)) 64))⟩, ⟨nat_lit 4398046511104, [nat_lit 1152921573326323776, nat_lit 73786976295911952384, nat_lit 4722366482869662253056], fun m => Nat.blt 2 (Nat.add (Nat.add (Nat.add (Nat.mod m 64) (Nat.mod (Nat.div m (nat_lit 4398046511104)) 64)) (Nat.mod (Nat.div m (nat_lit 281474976710656)) 64)) (Nat.mod (Nat.div m (nat_lit 18014398509481984)) 64))⟩]
noncomputable def rS7_6 : List Rl := [⟨nat_lit 18014398509481984, [nat_lit 1153202979583819776, nat_lit 73786980692901494848, nat_lit 4722366482939438432321], fun m => Nat.blt 2 (Nat.add (Nat.mod (Nat.div m (nat_lit 4096)) 64) (Nat.mod (Nat.div m (nat_lit 18014398509481984)) 64))⟩, ⟨nat_lit 281474976710656, [nat_lit 1152925902653362176, nat_lit 73786976363557945345, nat_lit 4722366482870735732737], fun m => Nat.blt 2 (Nat.add (Nat.add (Nat.mod (Nat.div m (nat_lit 64)) 64) (Nat.mod (Nat.div m (nat_lit 281474976710656)) 64)) (Nat.mod (Nat.div m (nat_lit 18014398509481984)) 64))⟩, ⟨nat_lit 4398046511104, [nat_lit 1152921573326323776, nat_lit 73786976295911952384, nat_lit 4722366482869662253056], fun m => Nat.blt 3 (Nat.add (Nat.add (Nat.add (Nat.mod m 64) (Nat.mod (Nat.div m (nat_lit 4398046511104)) 64)) (Nat.mod (Nat.div m (nat_lit 281474976710656)) 64)) (Nat.mod (Nat.div m (nat_lit 18014398509481984)) 64))⟩]
noncomputable def rS7_7 : List Rl := [⟨nat_lit 18014398509481984, [nat_lit 1153202979583819776, nat_lit 73786980692901494848, nat_lit 4722366482939438432321], fun m => Nat.blt 2 (Nat.add (Nat.mod (Nat.div m (nat_lit 4096)) 64) (Nat.mod (Nat.div m (nat_lit 18014398509481984)) 64))⟩, ⟨nat_lit 281474976710656, [nat_lit 1152925902653362176, nat_lit 73786976363557945345, nat_lit 4722366482870735732737], fun m => Nat.blt 3 (Nat.add (Nat.add (Nat.mod (Nat.div m (nat_lit 64)) 64) (Nat.mod (Nat.div m (nat_lit 281474976710656)) 64)) (Nat.mod (Nat.div m (nat_lit 18014398509481984)) 64))⟩, ⟨nat_lit 4398046511104, [nat_lit 1152921573326323776, nat_lit 73786976295911952384, nat_lit 4722366482869662253056], fun m => Nat.blt 4 (Nat.add (Nat.add (Nat.add (Nat.mod m 64) (Nat.mod (Nat.div m (nat_lit 4398046511104)) 64)) (Nat.mod (Nat.div m (nat_lit 281474976710656)) 64)) (Nat.mod (Nat.div m (nat_lit 18014398509481984)) 64))⟩]
noncomputable def rS7_8 : List Rl := [⟨nat_lit 18014398509481984, [nat_lit 1153202979583819776, nat_lit 73786980692901494848, nat_lit 4722366482939438432321], fun m => Nat.blt 3 (Nat.add (Nat.mod (Nat.div m (nat_lit 4096)) 64) (Nat.mod (Nat.div m (nat_lit 18014398509481984)) 64))⟩, ⟨nat_lit 281474976710656, [nat_lit 1152925902653362176, nat_lit 73786976363557945345, nat_lit 4722366482870735732737], fun m => Nat.blt 4 (Nat.add (Nat.add (Nat.mod (Nat.div m (nat_lit 64)) 64) (Nat.mod (Nat.div m (nat_lit 281474976710656)) 64)) (Nat.mod (Nat.div m (nat_lit 18014398509481984)) 64))⟩, ⟨nat_lit 4398046511104, [nat_lit 1152921573326323776, nat_lit 73786976295911952384, nat_lit 4722366482869662253056], fun m => Nat.blt 4 (Nat.add (Nat.add (Nat.add (Nat.mod m 64) (Nat.mod (Nat.div m (nat_lit 4398046511104)) 64)) (Nat.mod (Nat.div m (nat_lit 281474976710656)) 64)) (Nat.mod (Nat.div m (nat_lit 18014398509481984)) 64))⟩]
noncomputable def rS7_9 : List Rl := [⟨nat_lit 18014398509481984, [nat_lit 1153202979583819776, nat_lit 73786980692901494848, nat_lit 4722366482939438432321], fun m => Nat.blt 4 (Nat.add (Nat.mod (Nat.div m (nat_lit 4096)) 64) (Nat.mod (Nat.div m (nat_lit 18014398509481984)) 64))⟩, ⟨nat_lit 281474976710656, [nat_lit 1152925902653362176, nat_lit 73786976363557945345, nat_lit 4722366482870735732737], fun m => Nat.blt 4 (Nat.add (Nat.add (Nat.mod (Nat.div m (nat_lit 64)) 64) (Nat.mod (Nat.div m (nat_lit 281474976710656)) 64)) (Nat.mod (Nat.div m (nat_lit 18014398509481984)) 64))⟩, ⟨nat_lit 4398046511104, [nat_lit 1152921573326323776, nat_lit 73786976295911952384, nat_lit 4722366482869662253056], fun m => Nat.blt 5 (Nat.add (Nat.add (Nat.add (Nat.mod m 64) (Nat.mod (Nat.div m (nat_lit 4398046511104)) 64)) (Nat.mod (Nat.div m (nat_lit 281474976710656)) 64)) (Nat.mod (Nat.div m (nat_lit 18014398509481984)) 64))⟩]
noncomputable def rS7_10 : List Rl := [⟨nat_lit 18014398509481984, [nat_lit 1153202979583819776, nat_lit 73786980692901494848, nat_lit 4722366482939438432321], fun m => Nat.blt 4 (Nat.add (Nat.mod (Nat.div m (nat_lit 4096)) 64) (Nat.mod (Nat.div m (nat_lit 18014398509481984)) 64))⟩, ⟨nat_lit 281474976710656, [nat_lit 1152925902653362176, nat_lit 73786976363557945345, nat_lit 4722366482870735732737], fun m => Nat.blt 5 (Nat.add (Nat.add (Nat.mod (Nat.div m (nat_lit 64)) 64) (Nat.mod (Nat.div m (nat_lit 281474976710656)) 64)) (Nat.mod (Nat.div m (nat_lit 18014398509481984)) 64))⟩, ⟨nat_lit 4398046511104, [nat_lit 1152921573326323776, nat_lit 73786976295911952384, nat_lit 4722366482869662253056], fun m => Nat.blt 6 (Nat.add (Nat.add (Nat.add (Nat.mod m 64) (Nat.mod (Nat.div m (nat_lit 4398046511104)) 64)) (Nat.mod (Nat.div m (nat_lit 281474976710656)) 64)) (Nat.mod (Nat.div m (nat_lit 18014398509481984)) 64))⟩]
noncomputable def fS7 : Fam := { n := 7, j := 3, ps := [1, 2, 3], D := [[-1, 0, 0, 0, 0, 0, 0], [0, -1, 0, 0, 0, 0, 0], [0, 0, -1, 0, 0, 0, 0], [0, 0, 0, -1, 0, 0, 0], [0, 0, 0, 0, -1, 0, 0], [0, 0, 0, 0, 0, -1, 0], [0, 0, 0, 0, 0, 0, -1], [1, 0, 0, 0, 0, 0, 0], [1, 1, 0, 0, 0, 0, 0], [1, 1, 1, 0, 0, 0, 0], [1, 1, 1, 1, 0, 0, 0], [2, 1, 1, 1, 1, 0, 0], [2, 2, 1, 1, 1, 1, 0], [3, 2, 2, 1, 1, 1, 1], [3, 3, 2, 2, 1, 1, 1], [3, 3, 3, 2, 2, 1, 1], [4, 3, 3, 3, 2, 2, 1], [5, 4, 3, 3, 3, 2, 2]], mon := [[1152921573326323776, 73786976295911952384, 4722366482869662253056], [1152921504606851072, 73786976363557945345, 4722366482870735732737], [1152921504607109120, 73786976294854983744, 4722366482939438432321], [1152921504623624192, 73786976295911952384, 4722366482938364694592], [1152921505680588801, 73786976363557945345, 4722366482869645479936], [1152921573326323776, 73786976294854983744, 4722366482869662253056], [1152921504606851072, 73786976295911952384, 4722366482870735732737], [1152921504607109120, 73786976363557945345, 4722366482939438432321], [1152921504623624192, 73786976294854983744, 4722366482938364694592], [1152921505680588801, 73786976295911952384, 4722366482869645479936], [1152921573326323776, 73786976363557945345, 4722366482869662253056]], Q := [qS7_10, qS7_11, qS7_12, qS7_13, qS7_14, qS7_15, qS7_16, qS7_17], rl := [rS7_3, rS7_4, rS7_5, rS7_6, rS7_7, rS7_8, rS7_9, rS7_10], b := [0, 0, 0, 0, 0, 0, 0, 18, 32, 46, 60, 78, 96, 128, 174, 234, 312, 408], w := [[16, 16, 16], [12, 20, 20], [12, 16, 24], [12, 16, 20], [16, 20, 16], [16, 16, 16], [12, 16, 20], [12, 20, 24], [12, 16, 20], [16, 16, 16], [16, 20, 16]] }
theorem okS7 : fS7.okB = true := by decide +kernel
theorem cS7_3 : fS7.chkK 3 = true := by decide +kernel
theorem cS7_4 : fS7.chkK 4 = true := by decide +kernel
theorem cS7_5 : fS7.chkK 5 = true := by decide +kernel
theorem cS7_6 : fS7.chkK 6 = true := by decide +kernel
theorem cS7_7 : fS7.chkK 7 = true := by decide +kernel
theorem cS7_8 : fS7.chkK 8 = true := by decide +kernel
theorem cS7_9 : fS7.chkK 9 = true := by decide +kernel
theorem cS7_10 : fS7.chkK 10 = true := by decide +kernel
theorem chS7 : ∀ k, k < fS7.n + 4 → fS7.chkK k = true :=
  show ∀ k, k < 11 → fS7.chkK k = true from ltS (cS7_10) (ltS (cS7_9) (ltS (cS7_8) (ltS (cS7_7) (ltS (cS7_6) (ltS (cS7_5) (ltS (cS7_4) (ltS (cS7_3) (ltS (rfl) (ltS (rfl) (ltS (rfl) lt0))))))))))
end
/-- a monomial, packed -/
noncomputable def pk : List Nat → Nat
  | [] => 0
  | e :: r => e + 64 * pk r
noncomputable def sumE (l : List Int) : Nat → Nat
  | 0 => 0
  | i + 1 => sumE l i + (l.getD i 0).toNat
noncomputable def prodE : List Int → List Nat → Int
  | x :: d, e :: es => x ^ e * prodE d es
  | _, _ => 1
theorem pk_lt : ∀ {es : List Nat}, (∀ e ∈ es, e < 64) → pk es < 64 ^ es.length
  | [], _ => by show 0 < 64 ^ 0; decide
  | e :: r, h => by
    have h1 := h e (List.mem_cons_self ..)
    have h2 := pk_lt (es := r) fun x hx => h x (List.mem_cons_of_mem _ hx)
    rw [pk, List.length_cons, Nat.pow_succ]
    omega
theorem evM_pk : ∀ {d r : List Int} {es : List Nat}, es.length ≤ d.length → (∀ e ∈ es, e < 64) → evM (d ++ r) (pk es) = prodE d es
  | [], r, [], _, _ => evM_zero _
  | x :: d, r, [], _, _ => evM_zero _
  | [], _, _ :: _, h, _ => absurd h (Nat.not_succ_le_zero _)
  | x :: d, r, e :: es, h, h2 => by
    have h1 := h2 e (List.mem_cons_self ..)
    rw [List.cons_append, evM, pk, show (e + 64 * pk es) % 64 = e by omega, show (e + 64 * pk es) / 64 = pk es by omega, evM_pk (Nat.le_of_succ_le_succ h) fun y hy => h2 y (List.mem_cons_of_mem _ hy)]
    rfl
theorem prodF_cons (x e : Int) (d l : List Int) : ∀ i, prodF (x :: d) (e :: l) (i + 1) = x ^ e.toNat * prodF d l i
  | 0 => by show 1 * x ^ e.toNat = x ^ e.toNat * 1; rw [Int.one_mul, Int.mul_one]
  | i + 1 => by
    show prodF (x :: d) (e :: l) (i + 1) * d.getD i 0 ^ (l.getD i 0).toNat = x ^ e.toNat * (prodF d l i * d.getD i 0 ^ (l.getD i 0).toNat)
    rw [prodF_cons x e d l i, Int.mul_assoc]
theorem prodE_F : ∀ {d l : List Int}, l.length = d.length → prodE d (l.map Int.toNat) = prodF d l d.length
  | [], [], _ => rfl
  | x :: d, e :: l, h => by
    rw [List.length_cons, prodF_cons, ← prodE_F (Nat.succ.inj h)]; rfl
theorem pow_le_16 {x : Int} (h : 1 ≤ x ∧ x ≤ 9) : ∀ e : Nat, 1 ≤ x ^ e ∧ x ^ e ≤ 2 ^ (4 * e)
  | 0 => by simp
  | e + 1 => by
    have ih := pow_le_16 h e
    have h1 : 0 < x ^ e * x := Int.mul_pos (by omega) (by omega)
    have h2 : x ^ e * x ≤ 2 ^ (4 * e) * 16 := Int.mul_le_mul ih.2 (by omega) (by omega) (by omega)
    rw [Int.pow_succ, show 4 * (e + 1) = 4 * e + 4 by omega, Int.pow_add]
    exact ⟨by omega, h2⟩
theorem prodF_bnd {d l : List Int} {n : Nat} (hd : ∀ i, i < n → 1 ≤ d.getD i 0 ∧ d.getD i 0 ≤ 9) : ∀ i, i ≤ n → 1 ≤ prodF d l i ∧ prodF d l i ≤ 2 ^ (4 * sumE l i)
  | 0, _ => by show (1 : Int) ≤ 1 ∧ (1 : Int) ≤ 2 ^ 0; decide
  | i + 1, h => by
    have ih := prodF_bnd (l := l) hd i (by omega)
    have h1 := pow_le_16 (hd i h) (l.getD i 0).toNat
    show 1 ≤ prodF d l i * d.getD i 0 ^ (l.getD i 0).toNat ∧ prodF d l i * d.getD i 0 ^ (l.getD i 0).toNat ≤ 2 ^ (4 * (sumE l i + (l.getD i 0).toNat))
    have h2 : 0 < prodF d l i * d.getD i 0 ^ (l.getD i 0).toNat := Int.mul_pos (by omega) (by omega)
    have h3 : prodF d l i * d.getD i 0 ^ (l.getD i 0).toNat ≤ 2 ^ (4 * sumE l i) * 2 ^ (4 * (l.getD i 0).toNat) := Int.mul_le_mul ih.2 h1.2 (by omega) (by omega)
    rw [Nat.mul_add, Int.pow_add]
    exact ⟨by omega, h3⟩
/-- sums of f over r places from c on -/
noncomputable def sumH (f : Nat → Int) : Nat → Nat → Int
  | 0, _ => 0
  | r + 1, c => f c + sumH f r (c + 1)
theorem sumH_congr {f g : Nat → Int} : ∀ (r c : Nat), (∀ i, c ≤ i → i < c + r → f i = g i) → sumH f r c = sumH g r c
  | 0, _, _ => rfl
  | r + 1, c, h => by rw [sumH, sumH, h c (Nat.le_refl _) (by omega), sumH_congr r (c + 1) fun i a b => h i (by omega) (by omega)]
theorem sumH_add (f g : Nat → Int) : ∀ r c, sumH (fun i => f i + g i) r c = sumH f r c + sumH g r c
  | 0, _ => rfl
  | r + 1, c => by rw [sumH, sumH, sumH, sumH_add f g r (c + 1)]; omega
theorem sumH_zero {f : Nat → Int} : ∀ (r c : Nat), (∀ i, c ≤ i → i < c + r → f i = 0) → sumH f r c = 0
  | 0, _, _ => rfl
  | r + 1, c, h => by rw [sumH, h c (Nat.le_refl _) (by omega), sumH_zero r (c + 1) fun i a b => h i (by omega) (by omega)]; rfl
theorem sumH_one {a : Int} {G : Nat → Int} {j : Nat} : ∀ (r c : Nat), c ≤ j → j < c + r → sumH (fun i => (if j = i then a else 0) * G i) r c = a * G j
  | 0, c, h1, h2 => absurd h2 (by omega)
  | r + 1, c, h1, h2 => by
    rw [sumH]
    by_cases e : j = c
    · rw [if_pos e, sumH_zero r (c + 1) fun i a b => by rw [if_neg (by omega), Int.zero_mul], e]; omega
    · rw [if_neg e, sumH_one r (c + 1) (by omega) (by omega)]; omega
namespace Fam
theorem dueN_H {F : Fam} {W N : Nat → Int} {k : Nat} : ∀ (l : List Nat) (c : Nat), (∀ i, i < l.length → l.getD i 0 = F.ps.getD (c + i) 0) → F.dueN W N k l c = sumH (fun i => W i * (N (F.n + k - F.ps.getD i 0) * N (k + F.ps.getD i 0))) l.length c
  | [], _, _ => rfl
  | p :: r, c, h => by
    have h0 := h 0 (Nat.succ_pos _)
    rw [List.getD_cons_zero, Nat.add_zero] at h0
    rw [List.length_cons, sumH, ← h0, ← dueN_H r (c + 1) fun i hi => by
      have := h (i + 1) (Nat.succ_lt_succ hi)
      rw [List.getD_cons_succ] at this
      rw [this, show c + (i + 1) = c + 1 + i by omega]]
    rfl
noncomputable def wt (F : Fam) (k c : Nat) : Nat := (F.w.getD k []).getD c 0
noncomputable def bt (F : Fam) (m : Nat) : Nat := F.b.getD m 0
noncomputable def bB (F : Fam) : Bool := Nat.ble F.ps.length 3 && ((List.range (2 * F.n + 4)).all (fun m => Nat.ble (F.bt m) 1399) && (List.range (F.n + 4)).all fun k => (List.range F.ps.length).all fun c => Nat.ble (F.wt k c + (F.bt (F.n + k - F.ps.getD c 0) + F.bt (k + F.ps.getD c 0)) + 2) (F.bt (F.n + k)))
noncomputable def partB (F : Fam) (cm : List Nat) (pp : List Int) (t : Nat) : Bool :=
  decide (cm.getD t 0 < F.ps.length) && (decide ((runsF pp 3).getD (2 * t) 0 = (F.ps.getD (cm.getD t 0) 0 : Nat) ∧ (runsF pp 3).getD (2 * t + 1) 0 = (F.n : Int) - (F.ps.getD (cm.getD t 0) 0 : Nat)) || decide ((runsF pp 3).getD (2 * t + 1) 0 = (F.ps.getD (cm.getD t 0) 0 : Nat) ∧ (runsF pp 3).getD (2 * t) 0 = (F.n : Int) - (F.ps.getD (cm.getD t 0) 0 : Nat)))
noncomputable def lackB (F : Fam) (cm : List Nat) (pp : List Int) (k t : Nat) : Bool :=
  decide ((lackRow (runsF pp 3) (F.D.take (F.n + k)) t).length = F.n) && ((lackRow (runsF pp 3) (F.D.take (F.n + k)) t).all (fun x => decide (0 ≤ x) && decide (x ≤ 15)) &&
    (decide (pk ((lackRow (runsF pp 3) (F.D.take (F.n + k)) t).map Int.toNat) + 64 ^ (F.n + F.j + cm.getD t 0) = F.mn k (cm.getD t 0)) && decide (4 * sumE (lackRow (runsF pp 3) (F.D.take (F.n + k)) t) F.n + 8 ≤ F.wt k (cm.getD t 0))))
noncomputable def turnB (F : Fam) (cm : List Nat) (pp : List Int) (k : Nat) : Bool :=
  decide (F.D.take (F.n + (k + 1)) = F.D.take (F.n + k) ++ [newDeg (runsF pp 3) (F.D.take (F.n + k))]) && (List.range 3).all (F.lackB cm pp k)
noncomputable def caseB (F : Fam) (cm : List Nat) (pp : List Int) : Bool :=
  decide (pp.sum = (F.n : Int)) && (decide (F.D.take F.n = degs0 F.n) && ((List.range 3).all (F.partB cm pp) && ((List.range F.ps.length).all (fun c => decide (c = cm.getD 0 0 ∨ c = cm.getD 1 0 ∨ c = cm.getD 2 0)) && (List.range (F.n + 4)).all (F.turnB cm pp))))
/-- what a case's check says -/
structure CaseOk (F : Fam) (cm : List Nat) (pp : List Int) : Prop where
  sum : pp.sum = (F.n : Int)
  deg : ∀ k, k ≤ F.n + 4 → degsK (runsF pp 3) F.n k = F.D.take (F.n + k)
  cls : ∀ t, t < 3 → cm.getD t 0 < F.ps.length
  prt : ∀ t, t < 3 → ((runsF pp 3).getD (2 * t) 0 = (F.ps.getD (cm.getD t 0) 0 : Nat) ∧ (runsF pp 3).getD (2 * t + 1) 0 = (F.n : Int) - (F.ps.getD (cm.getD t 0) 0 : Nat)) ∨ ((runsF pp 3).getD (2 * t + 1) 0 = (F.ps.getD (cm.getD t 0) 0 : Nat) ∧ (runsF pp 3).getD (2 * t) 0 = (F.n : Int) - (F.ps.getD (cm.getD t 0) 0 : Nat))
  hit : ∀ c, c < F.ps.length → c = cm.getD 0 0 ∨ c = cm.getD 1 0 ∨ c = cm.getD 2 0
  len : ∀ k, k < F.n + 4 → ∀ t, t < 3 → (lackRow (runsF pp 3) (degsK (runsF pp 3) F.n k) t).length = F.n
  bnd : ∀ k, k < F.n + 4 → ∀ t, t < 3 → ∀ x ∈ lackRow (runsF pp 3) (degsK (runsF pp 3) F.n k) t, 0 ≤ x ∧ x ≤ 15
  mon : ∀ k, k < F.n + 4 → ∀ t, t < 3 → pk ((lackRow (runsF pp 3) (degsK (runsF pp 3) F.n k) t).map Int.toNat) + 64 ^ (F.n + F.j + cm.getD t 0) = F.mn k (cm.getD t 0)
  wts : ∀ k, k < F.n + 4 → ∀ t, t < 3 → 4 * sumE (lackRow (runsF pp 3) (degsK (runsF pp 3) F.n k) t) F.n + 8 ≤ F.wt k (cm.getD t 0)
theorem caseOk {F : Fam} {cm : List Nat} {pp : List Int} (h : F.caseB cm pp = true) : CaseOk F cm pp := by
  unfold caseB at h
  simp only [Bool.and_eq_true] at h
  obtain ⟨h1, h2, h3, h4, h5⟩ := h
  have h1 := of_decide_eq_true h1
  have h2 := of_decide_eq_true h2
  have t3 : ∀ t, t < 3 → F.partB cm pp t = true := fun t ht => List.all_eq_true.mp h3 t (List.mem_range.mpr ht)
  have t5 : ∀ k, k < F.n + 4 → F.turnB cm pp k = true := fun t ht => List.all_eq_true.mp h5 t (List.mem_range.mpr ht)
  have hdeg : ∀ k, k ≤ F.n + 4 → degsK (runsF pp 3) F.n k = F.D.take (F.n + k) := fun k => by
    induction k with
    | zero => intro _; rw [Nat.add_zero, h2]; rfl
    | succ k ih =>
      intro hk
      have a := t5 k (by omega)
      unfold turnB at a
      rw [Bool.and_eq_true] at a
      rw [of_decide_eq_true a.1, ← ih (by omega)]; rfl
  have t6 : ∀ k, k < F.n + 4 → ∀ t, t < 3 → F.lackB cm pp k t = true := fun k hk t ht => by
    have a := t5 k hk
    unfold turnB at a
    rw [Bool.and_eq_true] at a
    exact List.all_eq_true.mp a.2 t (List.mem_range.mpr ht)
  unfold partB at t3
  unfold lackB at t6
  simp only [Bool.and_eq_true, Bool.or_eq_true, decide_eq_true_eq] at t3 t6
  refine ⟨h1, hdeg, fun t ht => (t3 t ht).1, fun t ht => (t3 t ht).2, fun c hc => of_decide_eq_true (List.all_eq_true.mp h4 c (List.mem_range.mpr hc)), ?_, ?_, ?_, ?_⟩
  · intro k hk t ht; rw [hdeg k (by omega)]; exact (t6 k hk t ht).1
  · intro k hk t ht x hx; rw [hdeg k (by omega)] at hx
    have := List.all_eq_true.mp (t6 k hk t ht).2.1 x hx
    rw [Bool.and_eq_true] at this
    exact ⟨of_decide_eq_true this.1, of_decide_eq_true this.2⟩
  · intro k hk t ht; rw [hdeg k (by omega)]; exact (t6 k hk t ht).2.2.1
  · intro k hk t ht; rw [hdeg k (by omega)]; exact (t6 k hk t ht).2.2.2
end Fam
theorem getD_l {a b : List Int} {i : Nat} (h : i < a.length) : (a ++ b).getD i 0 = a.getD i 0 := by
  rw [List.getD_eq_getElem?_getD, List.getElem?_append_left h, ← List.getD_eq_getElem?_getD]
theorem getD_r {a b : List Int} {i : Nat} (h : a.length ≤ i) : (a ++ b).getD i 0 = b.getD (i - a.length) 0 := by
  rw [List.getD_eq_getElem?_getD, List.getElem?_append_right h, ← List.getD_eq_getElem?_getD]
theorem rowK_get {nums drawn told : List Int} {bk : Int} {m k : Nat} (hm : m < bk.toNat + k) : ∀ j, (rowK nums drawn told bk (k + j)).getD m 0 = (rowK nums drawn told bk k).getD m 0
  | 0 => rfl
  | j + 1 => by
    rw [show k + (j + 1) = (k + j) + 1 by omega, rowK_succ, getD_l (by rw [rowK_len]; omega), rowK_get hm j]
theorem sumH_le {f : Nat → Int} {B : Int} : ∀ (r c : Nat), (∀ i, c ≤ i → i < c + r → 4 * f i ≤ B) → 4 * sumH f r c ≤ r * B
  | 0, _, _ => by rw [sumH]; simp
  | r + 1, c, h => by
    have h1 := h c (Nat.le_refl _) (by omega)
    have h2 := sumH_le (f := f) r (c + 1) fun i a b => h i (by omega) (by omega)
    rw [sumH, Int.natCast_succ, Int.add_mul, Int.one_mul]
    omega
theorem pow2_mono {a b : Nat} (h : a ≤ b) : (2 : Int) ^ a ≤ 2 ^ b := by
  have := Nat.pow_le_pow_right (n := 2) (by decide) h
  have e : ∀ c : Nat, (2 : Int) ^ c = ((2 ^ c : Nat) : Int) := fun c => by rw [Int.natCast_pow]; rfl
  rw [e, e]; exact Int.ofNat_le.mpr this
theorem abs2 {x : Int} {a b : Nat} (h1 : 1 ≤ x) (h2 : x ≤ 2 ^ a) (h : a < b) : x.natAbs < 2 ^ b := by
  have h3 := Nat.pow_lt_pow_right (a := 2) (by decide) h
  have e : (2 : Int) ^ a = ((2 ^ a : Nat) : Int) := by rw [Int.natCast_pow]; rfl
  rw [e] at h2
  omega
namespace Fam
section
variable {F : Fam} {cm : List Nat} {pp nums drawn : List Int}
/-- the row's numbers -/
noncomputable def NN (F : Fam) (pp nums drawn : List Int) (m : Nat) : Int := (rowK nums drawn (runsF pp 3) (F.n : Int) (F.n + 4)).getD m 0
noncomputable def UU (cm : List Nat) (nums : List Int) (c : Nat) : Int := ((if cm.getD 0 0 = c then nums.getD (2 * 0) 0 else 0) + (if cm.getD 1 0 = c then nums.getD (2 * 1) 0 else 0)) + (if cm.getD 2 0 = c then nums.getD (2 * 2) 0 else 0)
noncomputable def EE (F : Fam) (cm : List Nat) (pp nums drawn : List Int) : List Int := drawn ++ ((List.range F.j).map (fun i => F.NN pp nums drawn (F.n + i)) ++ (List.range F.ps.length).map (UU cm nums))
theorem NN_row {k m : Nat} (hk : k ≤ F.n + 4) (hm : m < F.n + k) : (rowK nums drawn (runsF pp 3) (F.n : Int) k).getD m 0 = F.NN pp nums drawn m := by
  unfold NN
  have := rowK_get (nums := nums) (drawn := drawn) (told := runsF pp 3) (bk := (F.n : Int)) (m := m) (k := k) (by rw [Int.toNat_natCast]; exact hm) (F.n + 4 - k)
  rw [show k + (F.n + 4 - k) = F.n + 4 by omega] at this
  exact this.symm
theorem NN_one {m : Nat} (hm : m < F.n) : F.NN pp nums drawn m = 1 := by
  rw [← NN_row (k := 0) (by omega) (by omega)]
  unfold rowK
  rw [Int.toNat_natCast, List.getD_eq_getElem?_getD, List.getElem?_replicate, if_pos hm]; rfl
theorem NN_q {k : Nat} (hk : k < F.n + 4) : F.NN pp nums drawn (F.n + k) = qK nums drawn (runsF pp 3) (F.n : Int) k := by
  rw [← NN_row (k := k + 1) (by omega) (by omega), rowK_succ, getD_r (by rw [rowK_len, Int.toNat_natCast]; exact Nat.le_refl _), rowK_len, Int.toNat_natCast, Nat.sub_self]; rfl
theorem pickNN {k : Nat} (hk : k ≤ F.n + 4) {x : Int} (h1 : 1 ≤ x) (h2 : x ≤ F.n) : pickF (rowK nums drawn (runsF pp 3) (F.n : Int) k) x = F.NN pp nums drawn (F.n + k - x.toNat) := by
  unfold pickF
  rw [rowK_len, Int.toNat_natCast, NN_row hk (by omega)]
theorem EE_len (hdl : drawn.length = F.n) : (F.EE cm pp nums drawn).length = F.n + F.j + F.ps.length := by
  unfold EE
  rw [List.length_append, List.length_append, List.length_map, List.length_map, List.length_range, List.length_range, hdl]; omega
theorem EE_z (hdl : drawn.length = F.n) {i : Nat} (hi : i < F.j) : (F.EE cm pp nums drawn).getD (F.n + i) 0 = F.NN pp nums drawn (F.n + i) := by
  unfold EE
  rw [getD_r (by omega), getD_l (by rw [List.length_map, List.length_range]; omega), hdl, show F.n + i - F.n = i by omega, rangeAt hi]
theorem EE_u (hdl : drawn.length = F.n) {c : Nat} (hc : c < F.ps.length) : (F.EE cm pp nums drawn).getD (F.n + F.j + c) 0 = UU cm nums c := by
  unfold EE
  rw [getD_r (by omega), getD_r (by rw [List.length_map, List.length_range]; omega), List.length_map, List.length_range, hdl, show F.n + F.j + c - F.n - F.j = c by omega, rangeAt hc]
variable (hc : CaseOk F cm pp) (hdl : drawn.length = F.n)
include hc hdl
theorem monE {k t : Nat} (hk : k < F.n + 4) (ht : t < 3) : evM (F.EE cm pp nums drawn) (F.mn k (cm.getD t 0)) = UU cm nums (cm.getD t 0) * prodF drawn (lackRow (runsF pp 3) (degsK (runsF pp 3) F.n k) t) F.n ∧
    evM (F.EE cm pp nums drawn) (F.mn k (cm.getD t 0) - 64 ^ (F.n + F.j + cm.getD t 0)) = prodF drawn (lackRow (runsF pp 3) (degsK (runsF pp 3) F.n k) t) F.n := by
  have hl := hc.len k hk t ht
  have hb := hc.bnd k hk t ht
  have hm := hc.mon k hk t ht
  have hcl := hc.cls t ht
  generalize lackRow (runsF pp 3) (degsK (runsF pp 3) F.n k) t = L at *
  have hs : ∀ e ∈ L.map Int.toNat, e < 64 := fun e he => by
    obtain ⟨x, hx, rfl⟩ := List.mem_map.mp he
    have := hb x hx; omega
  have hp : pk (L.map Int.toNat) < 64 ^ (F.n + F.j + cm.getD t 0) := by
    refine Nat.lt_of_lt_of_le (pk_lt hs) (Nat.pow_le_pow_right (by decide) ?_)
    rw [List.length_map, hl]; omega
  have e2 : evM (F.EE cm pp nums drawn) (F.mn k (cm.getD t 0) - 64 ^ (F.n + F.j + cm.getD t 0)) = prodF drawn L F.n := by
    rw [← hm, Nat.add_sub_cancel, EE, evM_pk (by rw [List.length_map, hl, hdl]; exact Nat.le_refl _) hs, prodE_F (by rw [hl, hdl]), hdl]
  refine ⟨?_, e2⟩
  rw [evM_down (i := F.n + F.j + cm.getD t 0) (by rw [EE_len hdl]; omega) ?_, e2, EE_u hdl hcl]
  rw [← hm, Nat.add_div_right _ (Nat.pow_pos (by decide)), Nat.div_eq_of_lt hp]; decide
theorem dueNN (hps : ∀ p ∈ F.ps, 0 < p ∧ p < F.n) {k : Nat} (hk : k < F.n + 4) : dueK nums drawn (runsF pp 3) (F.n : Int) k = F.dueN (fun c => evM (F.EE cm pp nums drawn) (F.mn k c)) (F.NN pp nums drawn) k F.ps 0 := by
  rw [dueN_H F.ps 0 fun i _ => by rw [Nat.zero_add]]
  have e1 : ∀ c, 0 ≤ c → c < 0 + F.ps.length → evM (F.EE cm pp nums drawn) (F.mn k c) * (F.NN pp nums drawn (F.n + k - F.ps.getD c 0) * F.NN pp nums drawn (k + F.ps.getD c 0)) =
      ((if cm.getD 0 0 = c then nums.getD (2 * 0) 0 else 0) * (evM (F.EE cm pp nums drawn) (F.mn k c - 64 ^ (F.n + F.j + c)) * (F.NN pp nums drawn (F.n + k - F.ps.getD c 0) * F.NN pp nums drawn (k + F.ps.getD c 0))) +
       (if cm.getD 1 0 = c then nums.getD (2 * 1) 0 else 0) * (evM (F.EE cm pp nums drawn) (F.mn k c - 64 ^ (F.n + F.j + c)) * (F.NN pp nums drawn (F.n + k - F.ps.getD c 0) * F.NN pp nums drawn (k + F.ps.getD c 0)))) +
       (if cm.getD 2 0 = c then nums.getD (2 * 2) 0 else 0) * (evM (F.EE cm pp nums drawn) (F.mn k c - 64 ^ (F.n + F.j + c)) * (F.NN pp nums drawn (F.n + k - F.ps.getD c 0) * F.NN pp nums drawn (k + F.ps.getD c 0))) := by
    intro c _ hcr
    have : ∃ t, t < 3 ∧ c = cm.getD t 0 := by
      rcases hc.hit c (by omega) with h | h | h
      · exact ⟨0, by decide, h⟩
      · exact ⟨1, by decide, h⟩
      · exact ⟨2, by decide, h⟩
    obtain ⟨t, ht, hct⟩ := this
    have hm := monE (nums := nums) hc hdl hk ht
    rw [← hct] at hm
    rw [hm.1, hm.2, ← Int.add_mul, ← Int.add_mul, Int.mul_assoc]; rfl
  rw [sumH_congr _ 0 e1, sumH_add, sumH_add]
  rw [sumH_one (G := fun c => evM (F.EE cm pp nums drawn) (F.mn k c - 64 ^ (F.n + F.j + c)) * (F.NN pp nums drawn (F.n + k - F.ps.getD c 0) * F.NN pp nums drawn (k + F.ps.getD c 0))) _ 0 (Nat.zero_le _) (by have := hc.cls 0 (by decide); omega)]
  rw [sumH_one (G := fun c => evM (F.EE cm pp nums drawn) (F.mn k c - 64 ^ (F.n + F.j + c)) * (F.NN pp nums drawn (F.n + k - F.ps.getD c 0) * F.NN pp nums drawn (k + F.ps.getD c 0))) _ 0 (Nat.zero_le _) (by have := hc.cls 1 (by decide); omega)]
  rw [sumH_one (G := fun c => evM (F.EE cm pp nums drawn) (F.mn k c - 64 ^ (F.n + F.j + c)) * (F.NN pp nums drawn (F.n + k - F.ps.getD c 0) * F.NN pp nums drawn (k + F.ps.getD c 0))) _ 0 (Nat.zero_le _) (by have := hc.cls 2 (by decide); omega)]
  have et : ∀ t, t < 3 → 1 ≤ (F.ps.getD (cm.getD t 0) 0) → F.ps.getD (cm.getD t 0) 0 < F.n → nums.getD (2 * t) 0 * prodF drawn ((lacksF (runsF pp 3) (degsK (runsF pp 3) F.n k)).getD t []) F.n * pickF (rowK nums drawn (runsF pp 3) (F.n : Int) k) ((runsF pp 3).getD (2 * t) 0) * pickF (rowK nums drawn (runsF pp 3) (F.n : Int) k) ((runsF pp 3).getD (2 * t + 1) 0) =
      nums.getD (2 * t) 0 * (evM (F.EE cm pp nums drawn) (F.mn k (cm.getD t 0) - 64 ^ (F.n + F.j + cm.getD t 0)) * (F.NN pp nums drawn (F.n + k - F.ps.getD (cm.getD t 0) 0) * F.NN pp nums drawn (k + F.ps.getD (cm.getD t 0) 0))) := by
    intro t ht hp1 hp2
    have hm := (monE (nums := nums) hc hdl hk ht).2
    rw [hm]
    have hl : (lacksF (runsF pp 3) (degsK (runsF pp 3) F.n k)).getD t [] = lackRow (runsF pp 3) (degsK (runsF pp 3) F.n k) t := by unfold lacksF; exact rangeD ht
    rw [hl]
    generalize prodF drawn _ F.n = P
    have hpr := hc.prt t ht
    generalize F.ps.getD (cm.getD t 0) 0 = q at *
    rcases hpr with ⟨x1, x2⟩ | ⟨x1, x2⟩
    · rw [x1, x2, pickNN (by omega) (by omega) (by omega), pickNN (by omega) (by omega) (by omega), show F.n + k - ((q : Nat) : Int).toNat = F.n + k - q by omega, show F.n + k - ((F.n : Int) - (q : Nat)).toNat = k + q by omega]
      simp only [Int.mul_assoc]
    · rw [x1, x2, pickNN (by omega) (by omega) (by omega), pickNN (by omega) (by omega) (by omega), show F.n + k - ((q : Nat) : Int).toNat = F.n + k - q by omega, show F.n + k - ((F.n : Int) - (q : Nat)).toNat = k + q by omega]
      simp only [Int.mul_assoc, Int.mul_comm, Int.mul_left_comm]
  have hq : ∀ t, t < 3 → 1 ≤ (F.ps.getD (cm.getD t 0) 0) ∧ F.ps.getD (cm.getD t 0) 0 < F.n := fun t ht => by
    have h := hc.cls t ht
    rw [List.getD_eq_getElem?_getD, List.getElem?_eq_getElem h]
    exact hps _ (List.getElem_mem h)
  rw [← et 0 (by decide) (hq 0 (by decide)).1 (hq 0 (by decide)).2, ← et 1 (by decide) (hq 1 (by decide)).1 (hq 1 (by decide)).2, ← et 2 (by decide) (hq 2 (by decide)).1 (hq 2 (by decide)).2]
  unfold dueK
  rw [Int.toNat_natCast]
  show ((0 + _) + _) + _ = _
  rw [Int.zero_add]
/-- the plain law of a case -/
theorem plain (ok : F.okB = true) (ch : ∀ k, k < F.n + 4 → F.chkK k = true) (hbB : F.bB = true) (hn : ∀ t, t < 3 → 7 ≤ nums.getD (2 * t) 0 ∧ nums.getD (2 * t) 0 ≤ 54) (hd : ∀ i, i < F.n → 1 ≤ drawn.getD i 0 ∧ drawn.getD i 0 ≤ 9) :
    ∀ k, k < F.n + 4 → PlainAt nums drawn (runsF pp 3) (F.n : Int) k := by
  have ok' := ok
  unfold okB at ok'
  simp only [Bool.and_eq_true] at ok'
  obtain ⟨_, o2, o3, _⟩ := ok'
  have hps : ∀ p ∈ F.ps, 0 < p ∧ p < F.n := fun p hp => by
    have := List.all_eq_true.mp o3 p hp
    rw [Bool.and_eq_true] at this
    exact ⟨Nat.ble_eq.mp this.1, Nat.ble_eq.mp this.2⟩
  have hpsD : ∀ c, c < F.ps.length → 0 < F.ps.getD c 0 ∧ F.ps.getD c 0 < F.n := fun c h => by
    rw [List.getD_eq_getElem?_getD, List.getElem?_eq_getElem h]
    exact hps _ (List.getElem_mem h)
  unfold bB at hbB
  simp only [Bool.and_eq_true] at hbB
  obtain ⟨b1, b2, b3⟩ := hbB
  have b1 := Nat.ble_eq.mp b1
  have hb2 : ∀ m, m < 2 * F.n + 4 → F.bt m ≤ 1399 := fun m hm => Nat.ble_eq.mp (List.all_eq_true.mp b2 m (List.mem_range.mpr hm))
  have hb3 : ∀ k, k < F.n + 4 → ∀ c, c < F.ps.length → F.wt k c + (F.bt (F.n + k - F.ps.getD c 0) + F.bt (k + F.ps.getD c 0)) + 2 ≤ F.bt (F.n + k) := fun k hk c hc =>
    Nat.ble_eq.mp (List.all_eq_true.mp (List.all_eq_true.mp b3 k (List.mem_range.mpr hk)) c (List.mem_range.mpr hc))
  have hU : ∀ c, c < F.ps.length → 1 ≤ UU cm nums c ∧ UU cm nums c ≤ 2 ^ 8 := fun c hcl => by
    have n0 := hn 0 (by decide)
    have n1 := hn 1 (by decide)
    have n2 := hn 2 (by decide)
    have hh := hc.hit c hcl
    unfold UU
    split <;> split <;> split <;> omega
  have hWt : ∀ k c, k < F.n + 4 → c < F.ps.length → 1 ≤ evM (F.EE cm pp nums drawn) (F.mn k c) ∧ evM (F.EE cm pp nums drawn) (F.mn k c) ≤ 2 ^ F.wt k c := fun k c hk hcl => by
    have : ∃ t, t < 3 ∧ c = cm.getD t 0 := by
      rcases hc.hit c hcl with h | h | h
      · exact ⟨0, by decide, h⟩
      · exact ⟨1, by decide, h⟩
      · exact ⟨2, by decide, h⟩
    obtain ⟨t, ht, hct⟩ := this
    have hm := (monE (nums := nums) hc hdl hk ht).1
    have hw := hc.wts k hk t ht
    rw [← hct] at hm hw
    rw [hm]
    have hP := prodF_bnd (l := lackRow (runsF pp 3) (degsK (runsF pp 3) F.n k) t) hd F.n (Nat.le_refl _)
    have hu := hU c hcl
    have h1 : 0 < UU cm nums c * prodF drawn (lackRow (runsF pp 3) (degsK (runsF pp 3) F.n k) t) F.n := Int.mul_pos (by omega) (by omega)
    have h2 : UU cm nums c * prodF drawn (lackRow (runsF pp 3) (degsK (runsF pp 3) F.n k) t) F.n ≤ 2 ^ 8 * 2 ^ (4 * sumE (lackRow (runsF pp 3) (degsK (runsF pp 3) F.n k) t) F.n) := Int.mul_le_mul hu.2 hP.2 (by omega) (by omega)
    rw [← Int.pow_add] at h2
    exact ⟨by omega, Int.le_trans h2 (pow2_mono (by omega))⟩
  have hN : ∀ k, k < F.n + 4 → F.NN pp nums drawn (F.n + k) = F.dueN (fun c => evM (F.EE cm pp nums drawn) (F.mn k c)) (F.NN pp nums drawn) k F.ps 0 / F.NN pp nums drawn k := fun k hk => by
    rw [NN_q hk, ← dueNN hc hdl hps hk]
    unfold qK
    by_cases h0 : F.n = 0
    · exact absurd (hpsD 0 (by have := hc.cls 0 (by decide); omega)).2 (by omega)
    · rw [pickNN (by omega) (by omega) (by omega), show F.n + k - ((F.n : Nat) : Int).toNat = k by omega]
  have S := sound (W := fun k c => evM (F.EE cm pp nums drawn) (F.mn k c)) ok ch (EE_len hdl) (fun m hm => NN_one hm) (fun i hi => EE_z hdl hi) (fun _ _ _ => rfl) (fun k c hk hcl => (hWt k c hk hcl).1) hN
  have hpos : ∀ m, m < 2 * F.n + 4 → 1 ≤ F.NN pp nums drawn m := fun m hm => by
    rcases Nat.lt_or_ge m F.n with q | q
    · rw [NN_one q]; exact Int.le_refl _
    · have := (S (m - F.n) (by omega)).2.1
      rw [show F.n + (m - F.n) = m by omega] at this
      exact this
  have hbig : ∀ m, m < 2 * F.n + 4 → F.NN pp nums drawn m ≤ 2 ^ F.bt m := fun m => by
    induction m using Nat.strongRecOn with
    | _ m ih =>
      intro hm
      rcases Nat.lt_or_ge m F.n with q | q
      · rw [NN_one q]
        have := pow2_mono (Nat.zero_le (F.bt m))
        rw [Int.pow_zero] at this
        exact this
      · obtain ⟨k, rfl⟩ : ∃ k, m = F.n + k := ⟨m - F.n, by omega⟩
        have hk : k < F.n + 4 := by omega
        have s1 := (S k hk).1
        have p1 := hpos (F.n + k) hm
        have p2 := hpos k (by omega)
        have h1 : F.NN pp nums drawn (F.n + k) ≤ F.NN pp nums drawn (F.n + k) * F.NN pp nums drawn k := by
          have h := Int.mul_le_mul_of_nonneg_left p2 (show 0 ≤ F.NN pp nums drawn (F.n + k) by omega)
          rw [Int.mul_one] at h
          exact h
        rw [← s1, dueN_H F.ps 0 fun i _ => by rw [Nat.zero_add]] at h1
        have h2 := sumH_le (f := fun i => evM (F.EE cm pp nums drawn) (F.mn k i) * (F.NN pp nums drawn (F.n + k - F.ps.getD i 0) * F.NN pp nums drawn (k + F.ps.getD i 0))) (B := 2 ^ F.bt (F.n + k)) F.ps.length 0 fun i _ hi => by
          have hi : i < F.ps.length := by omega
          have hp := hpsD i hi
          have w := hWt k i hk hi
          have a1 := ih (F.n + k - F.ps.getD i 0) (by omega) (by omega)
          have a2 := ih (k + F.ps.getD i 0) (by omega) (by omega)
          have a3 := hpos (F.n + k - F.ps.getD i 0) (by omega)
          have a4 := hpos (k + F.ps.getD i 0) (by omega)
          have a5 := Int.mul_le_mul a1 a2 (by omega) (Int.le_trans (by decide) (Int.le_trans a3 a1))
          have a6 : 0 < F.NN pp nums drawn (F.n + k - F.ps.getD i 0) * F.NN pp nums drawn (k + F.ps.getD i 0) := Int.mul_pos (by omega) (by omega)
          have a7 := Int.mul_le_mul w.2 a5 (by omega) (Int.le_trans (by decide) (Int.le_trans w.1 w.2))
          rw [← Int.pow_add, ← Int.pow_add] at a7
          have a8 := pow2_mono (hb3 k hk i hi)
          rw [Int.pow_add _ _ 2] at a8
          omega
        have h3 : (F.ps.length : Int) * 2 ^ F.bt (F.n + k) ≤ 3 * 2 ^ F.bt (F.n + k) := Int.mul_le_mul_of_nonneg_right (by omega) (Int.le_of_lt (Int.pow_pos (by decide)))
        have h4 : (0 : Int) < 2 ^ F.bt (F.n + k) := Int.pow_pos (by decide)
        omega
  have habs : ∀ m, m < 2 * F.n + 4 → (F.NN pp nums drawn m).natAbs < 2 ^ 1400 := fun m hm => abs2 (hpos m hm) (hbig m hm) (by have := hb2 m hm; omega)
  have hnp : 0 < F.n := by
    have := (hpsD 0 (by have := hc.cls 0 (by decide); omega)).2
    omega
  intro k hk
  have hpk : pickF (rowK nums drawn (runsF pp 3) (F.n : Int) k) (F.n : Int) = F.NN pp nums drawn k := by
    rw [pickNN (by omega) (by omega) (by omega), show F.n + k - ((F.n : Nat) : Int).toNat = k by omega]
  refine ⟨fun t ht i hi => ?_, ?_, ?_, ?_, ?_, ?_, fun x hx => ?_⟩
  · have hl : (lacksF (runsF pp 3) (degsK (runsF pp 3) F.n k)).getD t [] = lackRow (runsF pp 3) (degsK (runsF pp 3) F.n k) t := by unfold lacksF; exact rangeD ht
    rw [Int.toNat_natCast] at hi ⊢
    rw [hl]
    have hi' : i < (lackRow (runsF pp 3) (degsK (runsF pp 3) F.n k) t).length := by rw [hc.len k hk t ht]; exact hi
    rw [List.getD_eq_getElem?_getD, List.getElem?_eq_getElem hi']
    exact hc.bnd k hk t ht _ (List.getElem_mem hi')
  · rw [hpk, ← NN_q hk, dueNN hc hdl hps hk]; exact (S k hk).1
  · rw [hpk]; exact hpos k (by omega)
  · rw [hpk]; exact habs k (by omega)
  · rw [← NN_q hk]; exact hpos (F.n + k) (by omega)
  · rw [← NN_q hk]; exact habs (F.n + k) (by omega)
  · obtain ⟨i, hi, e⟩ := List.getElem_of_mem hx
    have h1 : (rowK nums drawn (runsF pp 3) (F.n : Int) k).getD i 0 = x := by rw [List.getD_eq_getElem?_getD, List.getElem?_eq_getElem hi, ← e]; rfl
    rw [rowK_len, Int.toNat_natCast] at hi
    rw [NN_row (by omega) hi] at h1
    rw [← h1]
    exact Nat.lt_trans (habs i (by omega)) (Nat.pow_lt_pow_right (by decide) (by decide))
end
end Fam
theorem bbS4 : fS4.bB = true := by decide +kernel
theorem bbS5 : fS5.bB = true := by decide +kernel
theorem bbS6b : fS6b.bB = true := by decide +kernel
theorem bbS6 : fS6.bB = true := by decide +kernel
theorem bbS7b : fS7b.bB = true := by decide +kernel
theorem bbS7c : fS7c.bB = true := by decide +kernel
theorem bbS7 : fS7.bB = true := by decide +kernel
theorem case0_0 : fS4.caseB [0, 0, 1] (partsAt 0 0) = true := by decide +kernel
theorem case0_1 : fS4.caseB [0, 1, 0] (partsAt 0 1) = true := by decide +kernel
theorem case0_2 : fS4.caseB [1, 0, 0] (partsAt 0 2) = true := by decide +kernel
theorem case1_0 : fS5.caseB [0, 1, 1] (partsAt 1 0) = true := by decide +kernel
theorem case1_1 : fS5.caseB [1, 1, 0] (partsAt 1 1) = true := by decide +kernel
theorem case1_2 : fS5.caseB [1, 0, 1] (partsAt 1 2) = true := by decide +kernel
theorem case2_0 : fS5.caseB [0, 0, 1] (partsAt 2 0) = true := by decide +kernel
theorem case2_1 : fS5.caseB [0, 1, 0] (partsAt 2 1) = true := by decide +kernel
theorem case2_2 : fS5.caseB [1, 0, 0] (partsAt 2 2) = true := by decide +kernel
theorem case3_0 : fS6.caseB [0, 1, 2] (partsAt 3 0) = true := by decide +kernel
theorem case3_1 : fS6.caseB [1, 2, 0] (partsAt 3 1) = true := by decide +kernel
theorem case3_2 : fS6.caseB [2, 0, 1] (partsAt 3 2) = true := by decide +kernel
theorem case4_0 : fS6b.caseB [0, 0, 1] (partsAt 4 0) = true := by decide +kernel
theorem case4_1 : fS6b.caseB [0, 1, 0] (partsAt 4 1) = true := by decide +kernel
theorem case4_2 : fS6b.caseB [1, 0, 0] (partsAt 4 2) = true := by decide +kernel
theorem case5_0 : fS7.caseB [0, 1, 2] (partsAt 5 0) = true := by decide +kernel
theorem case5_1 : fS7.caseB [1, 2, 0] (partsAt 5 1) = true := by decide +kernel
theorem case5_2 : fS7.caseB [2, 0, 1] (partsAt 5 2) = true := by decide +kernel
theorem case6_0 : fS7b.caseB [0, 1, 1] (partsAt 6 0) = true := by decide +kernel
theorem case6_1 : fS7b.caseB [1, 1, 0] (partsAt 6 1) = true := by decide +kernel
theorem case6_2 : fS7b.caseB [1, 0, 1] (partsAt 6 2) = true := by decide +kernel
theorem case7_0 : fS7c.caseB [0, 0, 1] (partsAt 7 0) = true := by decide +kernel
theorem case7_1 : fS7c.caseB [0, 1, 0] (partsAt 7 1) = true := by decide +kernel
theorem case7_2 : fS7c.caseB [1, 0, 0] (partsAt 7 2) = true := by decide +kernel
theorem plainOf {F : Fam} {cm : List Nat} {cs : List Int} (hcl : cs.length = 11) (h : F.caseB cm (partsOf (cs.getD 0 0)) = true) (ok : F.okB = true) (ch : ∀ k, k < F.n + 4 → F.chkK k = true) (hb : F.bB = true) :
    ∀ k, k < (partsOf (cs.getD 0 0)).sum.toNat + 4 → PlainAt (numF cs) (drawnF cs (partsOf (cs.getD 0 0)).sum.toNat) (runsF (partsOf (cs.getD 0 0)) 3) (partsOf (cs.getD 0 0)).sum k := by
  have hc := Fam.caseOk h
  have hz := partsOk (cs.getD 0 0)
  have hdl := drawnLen hcl hz.2.2.1 hz.2.1
  have hd := drawnF_bnd hdl
  generalize partsOf (cs.getD 0 0) = pp at *
  have hs := hc.sum
  rw [hs, Int.toNat_natCast] at hdl hd ⊢
  exact Fam.plain hc hdl ok ch hb (numF_bnd cs) hd
theorem allCases {cs : List Int} (hcl : cs.length = 11) : ∀ i, i < 8 → ∀ t, t < 3 → partsOf (cs.getD 0 0) = partsAt i t → ∀ k, k < (partsOf (cs.getD 0 0)).sum.toNat + 4 → PlainAt (numF cs) (drawnF cs (partsOf (cs.getD 0 0)).sum.toNat) (runsF (partsOf (cs.getD 0 0)) 3) (partsOf (cs.getD 0 0)).sum k :=
  (ltS
      (ltS (fun hp => plainOf hcl (by rw [hp]; exact case7_2) okS7c chS7c bbS7c) (ltS (fun hp => plainOf hcl (by rw [hp]; exact case7_1) okS7c chS7c bbS7c) (ltS (fun hp => plainOf hcl (by rw [hp]; exact case7_0) okS7c chS7c bbS7c) lt0))) (ltS
      (ltS (fun hp => plainOf hcl (by rw [hp]; exact case6_2) okS7b chS7b bbS7b) (ltS (fun hp => plainOf hcl (by rw [hp]; exact case6_1) okS7b chS7b bbS7b) (ltS (fun hp => plainOf hcl (by rw [hp]; exact case6_0) okS7b chS7b bbS7b) lt0))) (ltS
      (ltS (fun hp => plainOf hcl (by rw [hp]; exact case5_2) okS7 chS7 bbS7) (ltS (fun hp => plainOf hcl (by rw [hp]; exact case5_1) okS7 chS7 bbS7) (ltS (fun hp => plainOf hcl (by rw [hp]; exact case5_0) okS7 chS7 bbS7) lt0))) (ltS
      (ltS (fun hp => plainOf hcl (by rw [hp]; exact case4_2) okS6b chS6b bbS6b) (ltS (fun hp => plainOf hcl (by rw [hp]; exact case4_1) okS6b chS6b bbS6b) (ltS (fun hp => plainOf hcl (by rw [hp]; exact case4_0) okS6b chS6b bbS6b) lt0))) (ltS
      (ltS (fun hp => plainOf hcl (by rw [hp]; exact case3_2) okS6 chS6 bbS6) (ltS (fun hp => plainOf hcl (by rw [hp]; exact case3_1) okS6 chS6 bbS6) (ltS (fun hp => plainOf hcl (by rw [hp]; exact case3_0) okS6 chS6 bbS6) lt0))) (ltS
      (ltS (fun hp => plainOf hcl (by rw [hp]; exact case2_2) okS5 chS5 bbS5) (ltS (fun hp => plainOf hcl (by rw [hp]; exact case2_1) okS5 chS5 bbS5) (ltS (fun hp => plainOf hcl (by rw [hp]; exact case2_0) okS5 chS5 bbS5) lt0))) (ltS
      (ltS (fun hp => plainOf hcl (by rw [hp]; exact case1_2) okS5 chS5 bbS5) (ltS (fun hp => plainOf hcl (by rw [hp]; exact case1_1) okS5 chS5 bbS5) (ltS (fun hp => plainOf hcl (by rw [hp]; exact case1_0) okS5 chS5 bbS5) lt0))) (ltS
      (ltS (fun hp => plainOf hcl (by rw [hp]; exact case0_2) okS4 chS4 bbS4) (ltS (fun hp => plainOf hcl (by rw [hp]; exact case0_1) okS4 chS4 bbS4) (ltS (fun hp => plainOf hcl (by rw [hp]; exact case0_0) okS4 chS4 bbS4) lt0))) lt0))))))))
theorem plainAll : PlainAll := by
  intro cs hcl
  have h1 : ((cs.getD 0 0).fmod 8).toNat < 8 := by rw [Int.fmod_eq_emod_of_nonneg _ (by decide)]; omega
  have h2 : (((cs.getD 0 0).fdiv 8).fmod 3).toNat < 3 := by rw [Int.fmod_eq_emod_of_nonneg _ (by decide)]; omega
  have hp : partsOf (cs.getD 0 0) = partsAt ((cs.getD 0 0).fmod 8).toNat (((cs.getD 0 0).fdiv 8).fmod 3).toNat := rfl
  generalize ((cs.getD 0 0).fmod 8).toNat = i at h1 hp
  generalize (((cs.getD 0 0).fdiv 8).fmod 3).toNat = t at h2 hp
  exact allCases hcl i h1 t h2 hp
section
example (w : World) : (rwQ = rwQ) ∧ (Kq w.params = Kq w.params) := by
  k_with_none
  k_fill
  (k_with "B" => k_asm)
  (k_with "K" => first | exact rfl | assumption)
  (k_with "C" => first | assumption | trivial)
  (k_with "D" => first | (change dp + 1 + _ < _; omega) | omega | ktr_room)
  (k_with "U" => first | (change un + 3 + _ < _; omega) | omega | ktr_units)
  (k_with "call builtin:divmod" => ((with_reducible show wpAny _ _ (call (Value.builtin _) [Value.int _ _, Value.int _ _]) _ _ _); (rename SmallDiv _ => hSd); refine divmod_N (by assumption) (by assumption) (by assumption) ?_ (Or.inl (PyProof.noPylong_of_log2 hSd)); intro _ _ _))
  (k_with "binaryOp FloorDiv int int" => ((rename SmallDiv _ => hSd); refine floordiv_sd hSd (by first | assumption | omega) ?_))
  (k_with "AllLt" => first | assumption | exact And.right (by assumption) | exact And.right (And.right (by assumption)) | exact And.right (And.right (And.right (by assumption))) | exact And.right (And.right (And.right (And.right (by assumption)))) | exact And.right (And.right (And.right (And.right (And.right (by assumption))))) | exact And.right (And.right (And.right (And.right (And.right (And.right (by assumption)))))) | exact And.right (And.right (And.right (And.right (And.right (And.right (And.right (by assumption)))))))  | exact And.right (And.right (And.right (And.right (And.right (And.right (And.right (And.right (by assumption)))))))))
  (k_with "k_all" => first | with_reducible assumption | exact allNe0 (by walk_at "AllLt") | exact allNe1 (by walk_at "AllLt") | exact allNe2 (by walk_at "AllLt") | exact allNe3 (by walk_at "AllLt") | exact List.forall_mem_nil _ | (refine' List.forall_mem_cons.mpr ⟨?_, ?_⟩; (focus k_ne); k_all))
  (k_with "binaryOp Mult ref int" => (k_here; (rename CntOk _ => hCo); k_dflt (refine' mulRep (by k_asm) (by k_asm) (by k_mem) hCo ?_); k_whole; intro l' h' F' N' l1; (try k_lt l1); (try k_sweep)))
  (k_with "enter" => (refine wpAny_call ?_; k_dflt cell_enter))
  (k_with "enter C" => (refine wpAny_call ?_; k_dflt ((refine' code_defC (by k_asm) (by k_asm) (by k_asm) (by k_asm) (by k_asm) (by exact rfl) (by exact rfl) (by assumption) (by k_is) (by k_is) (by ktr_room) (by exact BindsTo.of_eq rfl) (by exact rfl) (by decide +kernel) ?_ (by exact rfl) (by exact rfl) (by exact rfl)); k_whole; intro g' L' h' tk' cells' FG' F' N' Y' B' X' T' l1; (try k_lt l1); k_cells Y'; (try simp only [List.cons_append, List.nil_append] at N'); (try dsimp only); (try k_lift B'); (try k_fold))))
  (k_with "enter N" => (refine wpAny_call ?_; k_dflt (refine' code_nest (by k_asm) (by k_asm) (by k_asm) (by k_asm) (by k_asm) (by exact rfl) (by exact rfl) (by assumption) (by walk_at "inrest") (codeRec_news (by k_asm) (by walk_at "inrest") (by assumption) (by assumption)) (by ktr_room) (by exact BindsTo.of_eq rfl) (by exact locs rfl) ?_ (by exact rfl) (by exact rfl) (by exact rfl) (by decide); k_whole; intro g' L' h' FG' F' N' B' X' T'; (try dsimp only); (try k_lift B'))))
  (k_with "eval Name" => (k_here; kc_free; k_dflt (refine' nameX_F (by k_asm) (by exact rfl) (by walk_at "inrest") (by with_reducible assumption) ?_ (by exact rfl) (by exact rfl)); k_whole))
  (k_with "inrest" => first | with_reducible assumption | exact List.mem_cons_self .. | assumption | (refine List.mem_cons_of_mem _ ?_; walk_at "inrest"))
  (k_with "FnAt" => (k_dflt (exact FnAt.of (by k_asm) (by walk_at "inrest"))))
  (k_with "callWith ref" => (k_here; kn_here; k_dflt (first
    | (refine' callWith_F (FnAt.of (by k_asm) (by walk_at "inrest")) ?_; k_whole)
    | (refine' callWith_F0 (FnAt.of (by k_asm) (by walk_at "inrest")) ?_; k_whole; try dsimp only [List.nil_append, List.cons_append]))))
  (k_with "mulok" => first | assumption | exact PySem.IntMulOk.of_left (bits64 (by omega)) | exact PySem.IntMulOk.of_right (bits64 (by omega)))
  (k_with "binaryOp Mult int int" => (k_here; k_dflt (refine mul_int ?_ (by walk_at "mulok"))))
  (k_with "setItem ref int" => (k_here; (with_reducible show wpAny _ _ (setItem (Value.ref _) (Value.int _ _) (Value.int _ _)) _ _ _); k_dflt (refine' ksa_set (by k_asm) (by k_asm) (by k_upd) (by with_reducible assumption) (by omega) (by omega) (by omega) ?_); k_whole; intro h' F' N' hi' hl' hs'; (try k_sweep)))
  (k_with "nn" => first | omega | ((rename ShB _ => hShB); exact (hShB _ (by omega) (by omega)).1))
  (k_with "lsz" => ((rename ShB _ => hShB); (rename BitsB _ => hBB); first | exact lsz_of (BitsB.fdiv _ hBB) (hShB _ (by omega) (by omega)).2 | exact lsz_of hBB (hShB _ (by omega) (by omega)).2))
  (k_with "binaryOp RShift int int" => (k_here; k_dflt (refine rshift_int (by walk_at "nn") ?_)))
  (k_with "binaryOp RShift int int" => (k_here; with_reducible refine rshift1 ?_))
  (k_with "binaryOp LShift int int" => (k_here; k_dflt (refine lshift_int (by walk_at "nn") (by walk_at "lsz") ?_)))
  (k_with "truthy ref" => (k_dflt (refine' truthyLed (by k_asm) (by walk_at "inrest") (by walk_at "lenfit") ?_); intro _))
  (k_with "lenfit" => first | omega | ((have hl9 := IntsAre.length (by assumption)); (try simp only [List.length_map, List.length_replicate] at *); omega))
  (k_with "subscriptTail" => (k_here; (with_reducible show wpAny _ _ (subscriptTail _ _ (Value.ref _) (Value.int _ _)) _ _ _); k_dflt (refine' ksa_sub (by k_asm) (by walk_at "inrest") (by with_reducible assumption) (by omega) (by first | omega | (rw [List.length_map]; omega)) (by omega) ?_ (by with_unfolding_all rfl)); intro _))
  (k_with "call builtin:list.append" => (k_here; k_dflt (refine' appendLed (by k_asm) (by k_asm) (by k_upd) (by walk_at "lenfit") ?_; k_whole); intro h' F' N'; (try k_sweep)))
  (k_with "call builtin:list.reverse" => (k_here; k_dflt (refine' reverseLed (by k_asm) (by k_asm) (by k_upd) (by walk_at "lenfit") ?_; k_whole); intro h' F' N'; (try k_sweep)))
  (k_with "call type:reversed" => (k_here; (with_reducible show wpAny _ _ (call (Value.type _) [Value.ref _]) _ _ _); k_dflt (refine' krv_reversed (by k_asm) (by k_asm) (News.isList (by k_asm) (by walk_at "inrest")) ?_); intro D' h' F' N' lrev; have l1 := lrev; (try k_lt l1); (try k_sweep)))
  (k_with "mlook" => first | with_reducible assumption | exact if_pos rfl | exact rfl | (refine (if_neg (by decide)).trans ?_; walk_at "mlook"))
  (k_with "eval Name" => (k_here; (rename MapMark => hMM); k_dflt (refine' nameX_L (by k_asm) (by walk_at "mlook") ?_ (by rfl) (by rfl)); k_whole))
  (k_with "newList" => (k_here; (with_reducible refine' newList_K (by k_asm) (by k_asm) ?_ (by exact Nat.le_of_ble_eq_true rfl)); k_whole; intro l' h' F' N' lnew; have l1 := lnew; (try k_lt l1); (try k_sweep)))
  (k_with "lsz" => ((rename BitsB _ => hBB); exact lsz_of hBB (by omega)))
  (k_with "newTuple" => (k_here; k_dflt (refine' newTupLed (by k_asm) (by k_asm) (by exact Nat.le_of_ble_eq_true rfl) ?_; k_whole); intro q' h' F' N' ltup; have l1 := ltup; (try k_lt l1); (try k_sweep)))
  (k_with "pick" => first | exact Pick.head | (apply Pick.tail; walk_at "pick"))
  (k_with "sub" => (intro q9 hq9; repeat (first | exact hsub0 _ hq9 | exact hq9 | apply List.mem_cons_of_mem)))
  (k_with "call builtin:len" => ((with_reducible show wpAny _ _ (call (Value.builtin "len") [Value.ref _]) _ _ _); k_dflt (refine' lenLed (by k_asm) (by walk_at "inrest") (by first | walk_at "lenfit" | (simp only [List.length_replicate]; omega)) ?_)))
  (k_with "exec FunctionDef" => (k_here; kn_here; k_dflt (refine' nestDef_K (by exact rfl) (by exact rfl) (by exact rfl) ?_); k_dflt (refine' nestTab (by k_asm) (by k_asm) (by k_asm) (by kn_code) (by exact rfl) (by k_updF) (by assumption) (by walk_at "sub") (by walk_at "AllLt") (List.mem_cons_self ..) (by exact rfl) ?_; k_whole); intro f' c' oc' vs' t' ct' dc' h' tk' ps' F' N' d1' d2' tc' hin' l1 l2; have hin2 := hin'.imp And.right And.right; (try dsimp only at N'); (try k_lt2 l1); (try k_lt l2)))
  (k_with "strB" => first | assumption | exact (Nat.le_of_ble_eq_true rfl) | (simp only [StrB, List.length_append, List.length_cons, List.length_nil] at *; omega))
  (k_with "subscriptTail" => (k_here; (with_reducible show wpAny _ _ (subscriptTail _ _ (Value.str _ _) (Value.ref _)) _ _ _); k_dflt (first | refine' cut_to (by k_asm) (by k_asm) (by walk_at "strB") (by omega) ?_ | refine' cut_ss (by k_asm) (by k_asm) (by walk_at "strB") (by omega) (by omega) ?_); k_whole; intro h' t' k' F' N'; (try k_sweep)))
  (k_with "call builtin:len" => (k_here; (with_reducible show wpAny _ _ (call (Value.builtin "len") [Value.str _ _]) _ _ _); k_dflt (refine' lenStr (by walk_at "strB") ?_); intro _ _))
  (k_with "binaryOp Add str str" => (k_here; k_dflt (refine' addStr (by walk_at "strB") (by walk_at "strB") ?_); intro _ _))
  (k_with "compareOp Eq str str" => (k_here; k_dflt (first | refine' eqStrB (by walk_at "streq") ?_ | refine' eqStr ?_)))
  (k_with "compareOp NotEq str str" => (k_here; k_dflt (first | refine' neStrB (by walk_at "streq") ?_ | refine' neStr ?_)))
  (k_with "getItem str int" => (k_here; k_dflt (refine' strAt (by walk_at "strB") (by omega) (by walk_at "strat") ?_); intro _))
  (k_with "subscriptTail" => (k_here; (with_reducible show wpAny _ _ (subscriptTail _ _ (Value.str _ _) (Value.int _ _)) _ _ _); k_dflt (refine' strAtT (by walk_at "strB") (by first | omega | assumption) (by walk_at "strat") ?_); k_whole; intro _))
  (k_with "exec While" => (k_here; refine stopI ?_))
  (k_with "exec While Compare" => (k_here; refine stopI ?_))
  (k_with "exec While Compare cons nil" => (k_here; refine stopI ?_))
  (k_with "execs cons" => ((with_reducible refine wpAny_execs_cons ?_); (try k_fold)))
  (k_with "eval Call" => k_fold)
  (k_with "eval BinOp" => k_fold)
  (k_with "isTrue" => k_fold)
  (k_with "isTrue Compare" => k_fold)
  (k_with "isTrue BoolOp" => k_fold)
  (k_with "eval Subscript" => k_fold)
  (k_with "subscriptTail" => k_fold)
  (k_with "compareOp" => k_fold)
  exact ⟨rfl, rfl⟩
set_option maxRecDepth 100000 in
set_option maxHeartbeats 8000000 in
theorem lawT (hPl : PlainAll) : rwQ.Holds := by
  refine hd (by rfl) (by rfl) (by rfl) ?_
  k_go0
  rename IntsAre _ _ => hI
  rename List Int => ns
  rename Heap.IsList (ghostOf _ _) _ _ => hl0
  rename ¬ _ => hlen0
  have hlen : ns.length ≤ 63 := by omega
  rename Below _ _ _ _ => B
  rename Fr _ _ _ _ => F1
  rename News _ _ _ _ => N1
  rename (37 : Nat) < _ ∧ _ => hL
  k_dflt refine' law_G (rs := []) hPl _ _ _ ns hI hlen _ _ B F1 (by k_asm) (by k_asm) (by decide) (by decide) hL.1 ?hE ⟨by assumption, by assumption⟩ N1 ?hoc (by rfl) hl0 ?hret
  case hoc => assumption
  case hE => passes_own
  case hret =>
    intro h' tk' m' nw a b F2 N2 q1 q2
    (try dsimp only)
    (k_with "GrownAll" => exact ⟨GrownAt.of N2 q2, GrownAt.of N2 q1, trivial⟩)
    k_steps
end
end Mine
set_option maxRecDepth 100000 in
set_option maxHeartbeats 8000000 in
theorem PySem.Challenge.cw_un0026_01_holds : PySem.Challenge.rw_un0026_01.Holds := by
  rw [← Mine.rwQ_eq]
  exact Mine.lawT Mine.plainAll
