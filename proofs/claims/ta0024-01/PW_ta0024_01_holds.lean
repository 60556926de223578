import PyProof.Rows.All
import Wide.All
import OpenK.AllK
import Wide.FinOn
import PySem.Challenge.RW_ta0024_01
open PySem PySem.W PySem.Calls PyProof.Rows
set_option Elab.async false
set_option maxRecDepth 100000
set_option maxHeartbeats 8000000
set_option linter.unusedVariables false
set_option compiler.extract_closed false
namespace Mine
/-- the n-th statement of a text, and what a def bears: they only help to say the two literals below -/
noncomputable def nthS : Nat → List Stmt → Stmt
  | _, [] => .Pass ⟨0, 0, 0, 0⟩
  | 0, x :: _ => x
  | n + 1, _ :: l => nthS n l
noncomputable def st (i : Nat) : Stmt := nthS i PySem.Challenge.pw_ta0024_01.main.body
noncomputable def bodyS : Stmt → List Stmt
  | .FunctionDef _ _ b _ _ _ _ _ _ _ => b
  | _ => []
noncomputable def argsS : Stmt → Arguments
  | .FunctionDef _ a _ _ _ _ _ _ _ _ => a
  | _ => ⟨[], [], none, [], [], none, []⟩
noncomputable def scopeS : Stmt → Scope
  | .FunctionDef _ _ _ _ _ _ s _ _ _ => s
  | _ => ⟨.function, [], false, false, []⟩
noncomputable def pgL : Program := { (PySem.W.OpenRow.toRowW (PySem.W.OpenLaw.row PySem.Challenge.rw_ta0024_01)).prog with main := { (PySem.W.OpenRow.toRowW (PySem.W.OpenLaw.row PySem.Challenge.rw_ta0024_01)).prog.main with body := [
  (by refine' (?f : (x : Stmt) → x = st 1 → Stmt) _ ?h; (case f => exact fun x _ => x); (case h => conv => rhs; whnf)),
  (by refine' (?f : (x : Stmt) → x = st 2 → Stmt) _ ?h; (case f => exact fun x _ => x); (case h => conv => rhs; whnf)),
  (by refine' (?f : (x : Stmt) → x = st 3 → Stmt) _ ?h; (case f => exact fun x _ => x); (case h => conv => rhs; whnf)),
  (by refine' (?f : (x : Stmt) → x = st 5 → Stmt) _ ?h; (case f => exact fun x _ => x); (case h => conv => rhs; whnf)),
  (by refine' (?f : (x : Stmt) → x = st 6 → Stmt) _ ?h; (case f => exact fun x _ => x); (case h => conv => rhs; whnf)),
  (by refine' (?f : (x : Stmt) → x = st 8 → Stmt) _ ?h; (case f => exact fun x _ => x); (case h => conv => rhs; whnf)),
  (by refine' (?f : (x : Stmt) → x = st 9 → Stmt) _ ?h; (case f => exact fun x _ => x); (case h => conv => rhs; whnf)),
  (by refine' (?f : (x : Stmt) → x = st 10 → Stmt) _ ?h; (case f => exact fun x _ => x); (case h => conv => rhs; whnf)),
  (by refine' (?f : (x : Stmt) → x = st 11 → Stmt) _ ?h; (case f => exact fun x _ => x); (case h => conv => rhs; whnf)),
  (by refine' (?f : (x : Stmt) → x = st 12 → Stmt) _ ?h; (case f => exact fun x _ => x); (case h => conv => rhs; whnf)),
  (by refine' (?f : (x : Stmt) → x = st 13 → Stmt) _ ?h; (case f => exact fun x _ => x); (case h => conv => rhs; whnf)),
  (by refine' (?f : (x : Stmt) → x = st 14 → Stmt) _ ?h; (case f => exact fun x _ => x); (case h => conv => rhs; whnf)),
  (by refine' (?f : (x : Stmt) → x = st 15 → Stmt) _ ?h; (case f => exact fun x _ => x); (case h => conv => rhs; whnf)),
  (by refine' (?f : (x : Stmt) → x = st 16 → Stmt) _ ?h; (case f => exact fun x _ => x); (case h => conv => rhs; whnf)),
  (by refine' (?f : (x : Stmt) → x = st 17 → Stmt) _ ?h; (case f => exact fun x _ => x); (case h => conv => rhs; whnf)),
  (by refine' (?f : (x : Stmt) → x = st 18 → Stmt) _ ?h; (case f => exact fun x _ => x); (case h => conv => rhs; whnf)),
  (by refine' (?f : (x : Stmt) → x = st 20 → Stmt) _ ?h; (case f => exact fun x _ => x); (case h => conv => rhs; whnf)),
  (by refine' (?f : (x : Stmt) → x = st 21 → Stmt) _ ?h; (case f => exact fun x _ => x); (case h => conv => rhs; whnf)),
  (by refine' (?f : (x : Stmt) → x = st 22 → Stmt) _ ?h; (case f => exact fun x _ => x); (case h => conv => rhs; whnf)),
  (by refine' (?f : (x : Stmt) → x = st 23 → Stmt) _ ?h; (case f => exact fun x _ => x); (case h => conv => rhs; whnf)),
  (by refine' (?f : (x : Stmt) → x = st 24 → Stmt) _ ?h; (case f => exact fun x _ => x); (case h => conv => rhs; whnf)),
  (by refine' (?f : (x : Stmt) → x = st 26 → Stmt) _ ?h; (case f => exact fun x _ => x); (case h => conv => rhs; whnf)),
  (by refine' (?f : (x : Stmt) → x = st 27 → Stmt) _ ?h; (case f => exact fun x _ => x); (case h => conv => rhs; whnf)),
  (by refine' (?f : (x : Stmt) → x = st 28 → Stmt) _ ?h; (case f => exact fun x _ => x); (case h => conv => rhs; whnf)),
  (by refine' (?f : (x : Stmt) → x = st 29 → Stmt) _ ?h; (case f => exact fun x _ => x); (case h => conv => rhs; whnf)),
  (by refine' (?f : (x : Stmt) → x = st 30 → Stmt) _ ?h; (case f => exact fun x _ => x); (case h => conv => rhs; whnf)),
  (by refine' (?f : (x : Stmt) → x = st 31 → Stmt) _ ?h; (case f => exact fun x _ => x); (case h => conv => rhs; whnf)),
  (by refine' (?f : (x : Stmt) → x = st 32 → Stmt) _ ?h; (case f => exact fun x _ => x); (case h => conv => rhs; whnf)),
  (by refine' (?f : (x : Stmt) → x = st 33 → Stmt) _ ?h; (case f => exact fun x _ => x); (case h => conv => rhs; whnf)),
  (by refine' (?f : (x : Stmt) → x = st 34 → Stmt) _ ?h; (case f => exact fun x _ => x); (case h => conv => rhs; whnf))] } }
noncomputable def kfL : Params → Frag := fun P =>
  ((nat_lit 2), (@PySem.Obj.mk @PySem.Value.none none (@PySem.Data.dict (List.toArray []) (0 : Nat)) (List.toArray []))) ::
  ((nat_lit 3), (@PySem.Obj.mk (@PySem.Value.type "dict") none (@PySem.Data.dict (List.toArray ((@PySem.DictEntry.mk (@PySem.PyData.keyHash P (@PySem.Str.ofString "__name__")) (@PySem.Value.str (@PySem.Str.ofString "__name__") (165 : Nat)) (@PySem.Value.str (@PySem.Str.ofString "law_ta0024_01") (390 : Nat))) :: (@PySem.DictEntry.mk (@PySem.PyData.keyHash P (@PySem.Str.ofString "__doc__")) (@PySem.Value.str (@PySem.Str.ofString "__doc__") (166 : Nat)) @PySem.Value.none) :: (@PySem.DictEntry.mk (@PySem.PyData.keyHash P (@PySem.Str.ofString "__package__")) (@PySem.Value.str (@PySem.Str.ofString "__package__") (167 : Nat)) @PySem.Value.none) :: (@PySem.DictEntry.mk (@PySem.PyData.keyHash P (@PySem.Str.ofString "__loader__")) (@PySem.Value.str (@PySem.Str.ofString "__loader__") (168 : Nat)) (@PySem.Value.builtin "__main__.__loader__#opaque")) :: (@PySem.DictEntry.mk (@PySem.PyData.keyHash P (@PySem.Str.ofString "__spec__")) (@PySem.Value.str (@PySem.Str.ofString "__spec__") (169 : Nat)) @PySem.Value.none) :: (@PySem.DictEntry.mk (@PySem.PyData.keyHash P (@PySem.Str.ofString "__annotations__")) (@PySem.Value.str (@PySem.Str.ofString "__annotations__") (170 : Nat)) (@PySem.Value.ref (6 : Nat))) :: (@PySem.DictEntry.mk (@PySem.PyData.keyHash P (@PySem.Str.ofString "__builtins__")) (@PySem.Value.str (@PySem.Str.ofString "__builtins__") (171 : Nat)) (@PySem.Value.ref (4 : Nat))) :: (@PySem.DictEntry.mk (@PySem.PyData.keyHash P (@PySem.Str.ofString "__file__")) (@PySem.Value.str (@PySem.Str.ofString "__file__") (173 : Nat)) (@PySem.Value.str (@PySem.Str.ofString "/claim/cut.py") (172 : Nat))) :: (@PySem.DictEntry.mk (@PySem.PyData.keyHash P (@PySem.Str.ofString "__cached__")) (@PySem.Value.str (@PySem.Str.ofString "__cached__") (174 : Nat)) @PySem.Value.none) :: (@PySem.DictEntry.mk (@PySem.PyData.keyHash P (@PySem.Str.ofString "COMPILER_FLAG_NAMES")) (@PySem.Value.str (@PySem.Str.ofString "COMPILER_FLAG_NAMES") (219 : Nat)) (@PySem.Value.ref (15 : Nat))) :: (@PySem.DictEntry.mk (@PySem.PyData.keyHash P (@PySem.Str.ofString "pretty_flags")) (@PySem.Value.str (@PySem.Str.ofString "pretty_flags") (229 : Nat)) (@PySem.Value.ref (22 : Nat))) :: (@PySem.DictEntry.mk (@PySem.PyData.keyHash P (@PySem.Str.ofString "_parse_varint")) (@PySem.Value.str (@PySem.Str.ofString "_parse_varint") (238 : Nat)) (@PySem.Value.ref (29 : Nat))) :: (@PySem.DictEntry.mk (@PySem.PyData.keyHash P (@PySem.Str.ofString "_iter_escaped_chars")) (@PySem.Value.str (@PySem.Str.ofString "_iter_escaped_chars") (250 : Nat)) (@PySem.Value.ref (36 : Nat))) :: (@PySem.DictEntry.mk (@PySem.PyData.keyHash P (@PySem.Str.ofString "_strip_quoted_realnames")) (@PySem.Value.str (@PySem.Str.ofString "_strip_quoted_realnames") (262 : Nat)) (@PySem.Value.ref (43 : Nat))) :: (@PySem.DictEntry.mk (@PySem.PyData.keyHash P (@PySem.Str.ofString "add")) (@PySem.Value.str (@PySem.Str.ofString "add") (272 : Nat)) (@PySem.Value.ref (50 : Nat))) :: (@PySem.DictEntry.mk (@PySem.PyData.keyHash P (@PySem.Str.ofString "and_")) (@PySem.Value.str (@PySem.Str.ofString "and_") (280 : Nat)) (@PySem.Value.ref (57 : Nat))) :: (@PySem.DictEntry.mk (@PySem.PyData.keyHash P (@PySem.Str.ofString "lshift")) (@PySem.Value.str (@PySem.Str.ofString "lshift") (288 : Nat)) (@PySem.Value.ref (64 : Nat))) :: (@PySem.DictEntry.mk (@PySem.PyData.keyHash P (@PySem.Str.ofString "mul")) (@PySem.Value.str (@PySem.Str.ofString "mul") (296 : Nat)) (@PySem.Value.ref (71 : Nat))) :: (@PySem.DictEntry.mk (@PySem.PyData.keyHash P (@PySem.Str.ofString "neg")) (@PySem.Value.str (@PySem.Str.ofString "neg") (303 : Nat)) (@PySem.Value.ref (78 : Nat))) :: (@PySem.DictEntry.mk (@PySem.PyData.keyHash P (@PySem.Str.ofString "rshift")) (@PySem.Value.str (@PySem.Str.ofString "rshift") (311 : Nat)) (@PySem.Value.ref (85 : Nat))) :: (@PySem.DictEntry.mk (@PySem.PyData.keyHash P (@PySem.Str.ofString "sub")) (@PySem.Value.str (@PySem.Str.ofString "sub") (319 : Nat)) (@PySem.Value.ref (92 : Nat))) :: (@PySem.DictEntry.mk (@PySem.PyData.keyHash P (@PySem.Str.ofString "xor")) (@PySem.Value.str (@PySem.Str.ofString "xor") (327 : Nat)) (@PySem.Value.ref (99 : Nat))) :: (@PySem.DictEntry.mk (@PySem.PyData.keyHash P (@PySem.Str.ofString "contains")) (@PySem.Value.str (@PySem.Str.ofString "contains") (335 : Nat)) (@PySem.Value.ref (106 : Nat))) :: (@PySem.DictEntry.mk (@PySem.PyData.keyHash P (@PySem.Str.ofString "getitem")) (@PySem.Value.str (@PySem.Str.ofString "getitem") (343 : Nat)) (@PySem.Value.ref (113 : Nat))) :: (@PySem.DictEntry.mk (@PySem.PyData.keyHash P (@PySem.Str.ofString "indexOf")) (@PySem.Value.str (@PySem.Str.ofString "indexOf") (353 : Nat)) (@PySem.Value.ref (120 : Nat))) :: (@PySem.DictEntry.mk (@PySem.PyData.keyHash P (@PySem.Str.ofString "_MAX_STRING_SIZE")) (@PySem.Value.str (@PySem.Str.ofString "_MAX_STRING_SIZE") (357 : Nat)) (@PySem.Value.int (40 : Int) (356 : Nat))) :: (@PySem.DictEntry.mk (@PySem.PyData.keyHash P (@PySem.Str.ofString "_MOVE_COST")) (@PySem.Value.str (@PySem.Str.ofString "_MOVE_COST") (359 : Nat)) (@PySem.Value.int (2 : Int) (358 : Nat))) :: (@PySem.DictEntry.mk (@PySem.PyData.keyHash P (@PySem.Str.ofString "_CASE_COST")) (@PySem.Value.str (@PySem.Str.ofString "_CASE_COST") (361 : Nat)) (@PySem.Value.int (1 : Int) (360 : Nat))) :: (@PySem.DictEntry.mk (@PySem.PyData.keyHash P (@PySem.Str.ofString "_substitution_cost")) (@PySem.Value.str (@PySem.Str.ofString "_substitution_cost") (369 : Nat)) (@PySem.Value.ref (127 : Nat))) :: (@PySem.DictEntry.mk (@PySem.PyData.keyHash P (@PySem.Str.ofString "_levenshtein_distance")) (@PySem.Value.str (@PySem.Str.ofString "_levenshtein_distance") (389 : Nat)) (@PySem.Value.ref (134 : Nat))) :: (@PySem.DictEntry.mk (@PySem.PyData.keyHash P (@PySem.Str.ofString "_law_octets")) (@PySem.Value.str (@PySem.Str.ofString "_law_octets") (399 : Nat)) (@PySem.Value.ref (141 : Nat))) :: (@PySem.DictEntry.mk (@PySem.PyData.keyHash P (@PySem.Str.ofString "_law_walk")) (@PySem.Value.str (@PySem.Str.ofString "_law_walk") (415 : Nat)) (@PySem.Value.ref (148 : Nat))) :: (@PySem.DictEntry.mk (@PySem.PyData.keyHash P (@PySem.Str.ofString "_law_places")) (@PySem.Value.str (@PySem.Str.ofString "_law_places") (421 : Nat)) (@PySem.Value.ref (153 : Nat))) :: (@PySem.DictEntry.mk (@PySem.PyData.keyHash P (@PySem.Str.ofString "_law_kept")) (@PySem.Value.str (@PySem.Str.ofString "_law_kept") (430 : Nat)) (@PySem.Value.ref (160 : Nat))) :: (@PySem.DictEntry.mk (@PySem.PyData.keyHash P (@PySem.Str.ofString "_law_count")) (@PySem.Value.str (@PySem.Str.ofString "_law_count") (439 : Nat)) (@PySem.Value.ref (167 : Nat))) :: (@PySem.DictEntry.mk (@PySem.PyData.keyHash P (@PySem.Str.ofString "_law_point")) (@PySem.Value.str (@PySem.Str.ofString "_law_point") (454 : Nat)) (@PySem.Value.ref (174 : Nat))) :: (@PySem.DictEntry.mk (@PySem.PyData.keyHash P (@PySem.Str.ofString "_law_word")) (@PySem.Value.str (@PySem.Str.ofString "_law_word") (460 : Nat)) (@PySem.Value.ref (179 : Nat))) :: (@PySem.DictEntry.mk (@PySem.PyData.keyHash P (@PySem.Str.ofString "_law_step")) (@PySem.Value.str (@PySem.Str.ofString "_law_step") (473 : Nat)) (@PySem.Value.ref (186 : Nat))) :: (@PySem.DictEntry.mk (@PySem.PyData.keyHash P (@PySem.Str.ofString "law")) (@PySem.Value.str (@PySem.Str.ofString "law") (479 : Nat)) (@PySem.Value.ref (191 : Nat))) :: [])) (39 : Nat)) (List.toArray []))) ::
  ((nat_lit 15), (@PySem.Obj.mk (@PySem.Value.type "dict") none (@PySem.Data.dict (List.toArray [(@PySem.DictEntry.mk (1 : Int) (@PySem.Value.int (1 : Int) (189 : Nat)) (@PySem.Value.str (@PySem.Str.ofString "OPTIMIZED") (190 : Nat))), (@PySem.DictEntry.mk (2 : Int) (@PySem.Value.int (2 : Int) (191 : Nat)) (@PySem.Value.str (@PySem.Str.ofString "NEWLOCALS") (192 : Nat))), (@PySem.DictEntry.mk (4 : Int) (@PySem.Value.int (4 : Int) (193 : Nat)) (@PySem.Value.str (@PySem.Str.ofString "VARARGS") (194 : Nat))), (@PySem.DictEntry.mk (8 : Int) (@PySem.Value.int (8 : Int) (195 : Nat)) (@PySem.Value.str (@PySem.Str.ofString "VARKEYWORDS") (196 : Nat))), (@PySem.DictEntry.mk (16 : Int) (@PySem.Value.int (16 : Int) (197 : Nat)) (@PySem.Value.str (@PySem.Str.ofString "NESTED") (198 : Nat))), (@PySem.DictEntry.mk (32 : Int) (@PySem.Value.int (32 : Int) (199 : Nat)) (@PySem.Value.str (@PySem.Str.ofString "GENERATOR") (200 : Nat))), (@PySem.DictEntry.mk (64 : Int) (@PySem.Value.int (64 : Int) (201 : Nat)) (@PySem.Value.str (@PySem.Str.ofString "NOFREE") (202 : Nat))), (@PySem.DictEntry.mk (128 : Int) (@PySem.Value.int (128 : Int) (203 : Nat)) (@PySem.Value.str (@PySem.Str.ofString "COROUTINE") (204 : Nat))), (@PySem.DictEntry.mk (256 : Int) (@PySem.Value.int (256 : Int) (205 : Nat)) (@PySem.Value.str (@PySem.Str.ofString "ITERABLE_COROUTINE") (206 : Nat))), (@PySem.DictEntry.mk (512 : Int) (@PySem.Value.int (512 : Int) (207 : Nat)) (@PySem.Value.str (@PySem.Str.ofString "ASYNC_GENERATOR") (208 : Nat)))]) (10 : Nat)) (List.toArray []))) ::
  ((nat_lit 16), (@PySem.Obj.mk (@PySem.Value.type "tuple") none (@PySem.Data.seq (List.toArray []) (0 : Nat)) (List.toArray []))) ::
  ((nat_lit 18), (@PySem.Obj.mk (@PySem.Value.type "tuple") none (@PySem.Data.seq (List.toArray [(@PySem.Value.str (@PySem.Str.ofString "flags") (223 : Nat)), (@PySem.Value.str (@PySem.Str.ofString "names") (224 : Nat)), (@PySem.Value.str (@PySem.Str.ofString "i") (225 : Nat)), (@PySem.Value.str (@PySem.Str.ofString "flag") (226 : Nat))]) (0 : Nat)) (List.toArray []))) ::
  ((nat_lit 19), (@PySem.Obj.mk (@PySem.Value.type "tuple") none (@PySem.Data.seq (List.toArray []) (0 : Nat)) (List.toArray []))) ::
  ((nat_lit 21), (@PySem.Obj.mk (@PySem.Value.type "code") none (@PySem.Data.fields (List.toArray [(@PySem.Value.str (@PySem.Str.ofString "pretty_flags") (220 : Nat)), (@PySem.Value.str (@PySem.Str.ofString "pretty_flags") (221 : Nat)), (@PySem.Value.str (@PySem.Str.ofString "/claim/cut.py") (222 : Nat)), (@PySem.Value.int (3 : Int) (0 : Nat)), (@PySem.Value.int (1 : Int) (0 : Nat)), (@PySem.Value.int (0 : Int) (0 : Nat)), (@PySem.Value.int (0 : Int) (0 : Nat)), (@PySem.Value.int (3 : Int) (0 : Nat)), (@PySem.Value.ref (16 : Nat)), (@PySem.Value.bool @Bool.true), (@PySem.Value.int (181 : Int) (0 : Nat)), (@PySem.Value.ref (17 : Nat)), @PySem.Value.none, (@PySem.Value.ref (18 : Nat)), (@PySem.Value.ref (19 : Nat)), (@PySem.Value.ref (20 : Nat)), (@PySem.Value.int (227 : Int) (0 : Nat)), (@PySem.Value.int (3 : Int) (0 : Nat)), (@PySem.Value.str (@PySem.Str.ofString "/claim/cut.py") (228 : Nat))])) (List.toArray []))) ::
  ((nat_lit 22), (@PySem.Obj.mk (@PySem.Value.type "function") none (@PySem.Data.func (PySem.FuncData.mk (@PySem.Str.ofString "pretty_flags") (@PySem.Str.ofString "pretty_flags") (by refine' (?f : (x : Arguments) → x = argsS (st 2) → Arguments) _ ?h; (case f => exact fun x _ => x); (case h => conv => rhs; whnf)) (.stmts (by refine' (?f : (x : List Stmt) → x = bodyS (st 2) → List Stmt) _ ?h; (case f => exact fun x _ => x); (case h => conv => rhs; whnf))) (by refine' (?f : (x : Scope) → x = scopeS (st 2) → Scope) _ ?h; (case f => exact fun x _ => x); (case h => conv => rhs; whnf)) (3 : Nat) [] @PySem.Value.none @PySem.Value.none @PySem.Value.none (@PySem.Value.str (@PySem.Str.ofString "cpy313.dis") (187 : Nat)) none (@PySem.Value.ref (21 : Nat)) @PySem.Value.none (0 : Nat))) (List.toArray []))) ::
  ((nat_lit 23), (@PySem.Obj.mk (@PySem.Value.type "tuple") none (@PySem.Data.seq (List.toArray []) (0 : Nat)) (List.toArray []))) ::
  ((nat_lit 25), (@PySem.Obj.mk (@PySem.Value.type "tuple") none (@PySem.Data.seq (List.toArray [(@PySem.Value.str (@PySem.Str.ofString "iterator") (233 : Nat)), (@PySem.Value.str (@PySem.Str.ofString "b") (234 : Nat)), (@PySem.Value.str (@PySem.Str.ofString "val") (235 : Nat))]) (0 : Nat)) (List.toArray []))) ::
  ((nat_lit 26), (@PySem.Obj.mk (@PySem.Value.type "tuple") none (@PySem.Data.seq (List.toArray []) (0 : Nat)) (List.toArray []))) ::
  ((nat_lit 28), (@PySem.Obj.mk (@PySem.Value.type "code") none (@PySem.Data.fields (List.toArray [(@PySem.Value.str (@PySem.Str.ofString "_parse_varint") (230 : Nat)), (@PySem.Value.str (@PySem.Str.ofString "_parse_varint") (231 : Nat)), (@PySem.Value.str (@PySem.Str.ofString "/claim/cut.py") (232 : Nat)), (@PySem.Value.int (15 : Int) (0 : Nat)), (@PySem.Value.int (1 : Int) (0 : Nat)), (@PySem.Value.int (0 : Int) (0 : Nat)), (@PySem.Value.int (0 : Int) (0 : Nat)), (@PySem.Value.int (3 : Int) (0 : Nat)), (@PySem.Value.ref (23 : Nat)), (@PySem.Value.bool @Bool.true), (@PySem.Value.int (181 : Int) (0 : Nat)), (@PySem.Value.ref (24 : Nat)), @PySem.Value.none, (@PySem.Value.ref (25 : Nat)), (@PySem.Value.ref (26 : Nat)), (@PySem.Value.ref (27 : Nat)), (@PySem.Value.int (236 : Int) (0 : Nat)), (@PySem.Value.int (15 : Int) (0 : Nat)), (@PySem.Value.str (@PySem.Str.ofString "/claim/cut.py") (237 : Nat))])) (List.toArray []))) ::
  ((nat_lit 29), (@PySem.Obj.mk (@PySem.Value.type "function") none (@PySem.Data.func (PySem.FuncData.mk (@PySem.Str.ofString "_parse_varint") (@PySem.Str.ofString "_parse_varint") (by refine' (?f : (x : Arguments) → x = argsS (st 3) → Arguments) _ ?h; (case f => exact fun x _ => x); (case h => conv => rhs; whnf)) (.stmts (by refine' (?f : (x : List Stmt) → x = bodyS (st 3) → List Stmt) _ ?h; (case f => exact fun x _ => x); (case h => conv => rhs; whnf))) (by refine' (?f : (x : Scope) → x = scopeS (st 3) → Scope) _ ?h; (case f => exact fun x _ => x); (case h => conv => rhs; whnf)) (3 : Nat) [] @PySem.Value.none @PySem.Value.none @PySem.Value.none (@PySem.Value.str (@PySem.Str.ofString "cpy313.dis") (187 : Nat)) none (@PySem.Value.ref (28 : Nat)) @PySem.Value.none (0 : Nat))) (List.toArray []))) ::
  ((nat_lit 30), (@PySem.Obj.mk (@PySem.Value.type "tuple") none (@PySem.Data.seq (List.toArray []) (0 : Nat)) (List.toArray []))) ::
  ((nat_lit 32), (@PySem.Obj.mk (@PySem.Value.type "tuple") none (@PySem.Data.seq (List.toArray [(@PySem.Value.str (@PySem.Str.ofString "addr") (244 : Nat)), (@PySem.Value.str (@PySem.Str.ofString "pos") (245 : Nat)), (@PySem.Value.str (@PySem.Str.ofString "escape") (246 : Nat)), (@PySem.Value.str (@PySem.Str.ofString "ch") (247 : Nat))]) (0 : Nat)) (List.toArray []))) ::
  ((nat_lit 33), (@PySem.Obj.mk (@PySem.Value.type "tuple") none (@PySem.Data.seq (List.toArray []) (0 : Nat)) (List.toArray []))) ::
  ((nat_lit 35), (@PySem.Obj.mk (@PySem.Value.type "code") none (@PySem.Data.fields (List.toArray [(@PySem.Value.str (@PySem.Str.ofString "_iter_escaped_chars") (241 : Nat)), (@PySem.Value.str (@PySem.Str.ofString "_iter_escaped_chars") (242 : Nat)), (@PySem.Value.str (@PySem.Str.ofString "/claim/cut.py") (243 : Nat)), (@PySem.Value.int (24 : Int) (0 : Nat)), (@PySem.Value.int (1 : Int) (0 : Nat)), (@PySem.Value.int (0 : Int) (0 : Nat)), (@PySem.Value.int (0 : Int) (0 : Nat)), (@PySem.Value.int (35 : Int) (0 : Nat)), (@PySem.Value.ref (30 : Nat)), (@PySem.Value.bool @Bool.true), (@PySem.Value.int (181 : Int) (0 : Nat)), (@PySem.Value.ref (31 : Nat)), @PySem.Value.none, (@PySem.Value.ref (32 : Nat)), (@PySem.Value.ref (33 : Nat)), (@PySem.Value.ref (34 : Nat)), (@PySem.Value.int (248 : Int) (0 : Nat)), (@PySem.Value.int (24 : Int) (0 : Nat)), (@PySem.Value.str (@PySem.Str.ofString "/claim/cut.py") (249 : Nat))])) (List.toArray []))) ::
  ((nat_lit 36), (@PySem.Obj.mk (@PySem.Value.type "function") none (@PySem.Data.func (PySem.FuncData.mk (@PySem.Str.ofString "_iter_escaped_chars") (@PySem.Str.ofString "_iter_escaped_chars") (by refine' (?f : (x : Arguments) → x = argsS (st 5) → Arguments) _ ?h; (case f => exact fun x _ => x); (case h => conv => rhs; whnf)) (.stmts (by refine' (?f : (x : List Stmt) → x = bodyS (st 5) → List Stmt) _ ?h; (case f => exact fun x _ => x); (case h => conv => rhs; whnf))) (by refine' (?f : (x : Scope) → x = scopeS (st 5) → Scope) _ ?h; (case f => exact fun x _ => x); (case h => conv => rhs; whnf)) (3 : Nat) [] @PySem.Value.none @PySem.Value.none @PySem.Value.none (@PySem.Value.str (@PySem.Str.ofString "cpy313.email.utils") (239 : Nat)) none (@PySem.Value.ref (35 : Nat)) @PySem.Value.none (0 : Nat))) (List.toArray []))) ::
  ((nat_lit 37), (@PySem.Obj.mk (@PySem.Value.type "tuple") none (@PySem.Data.seq (List.toArray []) (0 : Nat)) (List.toArray []))) ::
  ((nat_lit 39), (@PySem.Obj.mk (@PySem.Value.type "tuple") none (@PySem.Data.seq (List.toArray [(@PySem.Value.str (@PySem.Str.ofString "addr") (254 : Nat)), (@PySem.Value.str (@PySem.Str.ofString "start") (255 : Nat)), (@PySem.Value.str (@PySem.Str.ofString "open_pos") (256 : Nat)), (@PySem.Value.str (@PySem.Str.ofString "result") (257 : Nat)), (@PySem.Value.str (@PySem.Str.ofString "pos") (258 : Nat)), (@PySem.Value.str (@PySem.Str.ofString "ch") (259 : Nat))]) (0 : Nat)) (List.toArray []))) ::
  ((nat_lit 40), (@PySem.Obj.mk (@PySem.Value.type "tuple") none (@PySem.Data.seq (List.toArray []) (0 : Nat)) (List.toArray []))) ::
  ((nat_lit 42), (@PySem.Obj.mk (@PySem.Value.type "code") none (@PySem.Data.fields (List.toArray [(@PySem.Value.str (@PySem.Str.ofString "_strip_quoted_realnames") (251 : Nat)), (@PySem.Value.str (@PySem.Str.ofString "_strip_quoted_realnames") (252 : Nat)), (@PySem.Value.str (@PySem.Str.ofString "/claim/cut.py") (253 : Nat)), (@PySem.Value.int (37 : Int) (0 : Nat)), (@PySem.Value.int (1 : Int) (0 : Nat)), (@PySem.Value.int (0 : Int) (0 : Nat)), (@PySem.Value.int (0 : Int) (0 : Nat)), (@PySem.Value.int (3 : Int) (0 : Nat)), (@PySem.Value.ref (37 : Nat)), (@PySem.Value.bool @Bool.true), (@PySem.Value.int (181 : Int) (0 : Nat)), (@PySem.Value.ref (38 : Nat)), @PySem.Value.none, (@PySem.Value.ref (39 : Nat)), (@PySem.Value.ref (40 : Nat)), (@PySem.Value.ref (41 : Nat)), (@PySem.Value.int (260 : Int) (0 : Nat)), (@PySem.Value.int (37 : Int) (0 : Nat)), (@PySem.Value.str (@PySem.Str.ofString "/claim/cut.py") (261 : Nat))])) (List.toArray []))) ::
  ((nat_lit 43), (@PySem.Obj.mk (@PySem.Value.type "function") none (@PySem.Data.func (PySem.FuncData.mk (@PySem.Str.ofString "_strip_quoted_realnames") (@PySem.Str.ofString "_strip_quoted_realnames") (by refine' (?f : (x : Arguments) → x = argsS (st 6) → Arguments) _ ?h; (case f => exact fun x _ => x); (case h => conv => rhs; whnf)) (.stmts (by refine' (?f : (x : List Stmt) → x = bodyS (st 6) → List Stmt) _ ?h; (case f => exact fun x _ => x); (case h => conv => rhs; whnf))) (by refine' (?f : (x : Scope) → x = scopeS (st 6) → Scope) _ ?h; (case f => exact fun x _ => x); (case h => conv => rhs; whnf)) (3 : Nat) [] @PySem.Value.none @PySem.Value.none @PySem.Value.none (@PySem.Value.str (@PySem.Str.ofString "cpy313.email.utils") (239 : Nat)) none (@PySem.Value.ref (42 : Nat)) @PySem.Value.none (0 : Nat))) (List.toArray []))) ::
  ((nat_lit 44), (@PySem.Obj.mk (@PySem.Value.type "tuple") none (@PySem.Data.seq (List.toArray []) (0 : Nat)) (List.toArray []))) ::
  ((nat_lit 46), (@PySem.Obj.mk (@PySem.Value.type "tuple") none (@PySem.Data.seq (List.toArray [(@PySem.Value.str (@PySem.Str.ofString "a") (268 : Nat)), (@PySem.Value.str (@PySem.Str.ofString "b") (269 : Nat))]) (0 : Nat)) (List.toArray []))) ::
  ((nat_lit 47), (@PySem.Obj.mk (@PySem.Value.type "tuple") none (@PySem.Data.seq (List.toArray []) (0 : Nat)) (List.toArray []))) ::
  ((nat_lit 49), (@PySem.Obj.mk (@PySem.Value.type "code") none (@PySem.Data.fields (List.toArray [(@PySem.Value.str (@PySem.Str.ofString "add") (265 : Nat)), (@PySem.Value.str (@PySem.Str.ofString "add") (266 : Nat)), (@PySem.Value.str (@PySem.Str.ofString "/claim/cut.py") (267 : Nat)), (@PySem.Value.int (56 : Int) (0 : Nat)), (@PySem.Value.int (2 : Int) (0 : Nat)), (@PySem.Value.int (0 : Int) (0 : Nat)), (@PySem.Value.int (0 : Int) (0 : Nat)), (@PySem.Value.int (3 : Int) (0 : Nat)), (@PySem.Value.ref (44 : Nat)), (@PySem.Value.bool @Bool.true), (@PySem.Value.int (181 : Int) (0 : Nat)), (@PySem.Value.ref (45 : Nat)), @PySem.Value.none, (@PySem.Value.ref (46 : Nat)), (@PySem.Value.ref (47 : Nat)), (@PySem.Value.ref (48 : Nat)), (@PySem.Value.int (270 : Int) (0 : Nat)), (@PySem.Value.int (56 : Int) (0 : Nat)), (@PySem.Value.str (@PySem.Str.ofString "/claim/cut.py") (271 : Nat))])) (List.toArray []))) ::
  ((nat_lit 50), (@PySem.Obj.mk (@PySem.Value.type "function") none (@PySem.Data.func (PySem.FuncData.mk (@PySem.Str.ofString "add") (@PySem.Str.ofString "add") (by refine' (?f : (x : Arguments) → x = argsS (st 8) → Arguments) _ ?h; (case f => exact fun x _ => x); (case h => conv => rhs; whnf)) (.stmts (by refine' (?f : (x : List Stmt) → x = bodyS (st 8) → List Stmt) _ ?h; (case f => exact fun x _ => x); (case h => conv => rhs; whnf))) (by refine' (?f : (x : Scope) → x = scopeS (st 8) → Scope) _ ?h; (case f => exact fun x _ => x); (case h => conv => rhs; whnf)) (3 : Nat) [] @PySem.Value.none @PySem.Value.none @PySem.Value.none (@PySem.Value.str (@PySem.Str.ofString "cpy313.operator") (263 : Nat)) none (@PySem.Value.ref (49 : Nat)) @PySem.Value.none (0 : Nat))) (List.toArray []))) ::
  ((nat_lit 51), (@PySem.Obj.mk (@PySem.Value.type "tuple") none (@PySem.Data.seq (List.toArray []) (0 : Nat)) (List.toArray []))) ::
  ((nat_lit 53), (@PySem.Obj.mk (@PySem.Value.type "tuple") none (@PySem.Data.seq (List.toArray [(@PySem.Value.str (@PySem.Str.ofString "a") (276 : Nat)), (@PySem.Value.str (@PySem.Str.ofString "b") (277 : Nat))]) (0 : Nat)) (List.toArray []))) ::
  ((nat_lit 54), (@PySem.Obj.mk (@PySem.Value.type "tuple") none (@PySem.Data.seq (List.toArray []) (0 : Nat)) (List.toArray []))) ::
  ((nat_lit 56), (@PySem.Obj.mk (@PySem.Value.type "code") none (@PySem.Data.fields (List.toArray [(@PySem.Value.str (@PySem.Str.ofString "and_") (273 : Nat)), (@PySem.Value.str (@PySem.Str.ofString "and_") (274 : Nat)), (@PySem.Value.str (@PySem.Str.ofString "/claim/cut.py") (275 : Nat)), (@PySem.Value.int (58 : Int) (0 : Nat)), (@PySem.Value.int (2 : Int) (0 : Nat)), (@PySem.Value.int (0 : Int) (0 : Nat)), (@PySem.Value.int (0 : Int) (0 : Nat)), (@PySem.Value.int (3 : Int) (0 : Nat)), (@PySem.Value.ref (51 : Nat)), (@PySem.Value.bool @Bool.true), (@PySem.Value.int (181 : Int) (0 : Nat)), (@PySem.Value.ref (52 : Nat)), @PySem.Value.none, (@PySem.Value.ref (53 : Nat)), (@PySem.Value.ref (54 : Nat)), (@PySem.Value.ref (55 : Nat)), (@PySem.Value.int (278 : Int) (0 : Nat)), (@PySem.Value.int (58 : Int) (0 : Nat)), (@PySem.Value.str (@PySem.Str.ofString "/claim/cut.py") (279 : Nat))])) (List.toArray []))) ::
  ((nat_lit 57), (@PySem.Obj.mk (@PySem.Value.type "function") none (@PySem.Data.func (PySem.FuncData.mk (@PySem.Str.ofString "and_") (@PySem.Str.ofString "and_") (by refine' (?f : (x : Arguments) → x = argsS (st 9) → Arguments) _ ?h; (case f => exact fun x _ => x); (case h => conv => rhs; whnf)) (.stmts (by refine' (?f : (x : List Stmt) → x = bodyS (st 9) → List Stmt) _ ?h; (case f => exact fun x _ => x); (case h => conv => rhs; whnf))) (by refine' (?f : (x : Scope) → x = scopeS (st 9) → Scope) _ ?h; (case f => exact fun x _ => x); (case h => conv => rhs; whnf)) (3 : Nat) [] @PySem.Value.none @PySem.Value.none @PySem.Value.none (@PySem.Value.str (@PySem.Str.ofString "cpy313.operator") (263 : Nat)) none (@PySem.Value.ref (56 : Nat)) @PySem.Value.none (0 : Nat))) (List.toArray []))) ::
  ((nat_lit 58), (@PySem.Obj.mk (@PySem.Value.type "tuple") none (@PySem.Data.seq (List.toArray []) (0 : Nat)) (List.toArray []))) ::
  ((nat_lit 60), (@PySem.Obj.mk (@PySem.Value.type "tuple") none (@PySem.Data.seq (List.toArray [(@PySem.Value.str (@PySem.Str.ofString "a") (284 : Nat)), (@PySem.Value.str (@PySem.Str.ofString "b") (285 : Nat))]) (0 : Nat)) (List.toArray []))) ::
  ((nat_lit 61), (@PySem.Obj.mk (@PySem.Value.type "tuple") none (@PySem.Data.seq (List.toArray []) (0 : Nat)) (List.toArray []))) ::
  ((nat_lit 63), (@PySem.Obj.mk (@PySem.Value.type "code") none (@PySem.Data.fields (List.toArray [(@PySem.Value.str (@PySem.Str.ofString "lshift") (281 : Nat)), (@PySem.Value.str (@PySem.Str.ofString "lshift") (282 : Nat)), (@PySem.Value.str (@PySem.Str.ofString "/claim/cut.py") (283 : Nat)), (@PySem.Value.int (60 : Int) (0 : Nat)), (@PySem.Value.int (2 : Int) (0 : Nat)), (@PySem.Value.int (0 : Int) (0 : Nat)), (@PySem.Value.int (0 : Int) (0 : Nat)), (@PySem.Value.int (3 : Int) (0 : Nat)), (@PySem.Value.ref (58 : Nat)), (@PySem.Value.bool @Bool.true), (@PySem.Value.int (181 : Int) (0 : Nat)), (@PySem.Value.ref (59 : Nat)), @PySem.Value.none, (@PySem.Value.ref (60 : Nat)), (@PySem.Value.ref (61 : Nat)), (@PySem.Value.ref (62 : Nat)), (@PySem.Value.int (286 : Int) (0 : Nat)), (@PySem.Value.int (60 : Int) (0 : Nat)), (@PySem.Value.str (@PySem.Str.ofString "/claim/cut.py") (287 : Nat))])) (List.toArray []))) ::
  ((nat_lit 64), (@PySem.Obj.mk (@PySem.Value.type "function") none (@PySem.Data.func (PySem.FuncData.mk (@PySem.Str.ofString "lshift") (@PySem.Str.ofString "lshift") (by refine' (?f : (x : Arguments) → x = argsS (st 10) → Arguments) _ ?h; (case f => exact fun x _ => x); (case h => conv => rhs; whnf)) (.stmts (by refine' (?f : (x : List Stmt) → x = bodyS (st 10) → List Stmt) _ ?h; (case f => exact fun x _ => x); (case h => conv => rhs; whnf))) (by refine' (?f : (x : Scope) → x = scopeS (st 10) → Scope) _ ?h; (case f => exact fun x _ => x); (case h => conv => rhs; whnf)) (3 : Nat) [] @PySem.Value.none @PySem.Value.none @PySem.Value.none (@PySem.Value.str (@PySem.Str.ofString "cpy313.operator") (263 : Nat)) none (@PySem.Value.ref (63 : Nat)) @PySem.Value.none (0 : Nat))) (List.toArray []))) ::
  ((nat_lit 65), (@PySem.Obj.mk (@PySem.Value.type "tuple") none (@PySem.Data.seq (List.toArray []) (0 : Nat)) (List.toArray []))) ::
  ((nat_lit 67), (@PySem.Obj.mk (@PySem.Value.type "tuple") none (@PySem.Data.seq (List.toArray [(@PySem.Value.str (@PySem.Str.ofString "a") (292 : Nat)), (@PySem.Value.str (@PySem.Str.ofString "b") (293 : Nat))]) (0 : Nat)) (List.toArray []))) ::
  ((nat_lit 68), (@PySem.Obj.mk (@PySem.Value.type "tuple") none (@PySem.Data.seq (List.toArray []) (0 : Nat)) (List.toArray []))) ::
  ((nat_lit 70), (@PySem.Obj.mk (@PySem.Value.type "code") none (@PySem.Data.fields (List.toArray [(@PySem.Value.str (@PySem.Str.ofString "mul") (289 : Nat)), (@PySem.Value.str (@PySem.Str.ofString "mul") (290 : Nat)), (@PySem.Value.str (@PySem.Str.ofString "/claim/cut.py") (291 : Nat)), (@PySem.Value.int (62 : Int) (0 : Nat)), (@PySem.Value.int (2 : Int) (0 : Nat)), (@PySem.Value.int (0 : Int) (0 : Nat)), (@PySem.Value.int (0 : Int) (0 : Nat)), (@PySem.Value.int (3 : Int) (0 : Nat)), (@PySem.Value.ref (65 : Nat)), (@PySem.Value.bool @Bool.true), (@PySem.Value.int (181 : Int) (0 : Nat)), (@PySem.Value.ref (66 : Nat)), @PySem.Value.none, (@PySem.Value.ref (67 : Nat)), (@PySem.Value.ref (68 : Nat)), (@PySem.Value.ref (69 : Nat)), (@PySem.Value.int (294 : Int) (0 : Nat)), (@PySem.Value.int (62 : Int) (0 : Nat)), (@PySem.Value.str (@PySem.Str.ofString "/claim/cut.py") (295 : Nat))])) (List.toArray []))) ::
  ((nat_lit 71), (@PySem.Obj.mk (@PySem.Value.type "function") none (@PySem.Data.func (PySem.FuncData.mk (@PySem.Str.ofString "mul") (@PySem.Str.ofString "mul") (by refine' (?f : (x : Arguments) → x = argsS (st 11) → Arguments) _ ?h; (case f => exact fun x _ => x); (case h => conv => rhs; whnf)) (.stmts (by refine' (?f : (x : List Stmt) → x = bodyS (st 11) → List Stmt) _ ?h; (case f => exact fun x _ => x); (case h => conv => rhs; whnf))) (by refine' (?f : (x : Scope) → x = scopeS (st 11) → Scope) _ ?h; (case f => exact fun x _ => x); (case h => conv => rhs; whnf)) (3 : Nat) [] @PySem.Value.none @PySem.Value.none @PySem.Value.none (@PySem.Value.str (@PySem.Str.ofString "cpy313.operator") (263 : Nat)) none (@PySem.Value.ref (70 : Nat)) @PySem.Value.none (0 : Nat))) (List.toArray []))) ::
  ((nat_lit 72), (@PySem.Obj.mk (@PySem.Value.type "tuple") none (@PySem.Data.seq (List.toArray []) (0 : Nat)) (List.toArray []))) ::
  ((nat_lit 74), (@PySem.Obj.mk (@PySem.Value.type "tuple") none (@PySem.Data.seq (List.toArray [(@PySem.Value.str (@PySem.Str.ofString "a") (300 : Nat))]) (0 : Nat)) (List.toArray []))) ::
  ((nat_lit 75), (@PySem.Obj.mk (@PySem.Value.type "tuple") none (@PySem.Data.seq (List.toArray []) (0 : Nat)) (List.toArray []))) ::
  ((nat_lit 77), (@PySem.Obj.mk (@PySem.Value.type "code") none (@PySem.Data.fields (List.toArray [(@PySem.Value.str (@PySem.Str.ofString "neg") (297 : Nat)), (@PySem.Value.str (@PySem.Str.ofString "neg") (298 : Nat)), (@PySem.Value.str (@PySem.Str.ofString "/claim/cut.py") (299 : Nat)), (@PySem.Value.int (64 : Int) (0 : Nat)), (@PySem.Value.int (1 : Int) (0 : Nat)), (@PySem.Value.int (0 : Int) (0 : Nat)), (@PySem.Value.int (0 : Int) (0 : Nat)), (@PySem.Value.int (3 : Int) (0 : Nat)), (@PySem.Value.ref (72 : Nat)), (@PySem.Value.bool @Bool.true), (@PySem.Value.int (181 : Int) (0 : Nat)), (@PySem.Value.ref (73 : Nat)), @PySem.Value.none, (@PySem.Value.ref (74 : Nat)), (@PySem.Value.ref (75 : Nat)), (@PySem.Value.ref (76 : Nat)), (@PySem.Value.int (301 : Int) (0 : Nat)), (@PySem.Value.int (64 : Int) (0 : Nat)), (@PySem.Value.str (@PySem.Str.ofString "/claim/cut.py") (302 : Nat))])) (List.toArray []))) ::
  ((nat_lit 78), (@PySem.Obj.mk (@PySem.Value.type "function") none (@PySem.Data.func (PySem.FuncData.mk (@PySem.Str.ofString "neg") (@PySem.Str.ofString "neg") (by refine' (?f : (x : Arguments) → x = argsS (st 12) → Arguments) _ ?h; (case f => exact fun x _ => x); (case h => conv => rhs; whnf)) (.stmts (by refine' (?f : (x : List Stmt) → x = bodyS (st 12) → List Stmt) _ ?h; (case f => exact fun x _ => x); (case h => conv => rhs; whnf))) (by refine' (?f : (x : Scope) → x = scopeS (st 12) → Scope) _ ?h; (case f => exact fun x _ => x); (case h => conv => rhs; whnf)) (3 : Nat) [] @PySem.Value.none @PySem.Value.none @PySem.Value.none (@PySem.Value.str (@PySem.Str.ofString "cpy313.operator") (263 : Nat)) none (@PySem.Value.ref (77 : Nat)) @PySem.Value.none (0 : Nat))) (List.toArray []))) ::
  ((nat_lit 79), (@PySem.Obj.mk (@PySem.Value.type "tuple") none (@PySem.Data.seq (List.toArray []) (0 : Nat)) (List.toArray []))) ::
  ((nat_lit 81), (@PySem.Obj.mk (@PySem.Value.type "tuple") none (@PySem.Data.seq (List.toArray [(@PySem.Value.str (@PySem.Str.ofString "a") (307 : Nat)), (@PySem.Value.str (@PySem.Str.ofString "b") (308 : Nat))]) (0 : Nat)) (List.toArray []))) ::
  ((nat_lit 82), (@PySem.Obj.mk (@PySem.Value.type "tuple") none (@PySem.Data.seq (List.toArray []) (0 : Nat)) (List.toArray []))) ::
  ((nat_lit 84), (@PySem.Obj.mk (@PySem.Value.type "code") none (@PySem.Data.fields (List.toArray [(@PySem.Value.str (@PySem.Str.ofString "rshift") (304 : Nat)), (@PySem.Value.str (@PySem.Str.ofString "rshift") (305 : Nat)), (@PySem.Value.str (@PySem.Str.ofString "/claim/cut.py") (306 : Nat)), (@PySem.Value.int (66 : Int) (0 : Nat)), (@PySem.Value.int (2 : Int) (0 : Nat)), (@PySem.Value.int (0 : Int) (0 : Nat)), (@PySem.Value.int (0 : Int) (0 : Nat)), (@PySem.Value.int (3 : Int) (0 : Nat)), (@PySem.Value.ref (79 : Nat)), (@PySem.Value.bool @Bool.true), (@PySem.Value.int (181 : Int) (0 : Nat)), (@PySem.Value.ref (80 : Nat)), @PySem.Value.none, (@PySem.Value.ref (81 : Nat)), (@PySem.Value.ref (82 : Nat)), (@PySem.Value.ref (83 : Nat)), (@PySem.Value.int (309 : Int) (0 : Nat)), (@PySem.Value.int (66 : Int) (0 : Nat)), (@PySem.Value.str (@PySem.Str.ofString "/claim/cut.py") (310 : Nat))])) (List.toArray []))) ::
  ((nat_lit 85), (@PySem.Obj.mk (@PySem.Value.type "function") none (@PySem.Data.func (PySem.FuncData.mk (@PySem.Str.ofString "rshift") (@PySem.Str.ofString "rshift") (by refine' (?f : (x : Arguments) → x = argsS (st 13) → Arguments) _ ?h; (case f => exact fun x _ => x); (case h => conv => rhs; whnf)) (.stmts (by refine' (?f : (x : List Stmt) → x = bodyS (st 13) → List Stmt) _ ?h; (case f => exact fun x _ => x); (case h => conv => rhs; whnf))) (by refine' (?f : (x : Scope) → x = scopeS (st 13) → Scope) _ ?h; (case f => exact fun x _ => x); (case h => conv => rhs; whnf)) (3 : Nat) [] @PySem.Value.none @PySem.Value.none @PySem.Value.none (@PySem.Value.str (@PySem.Str.ofString "cpy313.operator") (263 : Nat)) none (@PySem.Value.ref (84 : Nat)) @PySem.Value.none (0 : Nat))) (List.toArray []))) ::
  ((nat_lit 86), (@PySem.Obj.mk (@PySem.Value.type "tuple") none (@PySem.Data.seq (List.toArray []) (0 : Nat)) (List.toArray []))) ::
  ((nat_lit 88), (@PySem.Obj.mk (@PySem.Value.type "tuple") none (@PySem.Data.seq (List.toArray [(@PySem.Value.str (@PySem.Str.ofString "a") (315 : Nat)), (@PySem.Value.str (@PySem.Str.ofString "b") (316 : Nat))]) (0 : Nat)) (List.toArray []))) ::
  ((nat_lit 89), (@PySem.Obj.mk (@PySem.Value.type "tuple") none (@PySem.Data.seq (List.toArray []) (0 : Nat)) (List.toArray []))) ::
  ((nat_lit 91), (@PySem.Obj.mk (@PySem.Value.type "code") none (@PySem.Data.fields (List.toArray [(@PySem.Value.str (@PySem.Str.ofString "sub") (312 : Nat)), (@PySem.Value.str (@PySem.Str.ofString "sub") (313 : Nat)), (@PySem.Value.str (@PySem.Str.ofString "/claim/cut.py") (314 : Nat)), (@PySem.Value.int (68 : Int) (0 : Nat)), (@PySem.Value.int (2 : Int) (0 : Nat)), (@PySem.Value.int (0 : Int) (0 : Nat)), (@PySem.Value.int (0 : Int) (0 : Nat)), (@PySem.Value.int (3 : Int) (0 : Nat)), (@PySem.Value.ref (86 : Nat)), (@PySem.Value.bool @Bool.true), (@PySem.Value.int (181 : Int) (0 : Nat)), (@PySem.Value.ref (87 : Nat)), @PySem.Value.none, (@PySem.Value.ref (88 : Nat)), (@PySem.Value.ref (89 : Nat)), (@PySem.Value.ref (90 : Nat)), (@PySem.Value.int (317 : Int) (0 : Nat)), (@PySem.Value.int (68 : Int) (0 : Nat)), (@PySem.Value.str (@PySem.Str.ofString "/claim/cut.py") (318 : Nat))])) (List.toArray []))) ::
  ((nat_lit 92), (@PySem.Obj.mk (@PySem.Value.type "function") none (@PySem.Data.func (PySem.FuncData.mk (@PySem.Str.ofString "sub") (@PySem.Str.ofString "sub") (by refine' (?f : (x : Arguments) → x = argsS (st 14) → Arguments) _ ?h; (case f => exact fun x _ => x); (case h => conv => rhs; whnf)) (.stmts (by refine' (?f : (x : List Stmt) → x = bodyS (st 14) → List Stmt) _ ?h; (case f => exact fun x _ => x); (case h => conv => rhs; whnf))) (by refine' (?f : (x : Scope) → x = scopeS (st 14) → Scope) _ ?h; (case f => exact fun x _ => x); (case h => conv => rhs; whnf)) (3 : Nat) [] @PySem.Value.none @PySem.Value.none @PySem.Value.none (@PySem.Value.str (@PySem.Str.ofString "cpy313.operator") (263 : Nat)) none (@PySem.Value.ref (91 : Nat)) @PySem.Value.none (0 : Nat))) (List.toArray []))) ::
  ((nat_lit 93), (@PySem.Obj.mk (@PySem.Value.type "tuple") none (@PySem.Data.seq (List.toArray []) (0 : Nat)) (List.toArray []))) ::
  ((nat_lit 95), (@PySem.Obj.mk (@PySem.Value.type "tuple") none (@PySem.Data.seq (List.toArray [(@PySem.Value.str (@PySem.Str.ofString "a") (323 : Nat)), (@PySem.Value.str (@PySem.Str.ofString "b") (324 : Nat))]) (0 : Nat)) (List.toArray []))) ::
  ((nat_lit 96), (@PySem.Obj.mk (@PySem.Value.type "tuple") none (@PySem.Data.seq (List.toArray []) (0 : Nat)) (List.toArray []))) ::
  ((nat_lit 98), (@PySem.Obj.mk (@PySem.Value.type "code") none (@PySem.Data.fields (List.toArray [(@PySem.Value.str (@PySem.Str.ofString "xor") (320 : Nat)), (@PySem.Value.str (@PySem.Str.ofString "xor") (321 : Nat)), (@PySem.Value.str (@PySem.Str.ofString "/claim/cut.py") (322 : Nat)), (@PySem.Value.int (70 : Int) (0 : Nat)), (@PySem.Value.int (2 : Int) (0 : Nat)), (@PySem.Value.int (0 : Int) (0 : Nat)), (@PySem.Value.int (0 : Int) (0 : Nat)), (@PySem.Value.int (3 : Int) (0 : Nat)), (@PySem.Value.ref (93 : Nat)), (@PySem.Value.bool @Bool.true), (@PySem.Value.int (181 : Int) (0 : Nat)), (@PySem.Value.ref (94 : Nat)), @PySem.Value.none, (@PySem.Value.ref (95 : Nat)), (@PySem.Value.ref (96 : Nat)), (@PySem.Value.ref (97 : Nat)), (@PySem.Value.int (325 : Int) (0 : Nat)), (@PySem.Value.int (70 : Int) (0 : Nat)), (@PySem.Value.str (@PySem.Str.ofString "/claim/cut.py") (326 : Nat))])) (List.toArray []))) ::
  ((nat_lit 99), (@PySem.Obj.mk (@PySem.Value.type "function") none (@PySem.Data.func (PySem.FuncData.mk (@PySem.Str.ofString "xor") (@PySem.Str.ofString "xor") (by refine' (?f : (x : Arguments) → x = argsS (st 15) → Arguments) _ ?h; (case f => exact fun x _ => x); (case h => conv => rhs; whnf)) (.stmts (by refine' (?f : (x : List Stmt) → x = bodyS (st 15) → List Stmt) _ ?h; (case f => exact fun x _ => x); (case h => conv => rhs; whnf))) (by refine' (?f : (x : Scope) → x = scopeS (st 15) → Scope) _ ?h; (case f => exact fun x _ => x); (case h => conv => rhs; whnf)) (3 : Nat) [] @PySem.Value.none @PySem.Value.none @PySem.Value.none (@PySem.Value.str (@PySem.Str.ofString "cpy313.operator") (263 : Nat)) none (@PySem.Value.ref (98 : Nat)) @PySem.Value.none (0 : Nat))) (List.toArray []))) ::
  ((nat_lit 100), (@PySem.Obj.mk (@PySem.Value.type "tuple") none (@PySem.Data.seq (List.toArray []) (0 : Nat)) (List.toArray []))) ::
  ((nat_lit 102), (@PySem.Obj.mk (@PySem.Value.type "tuple") none (@PySem.Data.seq (List.toArray [(@PySem.Value.str (@PySem.Str.ofString "a") (331 : Nat)), (@PySem.Value.str (@PySem.Str.ofString "b") (332 : Nat))]) (0 : Nat)) (List.toArray []))) ::
  ((nat_lit 103), (@PySem.Obj.mk (@PySem.Value.type "tuple") none (@PySem.Data.seq (List.toArray []) (0 : Nat)) (List.toArray []))) ::
  ((nat_lit 105), (@PySem.Obj.mk (@PySem.Value.type "code") none (@PySem.Data.fields (List.toArray [(@PySem.Value.str (@PySem.Str.ofString "contains") (328 : Nat)), (@PySem.Value.str (@PySem.Str.ofString "contains") (329 : Nat)), (@PySem.Value.str (@PySem.Str.ofString "/claim/cut.py") (330 : Nat)), (@PySem.Value.int (72 : Int) (0 : Nat)), (@PySem.Value.int (2 : Int) (0 : Nat)), (@PySem.Value.int (0 : Int) (0 : Nat)), (@PySem.Value.int (0 : Int) (0 : Nat)), (@PySem.Value.int (3 : Int) (0 : Nat)), (@PySem.Value.ref (100 : Nat)), (@PySem.Value.bool @Bool.true), (@PySem.Value.int (181 : Int) (0 : Nat)), (@PySem.Value.ref (101 : Nat)), @PySem.Value.none, (@PySem.Value.ref (102 : Nat)), (@PySem.Value.ref (103 : Nat)), (@PySem.Value.ref (104 : Nat)), (@PySem.Value.int (333 : Int) (0 : Nat)), (@PySem.Value.int (72 : Int) (0 : Nat)), (@PySem.Value.str (@PySem.Str.ofString "/claim/cut.py") (334 : Nat))])) (List.toArray []))) ::
  ((nat_lit 106), (@PySem.Obj.mk (@PySem.Value.type "function") none (@PySem.Data.func (PySem.FuncData.mk (@PySem.Str.ofString "contains") (@PySem.Str.ofString "contains") (by refine' (?f : (x : Arguments) → x = argsS (st 16) → Arguments) _ ?h; (case f => exact fun x _ => x); (case h => conv => rhs; whnf)) (.stmts (by refine' (?f : (x : List Stmt) → x = bodyS (st 16) → List Stmt) _ ?h; (case f => exact fun x _ => x); (case h => conv => rhs; whnf))) (by refine' (?f : (x : Scope) → x = scopeS (st 16) → Scope) _ ?h; (case f => exact fun x _ => x); (case h => conv => rhs; whnf)) (3 : Nat) [] @PySem.Value.none @PySem.Value.none @PySem.Value.none (@PySem.Value.str (@PySem.Str.ofString "cpy313.operator") (263 : Nat)) none (@PySem.Value.ref (105 : Nat)) @PySem.Value.none (0 : Nat))) (List.toArray []))) ::
  ((nat_lit 107), (@PySem.Obj.mk (@PySem.Value.type "tuple") none (@PySem.Data.seq (List.toArray []) (0 : Nat)) (List.toArray []))) ::
  ((nat_lit 109), (@PySem.Obj.mk (@PySem.Value.type "tuple") none (@PySem.Data.seq (List.toArray [(@PySem.Value.str (@PySem.Str.ofString "a") (339 : Nat)), (@PySem.Value.str (@PySem.Str.ofString "b") (340 : Nat))]) (0 : Nat)) (List.toArray []))) ::
  ((nat_lit 110), (@PySem.Obj.mk (@PySem.Value.type "tuple") none (@PySem.Data.seq (List.toArray []) (0 : Nat)) (List.toArray []))) ::
  ((nat_lit 112), (@PySem.Obj.mk (@PySem.Value.type "code") none (@PySem.Data.fields (List.toArray [(@PySem.Value.str (@PySem.Str.ofString "getitem") (336 : Nat)), (@PySem.Value.str (@PySem.Str.ofString "getitem") (337 : Nat)), (@PySem.Value.str (@PySem.Str.ofString "/claim/cut.py") (338 : Nat)), (@PySem.Value.int (74 : Int) (0 : Nat)), (@PySem.Value.int (2 : Int) (0 : Nat)), (@PySem.Value.int (0 : Int) (0 : Nat)), (@PySem.Value.int (0 : Int) (0 : Nat)), (@PySem.Value.int (3 : Int) (0 : Nat)), (@PySem.Value.ref (107 : Nat)), (@PySem.Value.bool @Bool.true), (@PySem.Value.int (181 : Int) (0 : Nat)), (@PySem.Value.ref (108 : Nat)), @PySem.Value.none, (@PySem.Value.ref (109 : Nat)), (@PySem.Value.ref (110 : Nat)), (@PySem.Value.ref (111 : Nat)), (@PySem.Value.int (341 : Int) (0 : Nat)), (@PySem.Value.int (74 : Int) (0 : Nat)), (@PySem.Value.str (@PySem.Str.ofString "/claim/cut.py") (342 : Nat))])) (List.toArray []))) ::
  ((nat_lit 113), (@PySem.Obj.mk (@PySem.Value.type "function") none (@PySem.Data.func (PySem.FuncData.mk (@PySem.Str.ofString "getitem") (@PySem.Str.ofString "getitem") (by refine' (?f : (x : Arguments) → x = argsS (st 17) → Arguments) _ ?h; (case f => exact fun x _ => x); (case h => conv => rhs; whnf)) (.stmts (by refine' (?f : (x : List Stmt) → x = bodyS (st 17) → List Stmt) _ ?h; (case f => exact fun x _ => x); (case h => conv => rhs; whnf))) (by refine' (?f : (x : Scope) → x = scopeS (st 17) → Scope) _ ?h; (case f => exact fun x _ => x); (case h => conv => rhs; whnf)) (3 : Nat) [] @PySem.Value.none @PySem.Value.none @PySem.Value.none (@PySem.Value.str (@PySem.Str.ofString "cpy313.operator") (263 : Nat)) none (@PySem.Value.ref (112 : Nat)) @PySem.Value.none (0 : Nat))) (List.toArray []))) ::
  ((nat_lit 114), (@PySem.Obj.mk (@PySem.Value.type "tuple") none (@PySem.Data.seq (List.toArray []) (0 : Nat)) (List.toArray []))) ::
  ((nat_lit 116), (@PySem.Obj.mk (@PySem.Value.type "tuple") none (@PySem.Data.seq (List.toArray [(@PySem.Value.str (@PySem.Str.ofString "a") (347 : Nat)), (@PySem.Value.str (@PySem.Str.ofString "b") (348 : Nat)), (@PySem.Value.str (@PySem.Str.ofString "i") (349 : Nat)), (@PySem.Value.str (@PySem.Str.ofString "j") (350 : Nat))]) (0 : Nat)) (List.toArray []))) ::
  ((nat_lit 117), (@PySem.Obj.mk (@PySem.Value.type "tuple") none (@PySem.Data.seq (List.toArray []) (0 : Nat)) (List.toArray []))) ::
  ((nat_lit 119), (@PySem.Obj.mk (@PySem.Value.type "code") none (@PySem.Data.fields (List.toArray [(@PySem.Value.str (@PySem.Str.ofString "indexOf") (344 : Nat)), (@PySem.Value.str (@PySem.Str.ofString "indexOf") (345 : Nat)), (@PySem.Value.str (@PySem.Str.ofString "/claim/cut.py") (346 : Nat)), (@PySem.Value.int (76 : Int) (0 : Nat)), (@PySem.Value.int (2 : Int) (0 : Nat)), (@PySem.Value.int (0 : Int) (0 : Nat)), (@PySem.Value.int (0 : Int) (0 : Nat)), (@PySem.Value.int (3 : Int) (0 : Nat)), (@PySem.Value.ref (114 : Nat)), (@PySem.Value.bool @Bool.true), (@PySem.Value.int (181 : Int) (0 : Nat)), (@PySem.Value.ref (115 : Nat)), @PySem.Value.none, (@PySem.Value.ref (116 : Nat)), (@PySem.Value.ref (117 : Nat)), (@PySem.Value.ref (118 : Nat)), (@PySem.Value.int (351 : Int) (0 : Nat)), (@PySem.Value.int (76 : Int) (0 : Nat)), (@PySem.Value.str (@PySem.Str.ofString "/claim/cut.py") (352 : Nat))])) (List.toArray []))) ::
  ((nat_lit 120), (@PySem.Obj.mk (@PySem.Value.type "function") none (@PySem.Data.func (PySem.FuncData.mk (@PySem.Str.ofString "indexOf") (@PySem.Str.ofString "indexOf") (by refine' (?f : (x : Arguments) → x = argsS (st 18) → Arguments) _ ?h; (case f => exact fun x _ => x); (case h => conv => rhs; whnf)) (.stmts (by refine' (?f : (x : List Stmt) → x = bodyS (st 18) → List Stmt) _ ?h; (case f => exact fun x _ => x); (case h => conv => rhs; whnf))) (by refine' (?f : (x : Scope) → x = scopeS (st 18) → Scope) _ ?h; (case f => exact fun x _ => x); (case h => conv => rhs; whnf)) (3 : Nat) [] @PySem.Value.none @PySem.Value.none @PySem.Value.none (@PySem.Value.str (@PySem.Str.ofString "cpy313.operator") (263 : Nat)) none (@PySem.Value.ref (119 : Nat)) @PySem.Value.none (0 : Nat))) (List.toArray []))) ::
  ((nat_lit 121), (@PySem.Obj.mk (@PySem.Value.type "tuple") none (@PySem.Data.seq (List.toArray []) (0 : Nat)) (List.toArray []))) ::
  ((nat_lit 123), (@PySem.Obj.mk (@PySem.Value.type "tuple") none (@PySem.Data.seq (List.toArray [(@PySem.Value.str (@PySem.Str.ofString "ch_a") (365 : Nat)), (@PySem.Value.str (@PySem.Str.ofString "ch_b") (366 : Nat))]) (0 : Nat)) (List.toArray []))) ::
  ((nat_lit 124), (@PySem.Obj.mk (@PySem.Value.type "tuple") none (@PySem.Data.seq (List.toArray []) (0 : Nat)) (List.toArray []))) ::
  ((nat_lit 126), (@PySem.Obj.mk (@PySem.Value.type "code") none (@PySem.Data.fields (List.toArray [(@PySem.Value.str (@PySem.Str.ofString "_substitution_cost") (362 : Nat)), (@PySem.Value.str (@PySem.Str.ofString "_substitution_cost") (363 : Nat)), (@PySem.Value.str (@PySem.Str.ofString "/claim/cut.py") (364 : Nat)), (@PySem.Value.int (86 : Int) (0 : Nat)), (@PySem.Value.int (2 : Int) (0 : Nat)), (@PySem.Value.int (0 : Int) (0 : Nat)), (@PySem.Value.int (0 : Int) (0 : Nat)), (@PySem.Value.int (3 : Int) (0 : Nat)), (@PySem.Value.ref (121 : Nat)), (@PySem.Value.bool @Bool.true), (@PySem.Value.int (181 : Int) (0 : Nat)), (@PySem.Value.ref (122 : Nat)), @PySem.Value.none, (@PySem.Value.ref (123 : Nat)), (@PySem.Value.ref (124 : Nat)), (@PySem.Value.ref (125 : Nat)), (@PySem.Value.int (367 : Int) (0 : Nat)), (@PySem.Value.int (86 : Int) (0 : Nat)), (@PySem.Value.str (@PySem.Str.ofString "/claim/cut.py") (368 : Nat))])) (List.toArray []))) ::
  ((nat_lit 127), (@PySem.Obj.mk (@PySem.Value.type "function") none (@PySem.Data.func (PySem.FuncData.mk (@PySem.Str.ofString "_substitution_cost") (@PySem.Str.ofString "_substitution_cost") (by refine' (?f : (x : Arguments) → x = argsS (st 23) → Arguments) _ ?h; (case f => exact fun x _ => x); (case h => conv => rhs; whnf)) (.stmts (by refine' (?f : (x : List Stmt) → x = bodyS (st 23) → List Stmt) _ ?h; (case f => exact fun x _ => x); (case h => conv => rhs; whnf))) (by refine' (?f : (x : Scope) → x = scopeS (st 23) → Scope) _ ?h; (case f => exact fun x _ => x); (case h => conv => rhs; whnf)) (3 : Nat) [] @PySem.Value.none @PySem.Value.none @PySem.Value.none (@PySem.Value.str (@PySem.Str.ofString "cpy313.traceback") (354 : Nat)) none (@PySem.Value.ref (126 : Nat)) @PySem.Value.none (0 : Nat))) (List.toArray []))) ::
  ((nat_lit 128), (@PySem.Obj.mk (@PySem.Value.type "tuple") none (@PySem.Data.seq (List.toArray []) (0 : Nat)) (List.toArray []))) ::
  ((nat_lit 130), (@PySem.Obj.mk (@PySem.Value.type "tuple") none (@PySem.Data.seq (List.toArray [(@PySem.Value.str (@PySem.Str.ofString "a") (373 : Nat)), (@PySem.Value.str (@PySem.Str.ofString "b") (374 : Nat)), (@PySem.Value.str (@PySem.Str.ofString "max_cost") (375 : Nat)), (@PySem.Value.str (@PySem.Str.ofString "pre") (376 : Nat)), (@PySem.Value.str (@PySem.Str.ofString "post") (377 : Nat)), (@PySem.Value.str (@PySem.Str.ofString "row") (378 : Nat)), (@PySem.Value.str (@PySem.Str.ofString "result") (379 : Nat)), (@PySem.Value.str (@PySem.Str.ofString "bindex") (380 : Nat)), (@PySem.Value.str (@PySem.Str.ofString "bchar") (381 : Nat)), (@PySem.Value.str (@PySem.Str.ofString "distance") (382 : Nat)), (@PySem.Value.str (@PySem.Str.ofString "minimum") (383 : Nat)), (@PySem.Value.str (@PySem.Str.ofString "index") (384 : Nat)), (@PySem.Value.str (@PySem.Str.ofString "substitute") (385 : Nat)), (@PySem.Value.str (@PySem.Str.ofString "insert_delete") (386 : Nat))]) (0 : Nat)) (List.toArray []))) ::
  ((nat_lit 131), (@PySem.Obj.mk (@PySem.Value.type "tuple") none (@PySem.Data.seq (List.toArray []) (0 : Nat)) (List.toArray []))) ::
  ((nat_lit 133), (@PySem.Obj.mk (@PySem.Value.type "code") none (@PySem.Data.fields (List.toArray [(@PySem.Value.str (@PySem.Str.ofString "_levenshtein_distance") (370 : Nat)), (@PySem.Value.str (@PySem.Str.ofString "_levenshtein_distance") (371 : Nat)), (@PySem.Value.str (@PySem.Str.ofString "/claim/cut.py") (372 : Nat)), (@PySem.Value.int (92 : Int) (0 : Nat)), (@PySem.Value.int (3 : Int) (0 : Nat)), (@PySem.Value.int (0 : Int) (0 : Nat)), (@PySem.Value.int (0 : Int) (0 : Nat)), (@PySem.Value.int (3 : Int) (0 : Nat)), (@PySem.Value.ref (128 : Nat)), (@PySem.Value.bool @Bool.true), (@PySem.Value.int (181 : Int) (0 : Nat)), (@PySem.Value.ref (129 : Nat)), @PySem.Value.none, (@PySem.Value.ref (130 : Nat)), (@PySem.Value.ref (131 : Nat)), (@PySem.Value.ref (132 : Nat)), (@PySem.Value.int (387 : Int) (0 : Nat)), (@PySem.Value.int (92 : Int) (0 : Nat)), (@PySem.Value.str (@PySem.Str.ofString "/claim/cut.py") (388 : Nat))])) (List.toArray []))) ::
  ((nat_lit 134), (@PySem.Obj.mk (@PySem.Value.type "function") none (@PySem.Data.func (PySem.FuncData.mk (@PySem.Str.ofString "_levenshtein_distance") (@PySem.Str.ofString "_levenshtein_distance") (by refine' (?f : (x : Arguments) → x = argsS (st 24) → Arguments) _ ?h; (case f => exact fun x _ => x); (case h => conv => rhs; whnf)) (.stmts (by refine' (?f : (x : List Stmt) → x = bodyS (st 24) → List Stmt) _ ?h; (case f => exact fun x _ => x); (case h => conv => rhs; whnf))) (by refine' (?f : (x : Scope) → x = scopeS (st 24) → Scope) _ ?h; (case f => exact fun x _ => x); (case h => conv => rhs; whnf)) (3 : Nat) [] @PySem.Value.none @PySem.Value.none @PySem.Value.none (@PySem.Value.str (@PySem.Str.ofString "cpy313.traceback") (354 : Nat)) none (@PySem.Value.ref (133 : Nat)) @PySem.Value.none (0 : Nat))) (List.toArray []))) ::
  ((nat_lit 135), (@PySem.Obj.mk (@PySem.Value.type "tuple") none (@PySem.Data.seq (List.toArray []) (0 : Nat)) (List.toArray []))) ::
  ((nat_lit 137), (@PySem.Obj.mk (@PySem.Value.type "tuple") none (@PySem.Data.seq (List.toArray [(@PySem.Value.str (@PySem.Str.ofString "number") (395 : Nat)), (@PySem.Value.str (@PySem.Str.ofString "digits") (396 : Nat))]) (0 : Nat)) (List.toArray []))) ::
  ((nat_lit 138), (@PySem.Obj.mk (@PySem.Value.type "tuple") none (@PySem.Data.seq (List.toArray []) (0 : Nat)) (List.toArray []))) ::
  ((nat_lit 140), (@PySem.Obj.mk (@PySem.Value.type "code") none (@PySem.Data.fields (List.toArray [(@PySem.Value.str (@PySem.Str.ofString "_law_octets") (392 : Nat)), (@PySem.Value.str (@PySem.Str.ofString "_law_octets") (393 : Nat)), (@PySem.Value.str (@PySem.Str.ofString "/claim/cut.py") (394 : Nat)), (@PySem.Value.int (131 : Int) (0 : Nat)), (@PySem.Value.int (1 : Int) (0 : Nat)), (@PySem.Value.int (0 : Int) (0 : Nat)), (@PySem.Value.int (0 : Int) (0 : Nat)), (@PySem.Value.int (3 : Int) (0 : Nat)), (@PySem.Value.ref (135 : Nat)), (@PySem.Value.bool @Bool.true), (@PySem.Value.int (181 : Int) (0 : Nat)), (@PySem.Value.ref (136 : Nat)), @PySem.Value.none, (@PySem.Value.ref (137 : Nat)), (@PySem.Value.ref (138 : Nat)), (@PySem.Value.ref (139 : Nat)), (@PySem.Value.int (397 : Int) (0 : Nat)), (@PySem.Value.int (131 : Int) (0 : Nat)), (@PySem.Value.str (@PySem.Str.ofString "/claim/cut.py") (398 : Nat))])) (List.toArray []))) ::
  ((nat_lit 141), (@PySem.Obj.mk (@PySem.Value.type "function") none (@PySem.Data.func (PySem.FuncData.mk (@PySem.Str.ofString "_law_octets") (@PySem.Str.ofString "_law_octets") (by refine' (?f : (x : Arguments) → x = argsS (st 26) → Arguments) _ ?h; (case f => exact fun x _ => x); (case h => conv => rhs; whnf)) (.stmts (by refine' (?f : (x : List Stmt) → x = bodyS (st 26) → List Stmt) _ ?h; (case f => exact fun x _ => x); (case h => conv => rhs; whnf))) (by refine' (?f : (x : Scope) → x = scopeS (st 26) → Scope) _ ?h; (case f => exact fun x _ => x); (case h => conv => rhs; whnf)) (3 : Nat) [] @PySem.Value.none @PySem.Value.none @PySem.Value.none (@PySem.Value.str (@PySem.Str.ofString "law_ta0024_01") (390 : Nat)) none (@PySem.Value.ref (140 : Nat)) @PySem.Value.none (0 : Nat))) (List.toArray []))) ::
  ((nat_lit 142), (@PySem.Obj.mk (@PySem.Value.type "tuple") none (@PySem.Data.seq (List.toArray []) (0 : Nat)) (List.toArray []))) ::
  ((nat_lit 144), (@PySem.Obj.mk (@PySem.Value.type "tuple") none (@PySem.Data.seq (List.toArray [(@PySem.Value.str (@PySem.Str.ofString "sides") (403 : Nat)), (@PySem.Value.str (@PySem.Str.ofString "most") (404 : Nat)), (@PySem.Value.str (@PySem.Str.ofString "folds") (405 : Nat)), (@PySem.Value.str (@PySem.Str.ofString "fold") (406 : Nat)), (@PySem.Value.str (@PySem.Str.ofString "east") (407 : Nat)), (@PySem.Value.str (@PySem.Str.ofString "north") (408 : Nat)), (@PySem.Value.str (@PySem.Str.ofString "right") (409 : Nat)), (@PySem.Value.str (@PySem.Str.ofString "up") (410 : Nat)), (@PySem.Value.str (@PySem.Str.ofString "bent") (411 : Nat)), (@PySem.Value.str (@PySem.Str.ofString "rows") (412 : Nat))]) (0 : Nat)) (List.toArray []))) ::
  ((nat_lit 145), (@PySem.Obj.mk (@PySem.Value.type "tuple") none (@PySem.Data.seq (List.toArray []) (0 : Nat)) (List.toArray []))) ::
  ((nat_lit 147), (@PySem.Obj.mk (@PySem.Value.type "code") none (@PySem.Data.fields (List.toArray [(@PySem.Value.str (@PySem.Str.ofString "_law_walk") (400 : Nat)), (@PySem.Value.str (@PySem.Str.ofString "_law_walk") (401 : Nat)), (@PySem.Value.str (@PySem.Str.ofString "/claim/cut.py") (402 : Nat)), (@PySem.Value.int (137 : Int) (0 : Nat)), (@PySem.Value.int (2 : Int) (0 : Nat)), (@PySem.Value.int (0 : Int) (0 : Nat)), (@PySem.Value.int (0 : Int) (0 : Nat)), (@PySem.Value.int (3 : Int) (0 : Nat)), (@PySem.Value.ref (142 : Nat)), (@PySem.Value.bool @Bool.true), (@PySem.Value.int (181 : Int) (0 : Nat)), (@PySem.Value.ref (143 : Nat)), @PySem.Value.none, (@PySem.Value.ref (144 : Nat)), (@PySem.Value.ref (145 : Nat)), (@PySem.Value.ref (146 : Nat)), (@PySem.Value.int (413 : Int) (0 : Nat)), (@PySem.Value.int (137 : Int) (0 : Nat)), (@PySem.Value.str (@PySem.Str.ofString "/claim/cut.py") (414 : Nat))])) (List.toArray []))) ::
  ((nat_lit 148), (@PySem.Obj.mk (@PySem.Value.type "function") none (@PySem.Data.func (PySem.FuncData.mk (@PySem.Str.ofString "_law_walk") (@PySem.Str.ofString "_law_walk") (by refine' (?f : (x : Arguments) → x = argsS (st 27) → Arguments) _ ?h; (case f => exact fun x _ => x); (case h => conv => rhs; whnf)) (.stmts (by refine' (?f : (x : List Stmt) → x = bodyS (st 27) → List Stmt) _ ?h; (case f => exact fun x _ => x); (case h => conv => rhs; whnf))) (by refine' (?f : (x : Scope) → x = scopeS (st 27) → Scope) _ ?h; (case f => exact fun x _ => x); (case h => conv => rhs; whnf)) (3 : Nat) [] @PySem.Value.none @PySem.Value.none @PySem.Value.none (@PySem.Value.str (@PySem.Str.ofString "law_ta0024_01") (390 : Nat)) none (@PySem.Value.ref (147 : Nat)) @PySem.Value.none (0 : Nat))) (List.toArray []))) ::
  ((nat_lit 149), (@PySem.Obj.mk (@PySem.Value.type "tuple") none (@PySem.Data.seq (List.toArray []) (0 : Nat)) (List.toArray []))) ::
  ((nat_lit 152), (@PySem.Obj.mk (@PySem.Value.type "code") none (@PySem.Data.fields (List.toArray [(@PySem.Value.str (@PySem.Str.ofString "_law_places") (416 : Nat)), (@PySem.Value.str (@PySem.Str.ofString "_law_places") (417 : Nat)), (@PySem.Value.str (@PySem.Str.ofString "/claim/cut.py") (418 : Nat)), (@PySem.Value.int (154 : Int) (0 : Nat)), (@PySem.Value.int (1 : Int) (0 : Nat)), (@PySem.Value.int (0 : Int) (0 : Nat)), (@PySem.Value.int (0 : Int) (0 : Nat)), (@PySem.Value.int (3 : Int) (0 : Nat)), (@PySem.Value.ref (149 : Nat)), (@PySem.Value.bool @Bool.true), (@PySem.Value.int (181 : Int) (0 : Nat)), (@PySem.Value.ref (150 : Nat)), @PySem.Value.none, @PySem.Value.none, @PySem.Value.none, (@PySem.Value.ref (151 : Nat)), (@PySem.Value.int (419 : Int) (0 : Nat)), (@PySem.Value.int (154 : Int) (0 : Nat)), (@PySem.Value.str (@PySem.Str.ofString "/claim/cut.py") (420 : Nat))])) (List.toArray []))) ::
  ((nat_lit 153), (@PySem.Obj.mk (@PySem.Value.type "function") none (@PySem.Data.func (PySem.FuncData.mk (@PySem.Str.ofString "_law_places") (@PySem.Str.ofString "_law_places") (by refine' (?f : (x : Arguments) → x = argsS (st 28) → Arguments) _ ?h; (case f => exact fun x _ => x); (case h => conv => rhs; whnf)) (.stmts (by refine' (?f : (x : List Stmt) → x = bodyS (st 28) → List Stmt) _ ?h; (case f => exact fun x _ => x); (case h => conv => rhs; whnf))) (by refine' (?f : (x : Scope) → x = scopeS (st 28) → Scope) _ ?h; (case f => exact fun x _ => x); (case h => conv => rhs; whnf)) (3 : Nat) [] @PySem.Value.none @PySem.Value.none @PySem.Value.none (@PySem.Value.str (@PySem.Str.ofString "law_ta0024_01") (390 : Nat)) none (@PySem.Value.ref (152 : Nat)) @PySem.Value.none (0 : Nat))) (List.toArray []))) ::
  ((nat_lit 154), (@PySem.Obj.mk (@PySem.Value.type "tuple") none (@PySem.Data.seq (List.toArray []) (0 : Nat)) (List.toArray []))) ::
  ((nat_lit 156), (@PySem.Obj.mk (@PySem.Value.type "tuple") none (@PySem.Data.seq (List.toArray [(@PySem.Value.str (@PySem.Str.ofString "marks") (425 : Nat)), (@PySem.Value.str (@PySem.Str.ofString "text") (426 : Nat)), (@PySem.Value.str (@PySem.Str.ofString "place") (427 : Nat))]) (0 : Nat)) (List.toArray []))) ::
  ((nat_lit 157), (@PySem.Obj.mk (@PySem.Value.type "tuple") none (@PySem.Data.seq (List.toArray []) (0 : Nat)) (List.toArray []))) ::
  ((nat_lit 159), (@PySem.Obj.mk (@PySem.Value.type "code") none (@PySem.Data.fields (List.toArray [(@PySem.Value.str (@PySem.Str.ofString "_law_kept") (422 : Nat)), (@PySem.Value.str (@PySem.Str.ofString "_law_kept") (423 : Nat)), (@PySem.Value.str (@PySem.Str.ofString "/claim/cut.py") (424 : Nat)), (@PySem.Value.int (160 : Int) (0 : Nat)), (@PySem.Value.int (1 : Int) (0 : Nat)), (@PySem.Value.int (0 : Int) (0 : Nat)), (@PySem.Value.int (0 : Int) (0 : Nat)), (@PySem.Value.int (3 : Int) (0 : Nat)), (@PySem.Value.ref (154 : Nat)), (@PySem.Value.bool @Bool.true), (@PySem.Value.int (181 : Int) (0 : Nat)), (@PySem.Value.ref (155 : Nat)), @PySem.Value.none, (@PySem.Value.ref (156 : Nat)), (@PySem.Value.ref (157 : Nat)), (@PySem.Value.ref (158 : Nat)), (@PySem.Value.int (428 : Int) (0 : Nat)), (@PySem.Value.int (160 : Int) (0 : Nat)), (@PySem.Value.str (@PySem.Str.ofString "/claim/cut.py") (429 : Nat))])) (List.toArray []))) ::
  ((nat_lit 160), (@PySem.Obj.mk (@PySem.Value.type "function") none (@PySem.Data.func (PySem.FuncData.mk (@PySem.Str.ofString "_law_kept") (@PySem.Str.ofString "_law_kept") (by refine' (?f : (x : Arguments) → x = argsS (st 29) → Arguments) _ ?h; (case f => exact fun x _ => x); (case h => conv => rhs; whnf)) (.stmts (by refine' (?f : (x : List Stmt) → x = bodyS (st 29) → List Stmt) _ ?h; (case f => exact fun x _ => x); (case h => conv => rhs; whnf))) (by refine' (?f : (x : Scope) → x = scopeS (st 29) → Scope) _ ?h; (case f => exact fun x _ => x); (case h => conv => rhs; whnf)) (3 : Nat) [] @PySem.Value.none @PySem.Value.none @PySem.Value.none (@PySem.Value.str (@PySem.Str.ofString "law_ta0024_01") (390 : Nat)) none (@PySem.Value.ref (159 : Nat)) @PySem.Value.none (0 : Nat))) (List.toArray []))) ::
  ((nat_lit 161), (@PySem.Obj.mk (@PySem.Value.type "tuple") none (@PySem.Data.seq (List.toArray []) (0 : Nat)) (List.toArray []))) ::
  ((nat_lit 163), (@PySem.Obj.mk (@PySem.Value.type "tuple") none (@PySem.Data.seq (List.toArray [(@PySem.Value.str (@PySem.Str.ofString "kept") (434 : Nat)), (@PySem.Value.str (@PySem.Str.ofString "count") (435 : Nat)), (@PySem.Value.str (@PySem.Str.ofString "sign") (436 : Nat))]) (0 : Nat)) (List.toArray []))) ::
  ((nat_lit 164), (@PySem.Obj.mk (@PySem.Value.type "tuple") none (@PySem.Data.seq (List.toArray []) (0 : Nat)) (List.toArray []))) ::
  ((nat_lit 166), (@PySem.Obj.mk (@PySem.Value.type "code") none (@PySem.Data.fields (List.toArray [(@PySem.Value.str (@PySem.Str.ofString "_law_count") (431 : Nat)), (@PySem.Value.str (@PySem.Str.ofString "_law_count") (432 : Nat)), (@PySem.Value.str (@PySem.Str.ofString "/claim/cut.py") (433 : Nat)), (@PySem.Value.int (167 : Int) (0 : Nat)), (@PySem.Value.int (1 : Int) (0 : Nat)), (@PySem.Value.int (0 : Int) (0 : Nat)), (@PySem.Value.int (0 : Int) (0 : Nat)), (@PySem.Value.int (3 : Int) (0 : Nat)), (@PySem.Value.ref (161 : Nat)), (@PySem.Value.bool @Bool.true), (@PySem.Value.int (181 : Int) (0 : Nat)), (@PySem.Value.ref (162 : Nat)), @PySem.Value.none, (@PySem.Value.ref (163 : Nat)), (@PySem.Value.ref (164 : Nat)), (@PySem.Value.ref (165 : Nat)), (@PySem.Value.int (437 : Int) (0 : Nat)), (@PySem.Value.int (167 : Int) (0 : Nat)), (@PySem.Value.str (@PySem.Str.ofString "/claim/cut.py") (438 : Nat))])) (List.toArray []))) ::
  ((nat_lit 167), (@PySem.Obj.mk (@PySem.Value.type "function") none (@PySem.Data.func (PySem.FuncData.mk (@PySem.Str.ofString "_law_count") (@PySem.Str.ofString "_law_count") (by refine' (?f : (x : Arguments) → x = argsS (st 30) → Arguments) _ ?h; (case f => exact fun x _ => x); (case h => conv => rhs; whnf)) (.stmts (by refine' (?f : (x : List Stmt) → x = bodyS (st 30) → List Stmt) _ ?h; (case f => exact fun x _ => x); (case h => conv => rhs; whnf))) (by refine' (?f : (x : Scope) → x = scopeS (st 30) → Scope) _ ?h; (case f => exact fun x _ => x); (case h => conv => rhs; whnf)) (3 : Nat) [] @PySem.Value.none @PySem.Value.none @PySem.Value.none (@PySem.Value.str (@PySem.Str.ofString "law_ta0024_01") (390 : Nat)) none (@PySem.Value.ref (166 : Nat)) @PySem.Value.none (0 : Nat))) (List.toArray []))) ::
  ((nat_lit 168), (@PySem.Obj.mk (@PySem.Value.type "tuple") none (@PySem.Data.seq (List.toArray []) (0 : Nat)) (List.toArray []))) ::
  ((nat_lit 170), (@PySem.Obj.mk (@PySem.Value.type "tuple") none (@PySem.Data.seq (List.toArray [(@PySem.Value.str (@PySem.Str.ofString "marks") (443 : Nat)), (@PySem.Value.str (@PySem.Str.ofString "sides") (444 : Nat)), (@PySem.Value.str (@PySem.Str.ofString "ends") (445 : Nat)), (@PySem.Value.str (@PySem.Str.ofString "side") (446 : Nat)), (@PySem.Value.str (@PySem.Str.ofString "x") (447 : Nat)), (@PySem.Value.str (@PySem.Str.ofString "y") (448 : Nat)), (@PySem.Value.str (@PySem.Str.ofString "east") (449 : Nat)), (@PySem.Value.str (@PySem.Str.ofString "north") (450 : Nat)), (@PySem.Value.str (@PySem.Str.ofString "mark") (451 : Nat))]) (0 : Nat)) (List.toArray []))) ::
  ((nat_lit 171), (@PySem.Obj.mk (@PySem.Value.type "tuple") none (@PySem.Data.seq (List.toArray []) (0 : Nat)) (List.toArray []))) ::
  ((nat_lit 173), (@PySem.Obj.mk (@PySem.Value.type "code") none (@PySem.Data.fields (List.toArray [(@PySem.Value.str (@PySem.Str.ofString "_law_point") (440 : Nat)), (@PySem.Value.str (@PySem.Str.ofString "_law_point") (441 : Nat)), (@PySem.Value.str (@PySem.Str.ofString "/claim/cut.py") (442 : Nat)), (@PySem.Value.int (172 : Int) (0 : Nat)), (@PySem.Value.int (2 : Int) (0 : Nat)), (@PySem.Value.int (0 : Int) (0 : Nat)), (@PySem.Value.int (0 : Int) (0 : Nat)), (@PySem.Value.int (3 : Int) (0 : Nat)), (@PySem.Value.ref (168 : Nat)), (@PySem.Value.bool @Bool.true), (@PySem.Value.int (181 : Int) (0 : Nat)), (@PySem.Value.ref (169 : Nat)), @PySem.Value.none, (@PySem.Value.ref (170 : Nat)), (@PySem.Value.ref (171 : Nat)), (@PySem.Value.ref (172 : Nat)), (@PySem.Value.int (452 : Int) (0 : Nat)), (@PySem.Value.int (172 : Int) (0 : Nat)), (@PySem.Value.str (@PySem.Str.ofString "/claim/cut.py") (453 : Nat))])) (List.toArray []))) ::
  ((nat_lit 174), (@PySem.Obj.mk (@PySem.Value.type "function") none (@PySem.Data.func (PySem.FuncData.mk (@PySem.Str.ofString "_law_point") (@PySem.Str.ofString "_law_point") (by refine' (?f : (x : Arguments) → x = argsS (st 31) → Arguments) _ ?h; (case f => exact fun x _ => x); (case h => conv => rhs; whnf)) (.stmts (by refine' (?f : (x : List Stmt) → x = bodyS (st 31) → List Stmt) _ ?h; (case f => exact fun x _ => x); (case h => conv => rhs; whnf))) (by refine' (?f : (x : Scope) → x = scopeS (st 31) → Scope) _ ?h; (case f => exact fun x _ => x); (case h => conv => rhs; whnf)) (3 : Nat) [] @PySem.Value.none @PySem.Value.none @PySem.Value.none (@PySem.Value.str (@PySem.Str.ofString "law_ta0024_01") (390 : Nat)) none (@PySem.Value.ref (173 : Nat)) @PySem.Value.none (0 : Nat))) (List.toArray []))) ::
  ((nat_lit 175), (@PySem.Obj.mk (@PySem.Value.type "tuple") none (@PySem.Data.seq (List.toArray []) (0 : Nat)) (List.toArray []))) ::
  ((nat_lit 178), (@PySem.Obj.mk (@PySem.Value.type "code") none (@PySem.Data.fields (List.toArray [(@PySem.Value.str (@PySem.Str.ofString "_law_word") (455 : Nat)), (@PySem.Value.str (@PySem.Str.ofString "_law_word") (456 : Nat)), (@PySem.Value.str (@PySem.Str.ofString "/claim/cut.py") (457 : Nat)), (@PySem.Value.int (183 : Int) (0 : Nat)), (@PySem.Value.int (1 : Int) (0 : Nat)), (@PySem.Value.int (0 : Int) (0 : Nat)), (@PySem.Value.int (0 : Int) (0 : Nat)), (@PySem.Value.int (3 : Int) (0 : Nat)), (@PySem.Value.ref (175 : Nat)), (@PySem.Value.bool @Bool.true), (@PySem.Value.int (181 : Int) (0 : Nat)), (@PySem.Value.ref (176 : Nat)), @PySem.Value.none, @PySem.Value.none, @PySem.Value.none, (@PySem.Value.ref (177 : Nat)), (@PySem.Value.int (458 : Int) (0 : Nat)), (@PySem.Value.int (183 : Int) (0 : Nat)), (@PySem.Value.str (@PySem.Str.ofString "/claim/cut.py") (459 : Nat))])) (List.toArray []))) ::
  ((nat_lit 179), (@PySem.Obj.mk (@PySem.Value.type "function") none (@PySem.Data.func (PySem.FuncData.mk (@PySem.Str.ofString "_law_word") (@PySem.Str.ofString "_law_word") (by refine' (?f : (x : Arguments) → x = argsS (st 32) → Arguments) _ ?h; (case f => exact fun x _ => x); (case h => conv => rhs; whnf)) (.stmts (by refine' (?f : (x : List Stmt) → x = bodyS (st 32) → List Stmt) _ ?h; (case f => exact fun x _ => x); (case h => conv => rhs; whnf))) (by refine' (?f : (x : Scope) → x = scopeS (st 32) → Scope) _ ?h; (case f => exact fun x _ => x); (case h => conv => rhs; whnf)) (3 : Nat) [] @PySem.Value.none @PySem.Value.none @PySem.Value.none (@PySem.Value.str (@PySem.Str.ofString "law_ta0024_01") (390 : Nat)) none (@PySem.Value.ref (178 : Nat)) @PySem.Value.none (0 : Nat))) (List.toArray []))) ::
  ((nat_lit 180), (@PySem.Obj.mk (@PySem.Value.type "tuple") none (@PySem.Data.seq (List.toArray []) (0 : Nat)) (List.toArray []))) ::
  ((nat_lit 182), (@PySem.Obj.mk (@PySem.Value.type "tuple") none (@PySem.Data.seq (List.toArray [(@PySem.Value.str (@PySem.Str.ofString "count") (464 : Nat)), (@PySem.Value.str (@PySem.Str.ofString "sides") (465 : Nat)), (@PySem.Value.str (@PySem.Str.ofString "half") (466 : Nat)), (@PySem.Value.str (@PySem.Str.ofString "right") (467 : Nat)), (@PySem.Value.str (@PySem.Str.ofString "up") (468 : Nat)), (@PySem.Value.str (@PySem.Str.ofString "place") (469 : Nat)), (@PySem.Value.str (@PySem.Str.ofString "quarter") (470 : Nat))]) (0 : Nat)) (List.toArray []))) ::
  ((nat_lit 183), (@PySem.Obj.mk (@PySem.Value.type "tuple") none (@PySem.Data.seq (List.toArray []) (0 : Nat)) (List.toArray []))) ::
  ((nat_lit 185), (@PySem.Obj.mk (@PySem.Value.type "code") none (@PySem.Data.fields (List.toArray [(@PySem.Value.str (@PySem.Str.ofString "_law_step") (461 : Nat)), (@PySem.Value.str (@PySem.Str.ofString "_law_step") (462 : Nat)), (@PySem.Value.str (@PySem.Str.ofString "/claim/cut.py") (463 : Nat)), (@PySem.Value.int (185 : Int) (0 : Nat)), (@PySem.Value.int (2 : Int) (0 : Nat)), (@PySem.Value.int (0 : Int) (0 : Nat)), (@PySem.Value.int (0 : Int) (0 : Nat)), (@PySem.Value.int (3 : Int) (0 : Nat)), (@PySem.Value.ref (180 : Nat)), (@PySem.Value.bool @Bool.true), (@PySem.Value.int (181 : Int) (0 : Nat)), (@PySem.Value.ref (181 : Nat)), @PySem.Value.none, (@PySem.Value.ref (182 : Nat)), (@PySem.Value.ref (183 : Nat)), (@PySem.Value.ref (184 : Nat)), (@PySem.Value.int (471 : Int) (0 : Nat)), (@PySem.Value.int (185 : Int) (0 : Nat)), (@PySem.Value.str (@PySem.Str.ofString "/claim/cut.py") (472 : Nat))])) (List.toArray []))) ::
  ((nat_lit 186), (@PySem.Obj.mk (@PySem.Value.type "function") none (@PySem.Data.func (PySem.FuncData.mk (@PySem.Str.ofString "_law_step") (@PySem.Str.ofString "_law_step") (by refine' (?f : (x : Arguments) → x = argsS (st 33) → Arguments) _ ?h; (case f => exact fun x _ => x); (case h => conv => rhs; whnf)) (.stmts (by refine' (?f : (x : List Stmt) → x = bodyS (st 33) → List Stmt) _ ?h; (case f => exact fun x _ => x); (case h => conv => rhs; whnf))) (by refine' (?f : (x : Scope) → x = scopeS (st 33) → Scope) _ ?h; (case f => exact fun x _ => x); (case h => conv => rhs; whnf)) (3 : Nat) [] @PySem.Value.none @PySem.Value.none @PySem.Value.none (@PySem.Value.str (@PySem.Str.ofString "law_ta0024_01") (390 : Nat)) none (@PySem.Value.ref (185 : Nat)) @PySem.Value.none (0 : Nat))) (List.toArray []))) ::
  ((nat_lit 187), (@PySem.Obj.mk (@PySem.Value.type "tuple") none (@PySem.Data.seq (List.toArray []) (0 : Nat)) (List.toArray []))) ::
  ((nat_lit 190), (@PySem.Obj.mk (@PySem.Value.type "code") none (@PySem.Data.fields (List.toArray [(@PySem.Value.str (@PySem.Str.ofString "law") (474 : Nat)), (@PySem.Value.str (@PySem.Str.ofString "law") (475 : Nat)), (@PySem.Value.str (@PySem.Str.ofString "/claim/cut.py") (476 : Nat)), (@PySem.Value.int (193 : Int) (0 : Nat)), (@PySem.Value.int (1 : Int) (0 : Nat)), (@PySem.Value.int (0 : Int) (0 : Nat)), (@PySem.Value.int (0 : Int) (0 : Nat)), (@PySem.Value.int (3 : Int) (0 : Nat)), (@PySem.Value.ref (187 : Nat)), (@PySem.Value.bool @Bool.true), (@PySem.Value.int (181 : Int) (0 : Nat)), (@PySem.Value.ref (188 : Nat)), @PySem.Value.none, @PySem.Value.none, @PySem.Value.none, (@PySem.Value.ref (189 : Nat)), (@PySem.Value.int (477 : Int) (0 : Nat)), (@PySem.Value.int (193 : Int) (0 : Nat)), (@PySem.Value.str (@PySem.Str.ofString "/claim/cut.py") (478 : Nat))])) (List.toArray []))) ::
  ((nat_lit 191), (@PySem.Obj.mk (@PySem.Value.type "function") none (@PySem.Data.func (PySem.FuncData.mk (@PySem.Str.ofString "law") (@PySem.Str.ofString "law") (by refine' (?f : (x : Arguments) → x = argsS (st 34) → Arguments) _ ?h; (case f => exact fun x _ => x); (case h => conv => rhs; whnf)) (.stmts (by refine' (?f : (x : List Stmt) → x = bodyS (st 34) → List Stmt) _ ?h; (case f => exact fun x _ => x); (case h => conv => rhs; whnf))) (by refine' (?f : (x : Scope) → x = scopeS (st 34) → Scope) _ ?h; (case f => exact fun x _ => x); (case h => conv => rhs; whnf)) (3 : Nat) [] @PySem.Value.none @PySem.Value.none @PySem.Value.none (@PySem.Value.str (@PySem.Str.ofString "law_ta0024_01") (390 : Nat)) none (@PySem.Value.ref (190 : Nat)) @PySem.Value.none (0 : Nat))) (List.toArray []))) :: []
section
open PySem.W.X
noncomputable def asL : List Addr := [2, 3, 15, 16, 18, 19, 21, 22, 23, 25, 26, 28, 29, 30, 32, 33, 35, 36, 37, 39, 40, 42, 43, 44, 46, 47, 49, 50, 51, 53, 54, 56, 57, 58, 60, 61, 63, 64, 65, 67, 68, 70, 71, 72, 74, 75, 77, 78, 79, 81, 82, 84, 85, 86, 88, 89, 91, 92, 93, 95, 96, 98, 99, 100, 102, 103, 105, 106, 107, 109, 110, 112, 113, 114, 116, 117, 119, 120, 121, 123, 124, 126, 127, 128, 130, 131, 133, 134, 135, 137, 138, 140, 141, 142, 144, 145, 147, 148, 149, 152, 153, 154, 156, 157, 159, 160, 161, 163, 164, 166, 167, 168, 170, 171, 173, 174, 175, 178, 179, 180, 182, 183, 185, 186, 187, 190, 191]
theorem as_of (P : Params) : asL = (kfL P).map (·.1) := by kernel_rfl
theorem hl_false (w : World) : (openEnds treeTable (RowW.prog (OpenRow.toRowW (OpenLaw.row PySem.Challenge.rw_ta0024_01))) (w.withFollow "special-get-raises" false) 2174).map (fun s => (openSeen pgL [Str.ofString "COMPILER_FLAG_NAMES"] (importedModules (Program.main (RowW.prog (OpenRow.toRowW (OpenLaw.row PySem.Challenge.rw_ta0024_01)))).body) (fun s => xlAt pgL [] s && recOk (RowW.records (OpenRow.toRowW (OpenLaw.row PySem.Challenge.rw_ta0024_01))) s) true s, obsZ asL s)) = some (openGood pgL [Str.ofString "COMPILER_FLAG_NAMES"], valZ kfL 192 480 (w.withFollow "special-get-raises" false)) := by kernel_rfl
theorem hl_true (w : World) : (openEnds treeTable (RowW.prog (OpenRow.toRowW (OpenLaw.row PySem.Challenge.rw_ta0024_01))) (w.withFollow "special-get-raises" true) 2174).map (fun s => (openSeen pgL [Str.ofString "COMPILER_FLAG_NAMES"] (importedModules (Program.main (RowW.prog (OpenRow.toRowW (OpenLaw.row PySem.Challenge.rw_ta0024_01)))).body) (fun s => xlAt pgL [] s && recOk (RowW.records (OpenRow.toRowW (OpenLaw.row PySem.Challenge.rw_ta0024_01))) s) true s, obsZ asL s)) = some (openGood pgL [Str.ofString "COMPILER_FLAG_NAMES"], valZ kfL 192 480 (w.withFollow "special-get-raises" true)) := by kernel_rfl
theorem hl_top : LeftO (RowW.prog (OpenRow.toRowW (OpenLaw.row PySem.Challenge.rw_ta0024_01))) pgL [Str.ofString "COMPILER_FLAG_NAMES"] (fun s => xlAt pgL [] s && recOk (RowW.records (OpenRow.toRowW (OpenLaw.row PySem.Challenge.rw_ta0024_01))) s) (obsZ asL) (valZ kfL 192 480) 2174 := fun w => by
  have e := World.withFollow_self w "special-get-raises"
  cases hb : w.params.followText "special-get-raises" <;> rw [hb] at e
  · rw [← e]; exact hl_false w
  · rw [← e]; exact hl_true w
theorem ws : OpenLaw.wellSaid PySem.Challenge.rw_ta0024_01 = true := by
  repeat' first | with_reducible refine look_both ?_ ?_ | unfold OpenLaw.wellSaid | unfold OpenRow.wellSaid | unfold OpenRow.partSaid | unfold looksOpen | unfold OpenScript.wellSaid
  all_goals decide +kernel
theorem gn : namesOk pgL (looseW pgL [Str.ofString "COMPILER_FLAG_NAMES"]) (namesW pgL [Str.ofString "COMPILER_FLAG_NAMES"]) = true := by kernel_rfl
theorem gi : importsNone pgL = true := by kernel_rfl
end
noncomputable abbrev KF (w : World) : Frag := kfL w.params
noncomputable abbrev pg : Program := pgL
noncomputable abbrev lo' : List Str := looseW pgL [Str.ofString "COMPILER_FLAG_NAMES"]
noncomputable abbrev prg : Program := PySem.Challenge.rw_ta0024_01.row.prog
/-- what the caller gets back -/
noncomputable abbrev Ans (h₀ : Heap) (L : Addr) (m : Str → Option Value) (news : List (Addr × Obj)) (s : Shared) (Q : Value → Shared → Prop) (R : Value → List (Addr × Obj) → Prop) : Prop :=
  ∀ (v : Value) (own : List (Addr × Obj)) (h' : Heap) (tk' : Nat), R v own → Fr h₀ L h' m → News h₀ L h' (own ++ news) → (∀ p ∈ own, ∀ q ∈ news, q.1 < p.1) → Q v { s with heap := h', toks := tk' }
/-- a contract of a def -/
noncomputable def Con (w : World) (mean : ExcName → Option Value) (mg mb : Str → Option Value) (f : Addr) (fr cu lo : Nat) (news : List (Addr × Obj)) (vs : List Value) (R : Value → List (Addr × Obj) → Prop) : Prop :=
  ∀ (dp un : Nat) (gd : Option (List Code)) (cn : Str) (cs : Scope) (a : Addr) (ccd : Value) (cl : List (Str × Addr)) (outer : List Env) (A₀ : Around) (base h₀ : Heap) (L : Addr) (m : Str → Option Value) (s : Shared) (Q E : Value → Shared → Prop),
    Below A₀ base outer h₀ → Fr h₀ L s.heap m → (KF w).In h₀ → News h₀ L s.heap news → Top pg lo' mean mg mb h₀ → cs.kind = .function → dp + fr < recursionLimit → un + cu < cLine → lo ≤ s.toks → Ans h₀ L m news s Q R →
      wpAny (model prg w) (ktrTop dp un gd cn cs L a ccd cl outer) (call (.ref f) vs) Q E s
theorem Con.use {w : World} {mean : ExcName → Option Value} {mg mb : Str → Option Value} {f : Addr} {fr cu lo : Nat} {news : List (Addr × Obj)} {vs : List Value} {R : Value → List (Addr × Obj) → Prop} (C : Con w mean mg mb f fr cu lo news vs R)
    {dp un : Nat} {gd : Option (List Code)} {cn : Str} {cs : Scope} {a : Addr} {ccd : Value} {cl : List (Str × Addr)} {outer : List Env} {A₀ : Around} {base h₀ : Heap} {L : Addr} {m : Str → Option Value} {s : Shared} {Q E : Value → Shared → Prop}
    (k1 : Below A₀ base outer h₀) (k2 : Fr h₀ L s.heap m) (k3 : (KF w).In h₀) (k4 : News h₀ L s.heap news) (k5 : Top pg lo' mean mg mb h₀) (kK : cs.kind = .function) (kd : dp + fr < recursionLimit) (ku : un + cu < cLine) (kl : lo ≤ s.toks)
    (h : ∀ (v : Value) (own : List (Addr × Obj)) (h' : Heap) (tk' : Nat), R v own → s.toks ≤ tk' → Fr h₀ L h' m → News h₀ L h' (own ++ news) → (∀ p ∈ own, ∀ q ∈ news, q.1 < p.1) → Q v { s with heap := h', toks := tk' }) :
    wpAny (model prg w) (ktrTop dp un gd cn cs L a ccd cl outer) (call (.ref f) vs) Q E s :=
  wpAny_with_toks (n := s.toks) (Nat.le_refl _) (wpAny_mono (C dp un gd cn cs a ccd cl outer A₀ base h₀ L m s (fun v s' => s.toks ≤ s'.toks → Q v s') E k1 k2 k3 k4 k5 kK kd ku kl fun v own h' tk' hR F N hl ht => h v own h' tk' hR ht F N hl) (fun _ _ q => q) fun _ _ e _ => e)
/-- what a call's walk brings at each use of a contract -/
structure Side (w : World) (mean : ExcName → Option Value) (mg mb : Str → Option Value) (A₀ : Around) (base : Heap) (outer : List Env) (h₀ : Heap) (L : Addr) (m : Str → Option Value) (s : Shared) (news : List (Addr × Obj)) (cs : Scope) (dp fr un cu lo : Nat) : Prop where
  zk1 : Below A₀ base outer h₀
  zk2 : Fr h₀ L s.heap m
  zk3 : (KF w).In h₀
  zk4 : News h₀ L s.heap news
  zk5 : Top pg lo' mean mg mb h₀
  zkK : cs.kind = .function
  zkd : dp + fr < recursionLimit
  zku : un + cu < cLine
  zkl : lo ≤ s.toks
theorem Con.use2 {w : World} {mean : ExcName → Option Value} {mg mb : Str → Option Value} {f : Addr} {fr cu lo : Nat} {news : List (Addr × Obj)} {vs : List Value} {R : Value → List (Addr × Obj) → Prop} (C : Con w mean mg mb f fr cu lo news vs R)
    {dp un : Nat} {gd : Option (List Code)} {cn : Str} {cs : Scope} {a : Addr} {ccd : Value} {cl : List (Str × Addr)} {outer : List Env} {A₀ : Around} {base h₀ : Heap} {L : Addr} {m : Str → Option Value} {s : Shared} {Q E : Value → Shared → Prop}
    (S : Side w mean mg mb A₀ base outer h₀ L m s news cs dp fr un cu lo)
    (h : ∀ (v : Value) (own : List (Addr × Obj)) (h' : Heap) (tk' : Nat), R v own → s.toks ≤ tk' → Fr h₀ L h' m → News h₀ L h' (own ++ news) → (∀ p ∈ own, ∀ q ∈ news, q.1 < p.1) → Q v { s with heap := h', toks := tk' }) :
    wpAny (model prg w) (ktrTop dp un gd cn cs L a ccd cl outer) (call (.ref f) vs) Q E s :=
  Con.use C S.zk1 S.zk2 S.zk3 S.zk4 S.zk5 S.zkK S.zkd S.zku S.zkl h
section
local macro_rules | `(tactic| k_room) => `(tactic| ktr_room)
local macro_rules | `(tactic| walk_at "m_enter") => `(tactic| (refine wpAny_call ?_; first | (k_dflt cell_enter) | (k_dflt (refine' code_defC ?k1 ?k2 ?k3 ?k4 ?k5 ?kA ?kF ?kK ?k6 ?k7 ?k8 ?k9 ?kB ?kD ?_ ?c2 ?c3 ?c4; (case kA => exact rfl); (case kF => exact rfl); (case kK => assumption); (case k1 => k_asm); (case k2 => k_asm); (case k3 => k_asm); (case k4 => k_asm); (case k5 => k_asm); (case k6 => k_is); (case k7 => k_is); (case k8 => k_room); (case k9 => first | exact BindsTo.of_eq rfl | exact binds_K (by k_in) rfl (by k_is) rfl rfl rfl | fail "k_enter: no rule for these arguments"); (case kB => exact rfl); (case kD => decide +kernel); (case c2 => exact rfl); (case c3 => exact rfl); (case c4 => exact rfl); k_whole; intro g' L' h' tk' cells' FG' F' N' Y' B' X' T' l1; (try k_lt l1); k_cells Y'; (try simp only [List.cons_append, List.nil_append] at N'); (try dsimp only); (try k_lift B'); (try k_fold)))))
local macro_rules | `(tactic| walk_at "m_con") => `(tactic| (dsimp only [Con, KF, prg, pg, lo', Ans]; k_fill; intros))
local macro_rules | `(tactic| mul_fits) => `(tactic| assumption)
section
theorem rs1 : True := by
  w_top off
  exact trivial
theorem c_add {w mean mg mb} (news : List (Addr × Obj)) (x y : Int) (tx ty : Tok) : Con w mean mg mb 50 1 8 0 news [.int x tx, .int y ty] (fun r own => own = [] ∧ ∃ t, r = .int (x + y) t) := by
  walk_at "m_con"; rename_i hret
  w_strict (
  walk_at "m_enter"
  k_steps
  all_goals first | (refine hret _ [] _ _ ⟨rfl, _, rfl⟩ (by k_asm) (by k_asm) (fun _ h => nomatch h)) | skip)
theorem c_and_ {w mean mg mb} (news : List (Addr × Obj)) (x y : Int) (tx ty : Tok) : Con w mean mg mb 57 1 8 0 news [.int x tx, .int y ty] (fun r own => own = [] ∧ ∃ t, r = .int (Builtin.bitAnd x y) t) := by
  walk_at "m_con"; rename_i hret
  w_strict (
  walk_at "m_enter"
  k_steps
  all_goals first | (refine hret _ [] _ _ ⟨rfl, _, rfl⟩ (by k_asm) (by k_asm) (fun _ h => nomatch h)) | skip)
theorem c_mul {w mean mg mb} (news : List (Addr × Obj)) (x y : Int) (tx ty : Tok) (hm : IntMulOk x y) : Con w mean mg mb 71 1 8 0 news [.int x tx, .int y ty] (fun r own => own = [] ∧ ∃ t, r = .int (x * y) t) := by
  walk_at "m_con"; rename_i hret
  w_strict (
  walk_at "m_enter"
  k_steps
  all_goals first | (refine hret _ [] _ _ ⟨rfl, _, rfl⟩ (by k_asm) (by k_asm) (fun _ h => nomatch h)) | skip)
theorem c_sub {w mean mg mb} (news : List (Addr × Obj)) (x y : Int) (tx ty : Tok) : Con w mean mg mb 92 1 8 0 news [.int x tx, .int y ty] (fun r own => own = [] ∧ ∃ t, r = .int (x - y) t) := by
  walk_at "m_con"; rename_i hret
  w_strict (
  walk_at "m_enter"
  k_steps
  all_goals first | (refine hret _ [] _ _ ⟨rfl, _, rfl⟩ (by k_asm) (by k_asm) (fun _ h => nomatch h)) | skip)
theorem c_xor {w mean mg mb} (news : List (Addr × Obj)) (x y : Int) (tx ty : Tok) : Con w mean mg mb 99 1 8 0 news [.int x tx, .int y ty] (fun r own => own = [] ∧ ∃ t, r = .int (Builtin.bitXor x y) t) := by
  walk_at "m_con"; rename_i hret
  w_strict (
  walk_at "m_enter"
  k_steps
  all_goals first | (refine hret _ [] _ _ ⟨rfl, _, rfl⟩ (by k_asm) (by k_asm) (fun _ h => nomatch h)) | skip)
theorem c_rshift {w mean mg mb} (news : List (Addr × Obj)) (x y : Int) (tx ty : Tok) (h0 : 0 ≤ y) (h1 : y < 6) : Con w mean mg mb 85 1 8 0 news [.int x tx, .int y ty] (fun r own => own = [] ∧ ∃ t, r = .int (Int.fdiv x (2 ^ y.toNat)) t) := by
  walk_at "m_con"; rename_i hret
  w_strict (
  walk_at "m_enter"
  k_steps
  all_goals first | (refine hret _ [] _ _ ⟨rfl, _, rfl⟩ (by k_asm) (by k_asm) (fun _ h => nomatch h)) | skip)
theorem c_lshift {w mean mg mb} (news : List (Addr × Obj)) (x y : Int) (tx ty : Tok) (hx : x = 1) (h0 : 0 ≤ y) (h1 : y < 6) : Con w mean mg mb 64 1 8 0 news [.int x tx, .int y ty] (fun r own => own = [] ∧ ∃ t, r = .int (x * 2 ^ y.toNat) t) := by
  walk_at "m_con"; rename_i hret
  w_strict (
  walk_at "m_enter"
  k_steps
  all_goals first | (refine hret _ [] _ _ ⟨rfl, _, rfl⟩ (by k_asm) (by k_asm) (fun _ h => nomatch h)) | skip)
theorem c_neg {w mean mg mb} (news : List (Addr × Obj)) (x : Int) (tx : Tok) : Con w mean mg mb 78 1 8 0 news [.int x tx] (fun r own => own = [] ∧ ∃ t, r = .int (-x) t) := by
  walk_at "m_con"; rename_i hret
  w_strict (
  walk_at "m_enter"
  k_steps
  all_goals (refine hret _ [] _ _ ⟨rfl, _, rfl⟩ (by k_asm) (by k_asm) (fun _ h => nomatch h)))
end
section
local macro_rules | `(tactic| walk_at "none here") => `(tactic| skip)
theorem rs2 : True := by
  w_top off
  exact trivial
section
open PySem.Spec
variable {prog : Program} {w : World} {A : Around} {E : Value → Shared → Prop} {s : Shared}

/-- enumerate's next, over any inner iterator whose step at this very state is known -/
theorem enum_step {e it : Addr} {i : Nat} {old : Value} {Q : Option Value → Shared → Prop} (V : Value → Heap → Nat → Prop)
    (he : IsEnum s.heap e it i old) (hne : e ≠ it)
    (inner : ∀ (R : Value → Shared → Prop) (E' : Value → Shared → Prop), (∀ x h₁ tk, V x h₁ tk → Heap.SameBut it s.heap h₁ → R x { s with heap := h₁, toks := tk }) →
      wpAny (model prog w) A.in1 (Builtin.SmallTypes.nextOf (.ref it)) R E' s)
    (hQ : ∀ x h₁ tk h', V x h₁ tk → IsEnumOut h' e it ((i : Int) + 1) x s.heap.objs.size →
      h'.get? s.heap.objs.size = some { cls := .type "tuple", data := .seq #[.int i tk, x] } → h'.objs.size = s.heap.objs.size + 1 →
      (∀ b o, b ≠ e → h₁.get? b = some o → h'.get? b = some o) → (∀ b o, b ≠ e → b ≠ it → s.heap.get? b = some o → h'.get? b = some o) →
      Q (some (.ref s.heap.objs.size)) { s with heap := h', toks := tk + 1 }) :
    wpAny (model prog w) A (pyNext (.ref e)) Q E s := by
  have hT : s.TypeIs (.ref e) "enumerate" := ⟨_, he, rfl⟩
  unfold pyNext
  refine wpAny_bind (wpAny_attempt (wpAny_callSpecial?_slot (name := Str.ofString "__next__") hT F.slot_enumerate_next
    (wpAny_call_entry F.slot_enumerate_next hT F.entry_enumerate_next ?_ (F.args_enumerate_next_1 _))))
  obtain ⟨hp, g, d, tk₀, os⟩ := s
  show wpAny _ _ (field (.ref e) 2 >>= _) _ _ _
  refine wpAny_bind (wpAny_field he rfl (x := .ref it) rfl ?_)
  refine wpAny_bind (inner _ _ fun x h₁ tk hv hs₁ => ?_)
  have he₁ : IsEnum h₁ e it i old := (hs₁.2 e hne).trans he
  show wpAny _ _ (field (.ref e) 3 >>= _) _ _ ⟨h₁, g, d, tk, os⟩
  refine wpAny_bind (wpAny_field he₁ rfl (x := rawInt i) rfl ?_)
  show wpAny _ _ (field (.ref e) 4 >>= _) _ _ ⟨h₁, g, d, tk, os⟩
  refine wpAny_bind (wpAny_field he₁ rfl (x := .none) rfl ?_)
  show wpAny _ _ (mkInt i >>= _) _ _ ⟨h₁, g, d, tk, os⟩
  refine wpAny_bind (wpAny_mkInt ?_)
  show wpAny _ _ (setField (.ref e) 3 (rawInt ((i : Int) + 1)) >>= _) _ _ ⟨h₁, g, d, tk + 1, os⟩
  refine wpAny_bind (wpAny_setField_rec he₁ (by simp) fun h₂ he₂ hs₂ => ?_)
  replace he₂ : IsEnum h₂ e it ((i : Int) + 1) old := he₂
  show wpAny _ _ (setField (.ref e) 4 .none >>= _) _ _ ⟨h₂, g, d, tk + 1, os⟩
  refine wpAny_bind (wpAny_setField_rec he₂ (by simp) fun h₃ he₃ hs₃ => ?_)
  replace he₃ : IsEnum h₃ e it ((i : Int) + 1) old := he₃
  show wpAny _ _ (newTuple [.int i tk, x] >>= _) _ _ ⟨h₃, g, d, tk + 1, os⟩
  refine wpAny_bind (wpAny_newTuple ?_)
  have sz₁ : h₁.objs.size = hp.objs.size := hs₁.1
  have sz₂ : h₂.objs.size = h₁.objs.size := hs₂.1
  have sz₃ : h₃.objs.size = h₂.objs.size := hs₃.1
  have sz : h₃.objs.size = hp.objs.size := by omega
  have hel : e < hp.objs.size := Heap.lt_size he
  obtain ⟨h₄, e₄⟩ : ∃ h₄, h₃.push { cls := .type "tuple", data := .seq #[.int i tk, x] } = h₄ := ⟨_, rfl⟩
  have up₄ : ∀ b o, h₃.get? b = some o → h₄.get? b = some o := fun b o q => by rw [← e₄]; exact Heap.get?_push_of_some _ q
  have he₄ : IsEnum h₄ e it ((i : Int) + 1) old := up₄ _ _ he₃
  have ht₄ : h₄.get? hp.objs.size = some { cls := .type "tuple", data := .seq #[.int i tk, x] } := by rw [← e₄, ← sz]; exact Heap.get?_push_size _ rfl
  have hz₄ : h₄.objs.size = hp.objs.size + 1 := by rw [← e₄, Heap.size_push, sz]
  have k₄ : ∀ b o, b ≠ e → h₁.get? b = some o → h₄.get? b = some o := fun b o q r => up₄ b o (hs₃.extBut b o q (hs₂.extBut b o q r))
  rw [e₄, sz]
  clear e₄ up₄ he₃ hs₃ he₂ hs₂ he₁ sz₁ sz₂ sz₃ sz
  show wpAny _ _ (Builtin.SmallTypes.ownedTupleIsFree (.ref e) >>= _) _ _ ⟨h₄, g, d, tk + 1, os⟩
  refine wpAny_bind ?_
  unfold Builtin.SmallTypes.ownedTupleIsFree
  refine wpAny_bind (wpAny_field he₄ rfl (x := .none) rfl (wpAny_pure ?_))
  simp only [if_true]
  refine wpAny_bind (wpAny_rule ?_)
  refine wpAny_bind (wpAny_field he₄ rfl (x := old) rfl ?_)
  refine wpAny_bind (wpAny_setField_rec he₄ (by simp) fun h₅ he₅ hs₅ => ?_)
  replace he₅ : IsEnum h₅ e it ((i : Int) + 1) x := he₅
  show wpAny _ _ (Builtin.SmallTypes.ownedTupleHandOut (.ref e) (.ref hp.objs.size) >>= _) _ _ ⟨h₅, g, d, tk + 1, os⟩
  refine wpAny_bind ?_
  unfold Builtin.SmallTypes.ownedTupleHandOut
  refine wpAny_bind (wpAny_setField_rec he₅ (by simp) fun h₆ he₆ hs₆ => ?_)
  replace he₆ : IsEnumOut h₆ e it ((i : Int) + 1) x hp.objs.size := he₆
  refine wpAny_setField_rec he₆ (by simp) fun h₇ he₇ hs₇ => ?_
  replace he₇ : IsEnumOut h₇ e it ((i : Int) + 1) x hp.objs.size := he₇
  have k₇ : ∀ b o, b ≠ e → h₄.get? b = some o → h₇.get? b = some o := fun b o q r => hs₇.extBut b o q (hs₆.extBut b o q (hs₅.extBut b o q r))
  have z₇ : h₇.objs.size = hp.objs.size + 1 := by
    have a₅ : h₅.objs.size = h₄.objs.size := hs₅.1
    have a₆ : h₆.objs.size = h₅.objs.size := hs₆.1
    have a₇ : h₇.objs.size = h₆.objs.size := hs₇.1
    omega
  refine wpAny_bind (wpAny_letGo (wpAny_pure ⟨_, rfl, wpAny_pure (hQ x h₁ tk h₇ hv he₇ (k₇ _ _ (Nat.ne_of_gt hel) ht₄) z₇ (fun b o q r => k₇ b o q (k₄ b o q r)) ?_)⟩))
  exact fun b o q q' r => k₇ b o q (k₄ b o q (hs₁.extBut b o q' r))
end
end
section
local macro_rules | `(tactic| walk_at "none here") => `(tactic| skip)
local macro_rules | `(tactic| walk_at "none here") => `(tactic| skip)
theorem rs3 : True := by
  w_top off
  exact trivial
section
open PySem.Spec
variable {prog : Program} {w : World} {A : Around} {E : Value → Shared → Prop} {s : Shared}

/-- a source of pairs whose step may speak of the tokens -/
structure WT (prog : Program) (w : World) (A : Around) (lo : Nat) (I : Addr) (fp wr : List Addr) (n : Nat) (P : Nat → Value → Value → Prop) (St : Nat → Heap → Prop) (Mid : Nat → Addr → Heap → Prop) : Prop where
  sub : ∀ b ∈ wr, b ∈ fp
  frame : ∀ i h h', St i h → (∀ b ∈ fp, ∀ o, h.get? b = some o → h'.get? b = some o) → St i h'
  item : ∀ i (s : Shared) (Q : Option Value → Shared → Prop) (E : Value → Shared → Prop), i < n → lo ≤ s.toks → St i s.heap →
    (∀ T v0 v1 h' tk, P i v0 v1 → h'.IsTuple T #[v0, v1] → Mid i T h' → (∀ b o, b ∉ wr → s.heap.get? b = some o → h'.get? b = some o) → Q (some (.ref T)) { s with heap := h', toks := tk }) →
    wpAny (model prog w) A (pyNext (.ref I)) Q E s
  go : ∀ (elts : List Expr) (k : Nat) (pos : Pos) i T (s : Shared) (Q : Unit → Shared → Prop) (E : Value → Shared → Prop), Mid i T s.heap →
    (∀ h', St (i + 1) h' → (∀ b o, b ∉ wr → s.heap.get? b = some o → h'.get? b = some o) → Q () { s with heap := h' }) →
    wpAny (model prog w) A (letOwnedTupleGo (.Tuple elts k pos) (.ref I) (.ref T)) Q E s
  apart : ∀ i T h, Mid i T h → T ∉ wr
  done : ∀ (s : Shared) (Q : Option Value → Shared → Prop) (E : Value → Shared → Prop), St n s.heap →
    (∀ h' tk, (∀ b o, b ∉ wr → s.heap.get? b = some o → h'.get? b = some o) → Q none { s with heap := h', toks := tk }) → wpAny (model prog w) A (pyNext (.ref I)) Q E s

noncomputable def Turn (h₀ : Heap) (L : Addr) (own news : List (Addr × Obj)) (J : (Str → Option Value) → Prop) (s₁ : Shared) (Qr : Value → Shared → Prop) (Qb : Shared → Prop) (f : Flow) (s₂ : Shared) : Prop :=
  match f with
  | .ret v => Qr v s₂
  | .brk => Qb s₂
  | _ => ∃ h' tk m', s₂ = { s₁ with heap := h', toks := tk } ∧ Fr h₀ L h' m' ∧ News h₀ L h' (own ++ news) ∧ J m'

theorem loop2 {R : Result → Shared → Prop} {env : Env} {h₀ : Heap} {xi xc : Str} {pk pv pt : Pos} {x1 : Nat} {body orelse : List Stmt} {lo : Nat} {I : Addr} {fp wr : List Addr} {n : Nat} {P : Nat → Value → Value → Prop} {St : Nat → Heap → Prop} {Mid : Nat → Addr → Heap → Prop}
    {m : Str → Option Value} {news : List (Addr × Obj)} (hh : A.handled = none) (W : WT prog w A lo I fp wr n P St Mid)
    (hxi : env.kindOf xi = some .local) (hxc : env.kindOf xc = some .local)
    (hp : (env.scope.kind == .class || (env.scope.kind == .module && env.locals != env.globals)) = false)
    (hLf : env.locals ∉ fp) (hwr : ∀ b ∈ wr, h₀.get? b = none) (hnw : ∀ p ∈ news, p.1 ∉ wr)
    (hlo : lo ≤ s.toks) (hst : St 0 s.heap) (F : Fr h₀ env.locals s.heap m) (N : News h₀ env.locals s.heap news)
    (J : Nat → (Str → Option Value) → Prop) (h0 : J 0 m)
    (step : ∀ i v0 v1 m₁ h tk own, i < n → P i v0 v1 → J i m₁ → lo ≤ tk → (∀ p ∈ own, p.1 ∈ fp) →
      Fr h₀ env.locals h (fun y => if y = xc then some v1 else if y = xi then some v0 else m₁ y) → News h₀ env.locals h (own ++ news) →
      wpAny (model prog w) A (execs body env) (Turn h₀ env.locals own news (J (i + 1)) s (fun v s' => R (.ok (.ret v)) s') fun s' => R (.ok .next) s') (notedBy (model prog w) A env fun e s' => R (.error e) s') { s with heap := h, toks := tk })
    (fin : ∀ h' tk m', lo ≤ tk → Fr h₀ env.locals h' m' → News h₀ env.locals h' news → J n m' →
      wpAny (model prog w) A (execs orelse env) (fun f s₃ => R (.ok f) s₃) (notedBy (model prog w) A env fun e s' => R (.error e) s') { s with heap := h', toks := tk }) :
    codeAny (model prog w) A (.forLoop (.Tuple [.Name xi pk, .Name xc pv] x1 pt) (.ref I) body orelse env) R s := by
  have hLw : env.locals ∉ wr := fun h => hLf (W.sub _ h)
  have old : ∀ b o, h₀.get? b = some o → b ∉ wr := fun b o e hb => by rw [hwr b hb] at e; cases e
  refine codeAny_forLoop_any
    (fun k s' => ∃ h' tk m' i, s' = { s with heap := h', toks := tk } ∧ lo ≤ tk ∧ St i h' ∧ Fr h₀ env.locals h' m' ∧ News h₀ env.locals h' news ∧ J i m' ∧ i ≤ n ∧ k = n + 1 - i) ?_ (n + 1)
    ⟨s.heap, s.toks, m, 0, rfl, hlo, hst, F, N, h0, Nat.zero_le _, rfl⟩
  rintro k s' ⟨H, tk, m', i, rfl, hlo', hst', F', N', hJ, hi, rfl⟩
  have next : ∀ h₁ : Heap, (∀ b o, b ∉ wr → H.get? b = some o → h₁.get? b = some o) → Fr h₀ env.locals h₁ m' ∧ News h₀ env.locals h₁ news := fun h₁ hk₁ =>
    ⟨⟨F'.ns.at' fun o e => hk₁ _ o hLw e, fun b o e => hk₁ b o (old b o e) (F'.keep b o e), F'.above⟩, fun p hp => ⟨hk₁ _ _ (hnw p hp) (N' p hp).1, (N' p hp).2⟩⟩
  by_cases hlt : i < n
  · refine wpAny_with_toks (n := lo) hlo' ?_
    refine W.item i _ _ _ hlt hlo' hst' fun T v0 v1 h₁ tk₁ hP hT hMid hk₁ hlo₁ => ?_
    dsimp only at hlo₁
    refine W.go _ x1 pt i T _ _ _ hMid fun h₂ hst₂ hk₂ => ?_
    have ht₂ : h₂.IsTuple T #[v0, v1] := hT.at fun o e => hk₂ T o (W.apart i T h₁ hMid) e
    refine wpAny_assign_Tuple hh ht₂ rfl rfl fun h₃ hx₃ => ?_
    replace hx₃ : Heap.ExtBut h₂.objs.size h₂ h₃ := hx₃
    have up₃ : ∀ b o, h₂.get? b = some o → h₃.get? b = some o := fun b o x => hx₃ b o (Nat.ne_of_lt (Heap.lt_size x)) x
    obtain ⟨F₃, N₃⟩ := next h₃ fun b o hb x => up₃ b o (hk₂ b o hb (hk₁ b o hb x))
    show wpAny _ A (do holding [v1] (assign (.Name xi pk) env v0); do holding [] (assign (.Name xc pv) env v1); pure ()) _ _ _
    refine wpAny_bind (wpAny_holding (wpAny_assign_Name (wpAny_storeName_local hxi F₃.ns (fun h₄ hn₄ hs₄ => ?_) hp)))
    replace hs₄ : Heap.SameBut env.locals h₃ h₄ := hs₄
    have F₄ := F₃.set hn₄ hs₄
    refine wpAny_bind (wpAny_holding (wpAny_assign_Name (wpAny_storeName_local hxc F₄.ns (fun h₅ hn₅ hs₅ => wpAny_pure ?_) hp)))
    replace hs₅ : Heap.SameBut env.locals h₄ h₅ := hs₅
    have F₅ := F₄.set hn₅ hs₅
    have N₅ : News h₀ env.locals h₅ news := (N₃.set hs₄).set hs₅
    have hst₅ : St (i + 1) h₅ := W.frame _ _ _ hst₂ fun b hb o e => hs₅.extBut b o (fun q => hLf (q ▸ hb)) (hs₄.extBut b o (fun q => hLf (q ▸ hb)) (up₃ b o e))
    have up₅ : ∀ b o, b ≠ env.locals → h₃.get? b = some o → h₅.get? b = some o := fun b o q e => hs₅.extBut b o q (hs₄.extBut b o q e)
    refine wpAny_with_toks (n := lo) ?_ (wpAny_mono (step i v0 v1 m' h₅ _ (ownOf h₀ fp h₅) hlt hP hJ ?_ ownOf_sub F₅ ((news_ownOf hLf).append N₅)) (fun f s₃ h₆ hl₆ => ?_) fun _ _ e _ => e)
    · dsimp only; omega
    · dsimp only; omega
    cases f with
    | ret v => exact h₆
    | brk => exact h₆
    | cont =>
      obtain ⟨h₆', tk₆, m₂, rfl, F₆, N₆, hJ₆⟩ := h₆
      refine ⟨n + 1 - (i + 1), by omega, h₆', tk₆, m₂, i + 1, rfl, hl₆, ?_, F₆, N₆.right, hJ₆, hlt, rfl⟩
      refine W.frame _ _ _ hst₅ fun b hb o e => ?_
      cases hn : h₀.get? b with
      | some o₀ =>
        have : o₀ = o := by have q := F₅.keep b o₀ hn; rw [e] at q; exact (Option.some.inj q).symm
        exact this ▸ F₆.keep b o₀ hn
      | none => exact (N₆ _ (List.mem_append_left _ (mem_ownOf hb hn e))).1
    | next =>
      obtain ⟨h₆', tk₆, m₂, rfl, F₆, N₆, hJ₆⟩ := h₆
      refine ⟨n + 1 - (i + 1), by omega, h₆', tk₆, m₂, i + 1, rfl, hl₆, ?_, F₆, N₆.right, hJ₆, hlt, rfl⟩
      refine W.frame _ _ _ hst₅ fun b hb o e => ?_
      cases hn : h₀.get? b with
      | some o₀ =>
        have : o₀ = o := by have q := F₅.keep b o₀ hn; rw [e] at q; exact (Option.some.inj q).symm
        exact this ▸ F₆.keep b o₀ hn
      | none => exact (N₆ _ (List.mem_append_left _ (mem_ownOf hb hn e))).1
  · have hin : i = n := by omega
    subst hin
    refine wpAny_with_toks (n := lo) hlo' ?_
    refine W.done _ _ _ hst' fun h₁ tk₁ hk₁ hl₁ => ?_
    obtain ⟨F₁, N₁⟩ := next h₁ hk₁
    exact fin h₁ tk₁ m' hl₁ F₁ N₁ hJ

/-- enumerate of an ascii text: the signs are made anew, their tokens lie at lo or above -/
theorem WT.signs (hh : A.handled = none) (lo : Nat) {x : Str} {t : Tok} {e it : Addr} (hne : e ≠ it) :
    WT prog w A lo e [e, it] [e, it] x.cps.size (fun i v0 v1 => ∃ t c u, x.cps[i]? = some c ∧ lo ≤ u ∧ v0 = .int i t ∧ v1 = .str ⟨#[c]⟩ u)
      (fun i h => (∃ old, IsEnum h e it i old) ∧ h.IsStrIter it "str_ascii_iterator" x t i)
      (fun i T h => (∃ x, IsEnumOut h e it ((i : Int) + 1) x T) ∧ h.IsStrIter it "str_ascii_iterator" x t (i + 1) ∧ T ≠ e ∧ T ≠ it) where
  sub := fun b hb => hb
  frame := fun i h h' hst hk => by
    obtain ⟨⟨old, he⟩, o, ho, r⟩ := hst
    exact ⟨⟨old, hk e (by simp) _ he⟩, o, hk it (by simp) _ ho, r⟩
  item := fun i s Q E hi hlo hst hQ => by
    obtain ⟨⟨old, he⟩, hit⟩ := hst
    have helt : e < s.heap.objs.size := Heap.lt_size he
    have hilt : it < s.heap.objs.size := by obtain ⟨_, y, _⟩ := hit; exact Heap.lt_size y
    have hx : x.cps[i]? = some x.cps[i] := by simp [hi]
    refine enum_step (fun v h₁ tk => v = .str ⟨#[x.cps[i]]⟩ s.toks ∧ tk = s.toks + 1 ∧ h₁.IsStrIter it "str_ascii_iterator" x t (i + 1)) he hne (fun R E' hR => ?_) fun v h₁ tk h' hv ho hT hsz k1 k2 => ?_
    · exact wpAny_nextOf_ascii_item hit hx fun h₁ hit₁ hs₁ => hR _ h₁ _ ⟨rfl, rfl, hit₁⟩ hs₁
    · obtain ⟨rfl, rfl, o, ho₁, r⟩ := hv
      exact hQ s.heap.objs.size _ _ h' _ ⟨_, _, _, hx, hlo, rfl, rfl⟩ ⟨_, hT, rfl, _, rfl⟩ ⟨⟨_, ho⟩, ⟨o, k1 it o (Ne.symm hne) ho₁, r⟩, Nat.ne_of_gt helt, Nat.ne_of_gt hilt⟩
        fun b o hb y => k2 b o (fun q => hb (by simp [q])) (fun q => hb (by simp [q])) y
  go := fun elts k pos i T s Q E hm hQ => by
    obtain ⟨⟨x', ho⟩, ⟨o, hs, r⟩, hTe, hTi⟩ := hm
    refine wpAny_letOwnedTupleGo_enum ho fun h' he' hs' => hQ h' ⟨⟨x', by simpa using he'⟩, o, (hs'.2 it (Ne.symm hne)).trans hs, r⟩ fun b o hb y => ?_
    exact (hs'.2 b fun e' => hb (by simp [e'])).trans y
  apart := fun i T h hm hT => by
    obtain ⟨_, _, hTe, hTi⟩ := hm
    rcases List.mem_cons.mp hT with rfl | hT
    · exact hTe rfl
    · exact hTi (List.mem_singleton.mp hT)
  done := fun s Q E hst hQ => by
    obtain ⟨⟨old, he⟩, hs⟩ := hst
    exact wpAny_pyNext_enum_endD (Draws.strAscii (A := A.in1) hh it x t) he hs fun h' hx => hQ h' s.toks fun b o hb y => hx b o (fun e' => hb (by simp [e'])) y
/-- any pair source of the library's -/
theorem WT.ofT {lo : Nat} {I : Addr} {fp wr : List Addr} {n : Nat} {Pt : Nat → Array Value → Prop} {P : Nat → Value → Value → Prop} {St : Nat → Heap → Prop} {Mid : Nat → Addr → Heap → Prop}
    (W : WalksT prog w A I fp wr n Pt St Mid) (h2 : ∀ i vals, Pt i vals → ∃ v0 v1, vals = #[v0, v1] ∧ P i v0 v1) : WT prog w A lo I fp wr n P St Mid where
  sub := W.sub
  frame := W.frame
  item := fun i s Q E hi _ hst hQ => W.item i s Q E hi hst fun T vals h' tk hPt _ hT hM hk => by
    obtain ⟨v0, v1, rfl, hP⟩ := h2 i vals hPt
    exact hQ T v0 v1 h' tk hP hT hM hk
  go := W.go
  apart := W.apart
  done := W.done
end
noncomputable def two (m : Str → Option Value) (xi xc : Str) (vi vc : Option Value) : Str → Option Value := fun y => if y = xc then vc else if y = xi then vi else m y
theorem two_start (m : Str → Option Value) (xi xc : Str) : m = two m xi xc (m xi) (m xc) := by
  funext y; unfold two
  by_cases h1 : y = xc
  · simp [h1]
  · by_cases h2 : y = xi
    · simp [h1, h2]; intro e; exact absurd (h2.trans e) h1
    · simp [h1, h2]
theorem two_two (m : Str → Option Value) (xi xc : Str) (a b c d : Option Value) : (fun y => if y = xc then d else if y = xi then c else two m xi xc a b y) = two m xi xc c d := by
  funext y; unfold two
  by_cases h1 : y = xc
  · simp [h1]
  · by_cases h2 : y = xi <;> simp [h1, h2]
section
open PySem.Spec
variable {prog : Program} {w : World} {A : Around} {E : Value → Shared → Prop} {s : Shared}
theorem loop2s {R : Result → Shared → Prop} {env : Env} {h₀ : Heap} {xi xc : Str} {pk pv pt : Pos} {x1 : Nat} {body orelse : List Stmt} {lo : Nat} {I : Addr} {fp wr : List Addr} {n : Nat} {P : Nat → Value → Value → Prop} {St : Nat → Heap → Prop} {Mid : Nat → Addr → Heap → Prop}
    {m : Str → Option Value} {news : List (Addr × Obj)} (hh : A.handled = none) (W : WT prog w A lo I fp wr n P St Mid)
    (hxi : env.kindOf xi = some .local) (hxc : env.kindOf xc = some .local)
    (hp : (env.scope.kind == .class || (env.scope.kind == .module && env.locals != env.globals)) = false)
    (hLf : env.locals ∉ fp) (hwr : ∀ b ∈ wr, h₀.get? b = none) (hnw : ∀ p ∈ news, p.1 ∉ wr)
    (hlo : lo ≤ s.toks) (hst : St 0 s.heap) (F : Fr h₀ env.locals s.heap m) (N : News h₀ env.locals s.heap news)
    (J : Nat → Prop) (h0 : J 0)
    (step : ∀ i v0 v1 h tk own, i < n → P i v0 v1 → J i → lo ≤ tk → (∀ p ∈ own, p.1 ∈ fp) →
      Fr h₀ env.locals h (fun y => if y = xc then some v1 else if y = xi then some v0 else m y) → News h₀ env.locals h (own ++ news) →
      wpAny (model prog w) A (execs body env) (Turn h₀ env.locals own news (fun m' => J (i + 1) ∧ m' = fun y => if y = xc then some v1 else if y = xi then some v0 else m y) s (fun v s' => R (.ok (.ret v)) s') fun s' => R (.ok .next) s') (notedBy (model prog w) A env fun e s' => R (.error e) s') { s with heap := h, toks := tk })
    (fin : ∀ h' tk vi vc, lo ≤ tk → Fr h₀ env.locals h' (fun y => if y = xc then vc else if y = xi then vi else m y) → News h₀ env.locals h' news → J n →
      wpAny (model prog w) A (execs orelse env) (fun f s₃ => R (.ok f) s₃) (notedBy (model prog w) A env fun e s' => R (.error e) s') { s with heap := h', toks := tk }) :
    codeAny (model prog w) A (.forLoop (.Tuple [.Name xi pk, .Name xc pv] x1 pt) (.ref I) body orelse env) R s := by
  refine loop2 hh W hxi hxc hp hLf hwr hnw hlo hst F N (fun i m' => J i ∧ ∃ vi vc, m' = two m xi xc vi vc) ⟨h0, _, _, two_start _ _ _⟩ ?_ ?_
  · rintro i v0 v1 m₁ h tk own hi hP ⟨hJ, vi, vc, rfl⟩ hl ho F₁ N₁
    rw [two_two] at F₁
    refine wpAny_mono (step i v0 v1 h tk own hi hP hJ hl ho F₁ N₁) (fun f s₂ hf => ?_) fun _ _ e => e
    cases f with
    | ret v => exact hf
    | brk => exact hf
    | next => obtain ⟨h', tk', m', e, F', N', hJ', hm⟩ := hf; exact ⟨h', tk', m', e, F', N', hJ', _, _, hm⟩
    | cont => obtain ⟨h', tk', m', e, F', N', hJ', hm⟩ := hf; exact ⟨h', tk', m', e, F', N', hJ', _, _, hm⟩
  · rintro h' tk m' hl F' N' ⟨hJ, vi, vc, rfl⟩
    exact fin h' tk vi vc hl F' N' hJ
end
theorem fresh2 {h₀ h : Heap} {L : Addr} {m : Str → Option Value} {news : List (Addr × Obj)} (F : Fr h₀ L h m) (N : News h₀ L h news) :
    (L ∉ [h.objs.size + 1, h.objs.size]) ∧ (∀ b ∈ [h.objs.size + 1, h.objs.size], h₀.get? b = none) ∧ (∀ p ∈ news, p.1 ∉ [h.objs.size + 1, h.objs.size]) := by
  have a := F.ns.lt
  have b := F.above
  refine ⟨fun hm => ?_, fun c hc => ?_, fun p hp hm => ?_⟩
  · rcases List.mem_cons.mp hm with e | hm
    · exact absurd (e ▸ a) (Nat.not_lt.mpr (Nat.le_succ _))
    · exact absurd ((List.mem_singleton.mp hm) ▸ a) (Nat.lt_irrefl _)
  · have hle : h₀.objs.size ≤ c := by
      rcases List.mem_cons.mp hc with e | hm
      · rw [e]; exact Nat.le_trans b (Nat.le_of_lt (Nat.lt_succ_of_lt a))
      · rw [List.mem_singleton.mp hm]; exact Nat.le_trans b (Nat.le_of_lt a)
    exact Heap.get?_none_of_le hle
  · have q := Heap.lt_size (N p hp).1
    rcases List.mem_cons.mp hm with e | hm
    · exact absurd (e ▸ q) (Nat.not_lt.mpr (Nat.le_succ _))
    · exact absurd ((List.mem_singleton.mp hm) ▸ q) (Nat.lt_irrefl _)
end
section
local macro_rules | `(tactic| walk_at "none here") => `(tactic| skip)
local macro_rules | `(tactic| walk_at "none here") => `(tactic| skip)
local macro_rules | `(tactic| walk_at "none here") => `(tactic| skip)
theorem rs4 : True := by
  w_top off
  exact trivial
theorem cst {w : World} : (KF w).lookup 2 = some { cls := .none, data := .dict #[] 0 } := rfl
theorem told_none {prog : Program} {w : World} {A : Around} {E : Value → Shared → Prop} {s : Shared} {Q : Bool → Shared → Prop} (X : (KF w).In s.heap) (t : Tok) (h : Q false s) : wpAny (model prog w) A (sharingNotTold t) Q E s := by
  unfold sharingNotTold
  refine wpAny_bind (wpAny_nsGet (m := fun _ => none) ⟨_, _, _, X _ _ cst, rfl, ?_, fun _ => rfl⟩ ?_)
  · intro e he; simp at he
  · exact wpAny_pure h
theorem is_str {prog : Program} {w : World} {A : Around} {E : Value → Shared → Prop} {s : Shared} {Q : Value → Shared → Prop} {x y : Str} {t u : Tok} (X : (KF w).In s.heap) (ht : 0 < t) (hu : 0 < u) (hne : x ≠ y → t ≠ u)
    (h : ∀ b, (x ≠ y → b = false) → Q (.bool b) s) : wpAny (model prog w) A (compareOp .Is (.str x t) (.str y u)) Q E s := by
  show wpAny _ A (do return .bool (← isSame (.str x t) (.str y u))) Q E s
  refine wpAny_bind ?_
  show wpAny _ A (isSame.created (x == y) t u) _ E s
  unfold isSame.created
  have e1 : (t == 0 || u == 0) = false := by
    rw [Bool.or_eq_false_iff]; exact ⟨beq_eq_false_iff_ne.mpr (Nat.ne_of_gt ht), beq_eq_false_iff_ne.mpr (Nat.ne_of_gt hu)⟩
  simp only [e1, Bool.false_eq_true, if_false]
  by_cases htu : t = u
  · subst htu
    simp only [beq_self_eq_true, if_true]
    exact wpAny_pure (wpAny_pure (h true fun q => absurd rfl (hne q)))
  · have e2 : (t == u) = false := beq_eq_false_iff_ne.mpr htu
    simp only [e2, Bool.false_eq_true, if_false]
    by_cases hxy : x = y
    · subst hxy
      simp only [beq_self_eq_true, Bool.not_true, Bool.false_eq_true, if_false]
      refine wpAny_bind (told_none X t ?_)
      simp only [Bool.false_eq_true, if_false]
      refine wpAny_bind (told_none X u ?_)
      simp only [Bool.false_eq_true, if_false]
      refine wpAny_bind (wpAny_rule ?_)
      refine wpAny_bind (wpAny_askSetting ?_)
      exact wpAny_pure (wpAny_pure (h _ fun q => absurd rfl q))
    · have e3 : (x == y) = false := beq_eq_false_iff_ne.mpr hxy
      simp only [e3, Bool.not_false, if_true]
      exact wpAny_pure (wpAny_pure (h false fun _ => rfl))
end
section
theorem rs5 : True := by
  w_top off
  exact trivial
theorem idx_text {w mean mg mb} (news : List (Addr × Obj)) (x : Str) (tx tb : Tok) (c k : Nat) (hasc : x.cps.all (· < 128) = true) (hk : x.cps[k]? = some c) (hlt : ∀ i, i < k → x.cps[i]? ≠ some c) (hb : 0 < tb) :
    Con w mean mg mb 120 2 20 (tb + 1) news [.str x tx, .str ⟨#[c]⟩ tb] (fun r own => own = [] ∧ ∃ t, r = .int k t) := by
  walk_at "m_con"; rename_i hlo hret
  w_strict (
  walk_at "m_enter"
  refine wpAny_execs_cons ?_
  refine wpAny_For ?_ (by intro _; rfl)
  (iterate 6 walk1)
  (with_reducible rename Fr _ _ _ _ => kF)
  (with_reducible rename News _ _ _ _ => kN)
  (with_reducible rename Frag.In _ _ => kX)
  refine call_enumerate_str fun h1 he hit hsz hkp => ?_
  dsimp only at he hit hsz hkp
  refine wpAny_pyIter_enum he ?_
  (simp only [strIterType, hasc, if_true] at hit)
  obtain ⟨s1, s2, s3⟩ := fresh2 kF kN
  refine loop2s (lo := tb + 1) rfl (WT.signs rfl (tb + 1) (Nat.succ_ne_self _)) rfl rfl rfl s1 s2 s3 ?_ ⟨⟨_, he⟩, hit⟩ ⟨kF.ns.keeps hkp, fun b o e => hkp b o (kF.keep b o e), kF.above⟩ (fun p hp => ⟨hkp _ _ (kN p hp).1, (kN p hp).2⟩) (fun i => i ≤ k) (Nat.zero_le _) ?_ ?_
  · dsimp only; omega
  · (rintro i v0 v1 h tk own hi ⟨t, c', u, hc', hu, rfl, rfl⟩ hik htk hown kF1 kN1)
    (k_steps)
    have hne : u ≠ tb := by omega
    have hu0 : 0 < u := by omega
    refine is_str (kX.keeps kF1.keep) hu0 hb (fun _ => hne) ?_
    intro b hb'
    k_steps
    · rename_i hbt
      have hcc : c' = c := by
        by_cases e : c' = c
        · exact e
        · exact absurd (hb' (by simpa using e)) (by simp [hbt])
      have hik' : i = k := by
        rcases Nat.lt_or_eq_of_le hik with q | q
        · exact absurd (hcc ▸ hc') (hlt i q)
        · exact q
      subst hik'
      dsimp only [Turn]
      k_steps
      exact hret _ [] _ _ ⟨rfl, _, rfl⟩ (by k_asm) (News.right (a := own) (by k_asm)) (fun _ h => nomatch h)
    · rename_i hbt hee
      have hcc : c' = c := by simpa using hee
      have hik' : i = k := by
        rcases Nat.lt_or_eq_of_le hik with q | q
        · exact absurd (hcc ▸ hc') (hlt i q)
        · exact q
      subst hik'
      dsimp only [Turn]
      k_steps
      exact hret _ [] _ _ ⟨rfl, _, rfl⟩ (by k_asm) (News.right (a := own) (by k_asm)) (fun _ h => nomatch h)
    · rename_i hbt hee
      have hcc : c' ≠ c := by simpa using hee
      refine ⟨_, _, _, rfl, kF1, kN1, ?_, rfl⟩
      rcases Nat.lt_or_eq_of_le hik with q | q
      · exact q
      · subst q; rw [hk] at hc'; exact absurd (Option.some.inj hc').symm hcc
  · intro h' tk vi vc htk kF1 kN1 hn
    have := Array.getElem?_eq_some_iff.mp hk
    exact absurd this.1 (by omega))
end
section
local macro_rules | `(tactic| walk_at "none here") => `(tactic| skip)
theorem rs6 : True := by
  w_top off
  exact trivial
theorem idx_list {w mean mg mb} (news : List (Addr × Obj)) (l : Addr) (vs : List Value) (n : Nat) (y : Str) (tb : Tok) (k : Nat) (hm : (l, ({ cls := .type "list", data := .seq vs.toArray n } : Obj)) ∈ news)
    (hk : ∃ t, vs[k]? = some (.str y t) ∧ 0 < t) (hlt : ∀ i, i < k → ∃ z t, vs[i]? = some (.str z t) ∧ z ≠ y ∧ t ≠ tb ∧ 0 < t) (hb : 0 < tb) :
    Con w mean mg mb 120 2 20 0 news [.ref l, .str y tb] (fun r own => own = [] ∧ ∃ t, r = .int k t) := by
  walk_at "m_con"; rename_i hlo hret
  w_strict (
  walk_at "m_enter"
  refine wpAny_execs_cons ?_
  refine wpAny_For ?_ (by intro _; rfl)
  (iterate 6 walk1)
  (with_reducible rename Fr _ _ _ _ => kF)
  (with_reducible rename News _ _ _ _ => kN)
  (with_reducible rename Frag.In _ _ => kX)
  obtain ⟨q1, q2, q3⟩ := kN _ hm
  refine call_enumerate_list (items := vs.toArray) ⟨_, q1, rfl, _, rfl⟩ fun h1 he hit hsz hkp => ?_
  dsimp only at he hit hsz hkp
  refine wpAny_pyIter_enum he ?_
  obtain ⟨s1, s2, s3⟩ := fresh2 kF kN
  have s4 := Heap.lt_size q1
  refine loop2s (lo := 0) rfl (WT.ofT (P := fun i v0 v1 => ∃ t, v0 = .int i t ∧ vs[i]? = some v1) (WalksT.enumerate rfl _ _ l (Nat.succ_ne_self _) (Nat.ne_of_lt (Nat.lt_succ_of_lt s4)) (Nat.ne_of_lt s4) vs.toArray) (fun i vals h => ?_)) rfl rfl rfl ?_ s2 s3 (Nat.zero_le _) ⟨⟨_, he⟩, hit, ⟨_, hkp _ _ q1, rfl, _, rfl⟩⟩ ⟨kF.ns.keeps hkp, fun b o e => hkp b o (kF.keep b o e), kF.above⟩ (fun p hp => ⟨hkp _ _ (kN p hp).1, (kN p hp).2⟩) (fun i => i ≤ k) (Nat.zero_le _) ?_ ?_
  · obtain ⟨t, x, hx, rfl⟩ := h
    exact ⟨_, _, rfl, t, rfl, by simpa using hx⟩
  · intro hm
    rcases List.mem_cons.mp hm with e | hm
    · exact s1 (List.mem_cons.mpr (.inl e))
    · rcases List.mem_cons.mp hm with e | hm
      · exact s1 (List.mem_cons.mpr (.inr (List.mem_singleton.mpr e)))
      · exact q2 (List.mem_singleton.mp hm).symm
  · (rintro i v0 v1 h tk own hi ⟨t, rfl, hv1⟩ hik htk hown kF1 kN1)
    rcases Nat.lt_or_eq_of_le hik with q | q
    · obtain ⟨z, u, hz, hzy, hut, hu0⟩ := hlt i q
      rw [hz] at hv1
      obtain rfl := Option.some.inj hv1
      (k_steps)
      refine is_str (kX.keeps kF1.keep) hu0 hb (fun _ => hut) ?_
      intro b hb'
      have hbf := hb' hzy
      subst hbf
      k_steps
      · rename_i hee
        exact absurd (by simpa using hee) hzy
      · refine ⟨_, _, _, rfl, kF1, kN1, q, rfl⟩
    · subst q
      obtain ⟨u, hz, hu0⟩ := hk
      rw [hz] at hv1
      obtain rfl := Option.some.inj hv1
      (k_steps)
      refine is_str (kX.keeps kF1.keep) hu0 hb (fun q => absurd rfl q) ?_
      intro b _
      k_steps
      · dsimp only [Turn]
        k_steps
        exact hret _ [] _ _ ⟨rfl, _, rfl⟩ (by k_asm) (News.right (a := own) (by k_asm)) (fun _ h => nomatch h)
      · dsimp only [Turn]
        k_steps
        exact hret _ [] _ _ ⟨rfl, _, rfl⟩ (by k_asm) (News.right (a := own) (by k_asm)) (fun _ h => nomatch h)
      · rename_i hee
        simp at hee
  · intro h' tk vi vc htk kF1 kN1 hn
    obtain ⟨t, hk, _⟩ := hk
    have := List.getElem?_eq_some_iff.mp hk
    exact absurd this.1 (by simpa using hn))
end
section
local macro_rules | `(tactic| walk_at "none here") => `(tactic| skip)
local macro_rules | `(tactic| walk_at "none here") => `(tactic| skip)
theorem rs7 : True := by
  w_top off
  exact trivial
section
open PySem.Spec
variable {prog : Program} {w : World} {A : Around} {E : Value → Shared → Prop} {s : Shared} {h₀ : Heap} {L : Addr}

/-- a source of single items -/
structure WI (prog : Program) (w : World) (A : Around) (h₀ : Heap) (L : Addr) (lo : Nat) (I : Addr) (n : Nat) (P : Nat → Value → Nat → Prop) (St : Nat → Heap → Prop) (S : List (Addr × Obj) → Prop) : Prop where
  live : ∀ i h, St i h → ∃ o, h.get? I = some o
  keep : ∀ i (h h' : Heap) (o : Obj) (nw : List (Addr × Obj)), St i h → h.get? I = some o → h'.get? I = some o → (∀ b o, h₀.get? b = some o → h'.get? b = some o) → News h₀ L h' nw → S nw → St i h'
  item : ∀ i (s : Shared) (Q : Option Value → Shared → Prop) (E : Value → Shared → Prop), i < n → lo ≤ s.toks → St i s.heap →
    (∀ v h' tk, P i v tk → St (i + 1) h' → (∀ b o, b ≠ I → s.heap.get? b = some o → h'.get? b = some o) → Q (some v) { s with heap := h', toks := tk }) → wpAny (model prog w) A (pyNext (.ref I)) Q E s
  done : ∀ (s : Shared) (Q : Option Value → Shared → Prop) (E : Value → Shared → Prop), St n s.heap →
    (∀ h' tk, (∀ b o, b ≠ I → s.heap.get? b = some o → h'.get? b = some o) → Q none { s with heap := h', toks := tk }) → wpAny (model prog w) A (pyNext (.ref I)) Q E s

noncomputable def Turn1 (h₀ : Heap) (L : Addr) (I : Addr) (oI : Obj) (S : List (Addr × Obj) → Prop) (J : (Str → Option Value) → List (Addr × Obj) → Prop) (s₁ : Shared) (Qr : Value → Shared → Prop) (Qb : Shared → Prop) (f : Flow) (s₂ : Shared) : Prop :=
  match f with
  | .ret v => Qr v s₂
  | .brk => Qb s₂
  | _ => ∃ h' tk m' news', s₂ = { s₁ with heap := h', toks := tk } ∧ Fr h₀ L h' m' ∧ News h₀ L h' ((I, oI) :: news') ∧ (∀ p ∈ news', p.1 ≠ I) ∧ S news' ∧ J m' news'

theorem loop1 {R : Result → Shared → Prop} {env : Env} {x : Str} {px : Pos} {body orelse : List Stmt} {lo : Nat} {I : Addr} {n : Nat} {P : Nat → Value → Nat → Prop} {St : Nat → Heap → Prop} {S : List (Addr × Obj) → Prop}
    {m : Str → Option Value} {news : List (Addr × Obj)} (W : WI prog w A h₀ env.locals lo I n P St S) (hIL : env.locals ≠ I) (hI₀ : h₀.get? I = none) (off : ∀ p ∈ news, p.1 ≠ I) (hS : S news)
    (hlo : lo ≤ s.toks) (hst : St 0 s.heap) (F : Fr h₀ env.locals s.heap m) (N : News h₀ env.locals s.heap news)
    (J : Nat → (Str → Option Value) → List (Addr × Obj) → Prop) (h0 : J 0 m news)
    (step : ∀ i v m₁ news₁ h tk oI, i < n → P i v tk → J i m₁ news₁ → S news₁ → lo ≤ tk → (∀ p ∈ news₁, p.1 ≠ I) → Fr h₀ env.locals h m₁ → News h₀ env.locals h ((I, oI) :: news₁) →
      wpAny (model prog w) A (storeName env x v) (fun _ s₂ => wpAny (model prog w) A (execs body env) (Turn1 h₀ env.locals I oI S (J (i + 1)) s (fun v s' => R (.ok (.ret v)) s') fun s' => R (.ok .next) s') (notedBy (model prog w) A env fun e s' => R (.error e) s') s₂) (notedBy (model prog w) A env fun e s' => R (.error e) s') { s with heap := h, toks := tk })
    (fin : ∀ h' tk m' news', lo ≤ tk → Fr h₀ env.locals h' m' → News h₀ env.locals h' news' → (∀ p ∈ news', p.1 ≠ I) → S news' → J n m' news' →
      wpAny (model prog w) A (execs orelse env) (fun f s₃ => R (.ok f) s₃) (notedBy (model prog w) A env fun e s' => R (.error e) s') { s with heap := h', toks := tk }) :
    codeAny (model prog w) A (.forLoop (.Name x px) (.ref I) body orelse env) R s := by
  refine codeAny_forLoop
    (fun k s' => ∃ h' tk m' news' i, s' = { s with heap := h', toks := tk } ∧ lo ≤ tk ∧ St i h' ∧ Fr h₀ env.locals h' m' ∧ News h₀ env.locals h' news' ∧ (∀ p ∈ news', p.1 ≠ I) ∧ S news' ∧ J i m' news' ∧ i ≤ n ∧ k = n + 1 - i) ?_ (n + 1)
    ⟨s.heap, s.toks, m, news, 0, rfl, hlo, hst, F, N, off, hS, h0, Nat.zero_le _, rfl⟩
  rintro k s' ⟨H, tk, m', news', i, rfl, hlo', hst', F', N', off', hS', hJ, hi, rfl⟩
  have next : ∀ h₁ : Heap, (∀ b o, b ≠ I → H.get? b = some o → h₁.get? b = some o) → Fr h₀ env.locals h₁ m' ∧ News h₀ env.locals h₁ news' := fun h₁ hk₁ =>
    ⟨⟨F'.ns.at' fun o e => hk₁ _ o hIL e, fun b o e => hk₁ b o (fun q => by rw [q, hI₀] at e; cases e) (F'.keep b o e), F'.above⟩, fun p hp => ⟨hk₁ _ _ (off' p hp) (N' p hp).1, (N' p hp).2⟩⟩
  by_cases hlt : i < n
  · refine wpAny_with_toks (n := lo) hlo' ?_
    refine W.item i _ _ _ hlt hlo' hst' fun v h₁ tk₁ hP hst₁ hk₁ hlo₁ => ?_
    dsimp only at hlo₁
    obtain ⟨F₁, N₁⟩ := next h₁ hk₁
    obtain ⟨oI, hoI⟩ := W.live _ _ hst₁
    refine wpAny_assign_Name ?_
    refine wpAny_with_toks (n := lo) (by dsimp only; exact hlo₁) (wpAny_mono (step i v m' news' h₁ tk₁ oI hlt hP hJ hS' hlo₁ off' F₁ (fun p hp => ?_)) (fun _ s₂ h₂ hl₂ => ?_) fun _ _ e _ => e)
    · rcases List.mem_cons.mp hp with rfl | hp
      · exact ⟨hoI, Ne.symm hIL, hI₀⟩
      · exact N₁ p hp
    refine wpAny_with_toks (n := lo) hl₂ (wpAny_mono h₂ (fun f s₃ h₆ hl₆ => ?_) fun _ _ e _ => e)
    cases f with
    | ret v => exact h₆
    | brk => exact h₆
    | cont =>
      obtain ⟨h₆', tk₆, m₂, news₂, rfl, F₆, N₆, o₆, S₆, hJ₆⟩ := h₆
      exact ⟨n + 1 - (i + 1), by omega, h₆', tk₆, m₂, news₂, i + 1, rfl, hl₆, W.keep _ _ _ _ _ hst₁ hoI (N₆ _ (.head _)).1 F₆.keep (fun p hp => N₆ p (.tail _ hp)) S₆, F₆, fun p hp => N₆ p (.tail _ hp), o₆, S₆, hJ₆, hlt, rfl⟩
    | next =>
      obtain ⟨h₆', tk₆, m₂, news₂, rfl, F₆, N₆, o₆, S₆, hJ₆⟩ := h₆
      exact ⟨n + 1 - (i + 1), by omega, h₆', tk₆, m₂, news₂, i + 1, rfl, hl₆, W.keep _ _ _ _ _ hst₁ hoI (N₆ _ (.head _)).1 F₆.keep (fun p hp => N₆ p (.tail _ hp)) S₆, F₆, fun p hp => N₆ p (.tail _ hp), o₆, S₆, hJ₆, hlt, rfl⟩
  · have hin : i = n := by omega
    subst hin
    refine wpAny_with_toks (n := lo) hlo' ?_
    refine W.done _ _ _ hst' fun h₁ tk₁ hk₁ hl₁ => ?_
    obtain ⟨F₁, N₁⟩ := next h₁ hk₁
    exact fin h₁ tk₁ m' news' hl₁ F₁ N₁ off' hS' hJ

theorem WI.str (hh : A.handled = none) {I : Addr} {x : Str} {t : Tok} : WI prog w A h₀ L 1 I x.cps.size (fun i v tk => ∃ (c : Nat) (u : Nat), x.cps[i]? = some c ∧ v = .str ⟨#[c]⟩ u ∧ 0 < u ∧ u < tk)
    (fun i h => h.IsStrIter I "str_ascii_iterator" x t i) (fun _ => True) where
  live := fun _ _ st => let ⟨o, ho, _⟩ := st; ⟨o, ho⟩
  keep := fun _ _ _ _ _ st e e' _ _ _ => by obtain ⟨o', q, r⟩ := st; rw [e] at q; cases q; exact ⟨_, e', r⟩
  item := fun i s Q E hi hlo st hQ => by
    have hx : x.cps[i]? = some x.cps[i] := by simp [hi]
    exact wpAny_pyNext_ascii_item st hx fun h' hit' hs' => hQ _ h' _ ⟨_, _, hx, rfl, hlo, Nat.lt_succ_self _⟩ hit' fun b o hb e => hs'.extBut b o hb e
  done := fun s Q E st hQ => wpAny_pyNext_ascii_end hh st (by simp) fun h' he' => hQ h' s.toks fun b o hb e => he' b o hb e
theorem WI.list (hh : A.handled = none) {I ax : Addr} {its : Array Value} (hne : ax ≠ I) : WI prog w A h₀ L 0 I its.size (fun i v _ => its[i]? = some v)
    (fun i h => h.IsListIter I ax i ∧ h.IsList ax its) (LCg.SrcAt h₀ ax its) where
  live := fun _ _ st => let ⟨o, ho, _⟩ := st.1; ⟨o, ho⟩
  keep := fun i h h' o nw st e e' k N S => LCg.list_st i h h' o nw st e e' k N S
  item := fun i s Q E hi _ st hQ => by
    have hx : its[i]? = some its[i] := by simp [hi]
    exact wpAny_pyNext_list_item st.1 st.2 hx fun h' hit' hs' => hQ _ h' s.toks hx ⟨hit', st.2.extBut hs'.extBut hne⟩ fun b o hb e => hs'.extBut b o hb e
  done := fun s Q E st hQ => wpAny_pyNext_list_end hh st.1 st.2 (by simp) fun h' he' => hQ h' s.toks fun b o hb e => he' b o hb e
theorem WI.range (hh : A.handled = none) {I : Addr} (a : Int) (n : Nat) : WI prog w A h₀ L 0 I n (fun i v _ => ∃ t, v = .int (a + (i : Int)) t)
    (fun i h => IsRangeIter h I (a + (i : Nat) * 1) ((n : Int) - (i : Nat)) 1) (fun _ => True) where
  live := fun _ _ st => ⟨_, st⟩
  keep := fun i h h' o nw st e e' k N S => LCg.range_st (h₀ := h₀) (L := L) i h h' o nw st e e' k N S
  item := fun i s Q E hi _ st hQ => (LCg.range_walks hh a n).item i s Q E hi st fun v h' tk hP hS hk => hQ v h' tk hP hS fun b o hb e => hk b o (by simpa using hb) e
  done := fun s Q E st hQ => (LCg.range_walks hh a n).done s Q E st fun h' tk hk => hQ h' tk fun b o hb e => hk b o (by simpa using hb) e
end
end
section
local macro_rules | `(tactic| walk_at "u9") => `(tactic| (apply Side.mk; k_asm; k_asm; k_asm; k_asm; k_asm; (first | exact rfl | assumption); k_room; ktr_units; (first | exact Nat.zero_le _ | (dsimp only; omega))))
local macro_rules | `(tactic| walk_at "p9") => `(tactic| first | assumption | rfl | omega | l_fact | mul_fits)
local macro_rules | `(tactic| walk_at "i9") => `(tactic| (intro v9 own9 h9 tk9 hR9 ht9 F9 N9 lt9; obtain ⟨e9, t9, f9⟩ := hR9; subst e9; subst f9; (try simp only [List.nil_append] at N9); clear lt9 ht9; (try dsimp only)))
local macro_rules | `(tactic| walk_at "call ref") => `(tactic| (k_here; k_dflt ((first | ((with_reducible show wpAny _ _ (call (Value.ref 50) _ _) _ _ _); refine' Con.use2 (c_add _ _ _ _ _) ?S ?_; (case S => walk_at "u9")) | ((with_reducible show wpAny _ _ (call (Value.ref 57) _ _) _ _ _); refine' Con.use2 (c_and_ _ _ _ _ _) ?S ?_; (case S => walk_at "u9")) | ((with_reducible show wpAny _ _ (call (Value.ref 71) _ _) _ _ _); refine' Con.use2 (c_mul _ _ _ _ _ ?p1) ?S ?_; (case S => walk_at "u9"); (case p1 => walk_at "p9")) | ((with_reducible show wpAny _ _ (call (Value.ref 92) _ _) _ _ _); refine' Con.use2 (c_sub _ _ _ _ _) ?S ?_; (case S => walk_at "u9")) | ((with_reducible show wpAny _ _ (call (Value.ref 99) _ _) _ _ _); refine' Con.use2 (c_xor _ _ _ _ _) ?S ?_; (case S => walk_at "u9")) | ((with_reducible show wpAny _ _ (call (Value.ref 85) _ _) _ _ _); refine' Con.use2 (c_rshift _ _ _ _ _ ?p1 ?p2) ?S ?_; (case S => walk_at "u9"); (case p1 => walk_at "p9"); (case p2 => walk_at "p9")) | ((with_reducible show wpAny _ _ (call (Value.ref 64) _ _) _ _ _); refine' Con.use2 (c_lshift _ _ _ _ _ ?p1 ?p2 ?p3) ?S ?_; (case S => walk_at "u9"); (case p1 => walk_at "p9"); (case p2 => walk_at "p9"); (case p3 => walk_at "p9")) | ((with_reducible show wpAny _ _ (call (Value.ref 78) _ _) _ _ _); refine' Con.use2 (c_neg _ _ _) ?S ?_; (case S => walk_at "u9"))); walk_at "i9")))
local macro_rules | `(tactic| walk_at "execs cons") => `(tactic| refine wpAny_execs_cons ?_)
local macro_rules | `(tactic| walk_at "m_sub") => `(tactic| (intro p9 hp9; (repeat (first | exact hp9 | apply List.mem_cons_of_mem))))
local macro_rules | `(tactic| walk_at "eval Name") => `(tactic| (k_here; k_dflt (refine' ld ?k1 ?k2 ?_; (case k1 => k_asm); (case k2 => first | exact rfl | assumption); k_whole)))
local macro_rules | `(tactic| walk_at "loadName") => `(tactic| (k_here; k_dflt (refine' ldn ?k1 ?k2 ?_; (case k1 => k_asm); (case k2 => first | exact rfl | assumption); k_whole)))
local macro_rules | `(tactic| walk_at "m_steps") => `(tactic| repeat (first | (k_unfold; (try dsimp only)) | walk1 | (dsimp only; walk1)))
section
theorem rs8 : True := by
  w_top off
  exact trivial
theorem frNamed {h₀ h : Heap} {L : Addr} {m : Str → Option Value} {P : Prop} (F : Fr h₀ L h m) (k : ∀ m', m' = m → Fr h₀ L h m' → P) : P := k m rfl F
theorem two_put (m : Str → Option Value) (xi xc : Str) (hne : xi ≠ xc) (vi vc : Option Value) (a b : Option Value) : (fun y => if y = xi then a else if y = xc then b else two m xi xc vi vc y) = two m xi xc a b := by
  funext y; unfold two
  by_cases h1 : y = xc
  · subst h1; simp [Ne.symm hne]
  · by_cases h2 : y = xi
    · subst h2; simp [h1]
    · simp [h1, h2]
theorem idx_abc {w mean mg mb} (news : List (Addr × Obj)) (tx : Tok) (tb : Nat) (c : Nat) (h1 : 97 ≤ c) (h2 : c < 103) (hb : 0 < tb) :
    Con w mean mg mb 120 2 20 (tb + 1) news [.str (Str.ofString "abcdef") tx, .str ⟨#[c]⟩ tb] (fun r own => own = [] ∧ ∃ t, r = .int ((c - 97 : Nat) : Int) t) := by
  have hc : c = 97 ∨ c = 98 ∨ c = 99 ∨ c = 100 ∨ c = 101 ∨ c = 102 := by omega
  have key : (Str.ofString "abcdef").cps[c - 97]? = some c ∧ ∀ i, i < c - 97 → (Str.ofString "abcdef").cps[i]? ≠ some c := by
    rcases hc with rfl | rfl | rfl | rfl | rfl | rfl <;> decide +kernel
  exact idx_text news _ tx tb c (c - 97) (by decide +kernel) key.1 key.2 hb
local macro_rules | `(tactic| walk_at "call ref") => `(tactic| (k_here; (with_reducible show wpAny _ _ (call (Value.ref 120) [Value.str _ _, Value.str _ _] _) _ _ _); k_dflt (refine' Con.use (idx_abc _ _ _ _ ?p1 ?p2 ?p3) ?k1 ?k2 ?k3 ?k4 ?k5 ?kK ?kd ?ku ?kl ?_; (case k1 => k_asm); (case k2 => k_asm); (case k3 => k_asm); (case k4 => k_asm); (case k5 => k_asm); (case kK => first | exact rfl | assumption); (case kd => k_room); (case ku => ktr_units); (case kl => (dsimp only; omega)); (case p1 => omega); (case p2 => omega); (case p3 => assumption); walk_at "i9")))
noncomputable def cnt (cs : List Nat) : Int := cs.foldl (fun a c => a - 2 ^ (c - 97)) 63
theorem cnt_snoc (cs : List Nat) (c : Nat) : cnt (cs ++ [c]) = cnt cs - 2 ^ (c - 97) := by unfold cnt; rw [List.foldl_append]; rfl
theorem c_count {w mean mg mb} (news : List (Addr × Obj)) (x : Str) (t : Tok) (hx : ∀ c ∈ x.cps.toList, 97 ≤ c ∧ c < 103) :
    Con w mean mg mb 167 4 40 1 news [.str x t] (fun r own => own = [] ∧ ∃ t, r = .int (cnt x.cps.toList) t) := by
  have hasc : x.cps.all (· < 128) = true := by
    rw [Array.all_eq_true_iff_forall_mem]
    intro c hc
    have := hx c (by simpa using hc)
    simp; omega
  walk_at "m_con"; rename_i hlo hret
  w_strict (
  walk_at "m_enter"
  refine wpAny_execs_cons ?_
  walk1
  walk1
  walk1
  dsimp only
  refine wpAny_execs_cons ?_
  refine wpAny_For ?_ (by intro _; rfl)
  walk1
  refine wpAny_pyIter_ascii hasc ?_
  (with_reducible rename Fr _ _ _ _ => kF)
  (with_reducible rename News _ _ _ _ => kN)
  (with_reducible rename Frag.In _ _ => kX)
  dsimp only at kF kN ⊢
  refine frNamed kF fun M0 hM0 kF => ?_
  refine loop1 (lo := 1) (WI.str rfl (t := t)) (Nat.ne_of_lt kF.ns.lt) (next_is_new kF) (fun p hp => Nat.ne_of_lt (Heap.lt_size (kN p hp).1)) trivial ?_ ⟨_, Heap.get?_push_size _ rfl, rfl, rfl⟩ (kF.push _) (kN.grown fun _ _ e => Heap.get?_push_of_some _ e)
    (fun i m' nw => nw = news ∧ ∃ tc vs, m' = two M0 (Str.ofString "count") (Str.ofString "sign") (some (.int (cnt (x.cps.toList.take i)) tc)) vs) ⟨rfl, ?_⟩ ?_ ?_
  · dsimp only; omega
  · obtain ⟨tc, hc0⟩ : ∃ tc, M0 (Str.ofString "count") = some (.int 63 tc) := by subst hM0; exact ⟨_, rfl⟩
    refine ⟨tc, M0 (Str.ofString "sign"), ?_⟩
    rw [show cnt (x.cps.toList.take 0) = 63 from by rw [List.take_zero]; rfl, ← hc0]
    exact two_start _ _ _
  · subst hM0
    rintro i v m₁ nw h tk oI hi ⟨c, u, hc, rfl, hu0, hu⟩ ⟨rfl, tc, vs, rfl⟩ _ htk hoff kF1 kN1
    unfold two at kF1
    have hcm := hx c (by rw [Array.mem_toList_iff]; exact Array.mem_of_getElem? hc)
    k_steps
    (with_reducible rename Fr _ _ _ _ => kF2)
    have hs : cnt (x.cps.toList.take i) - 1 * 2 ^ Int.toNat ((c - 97 : Nat) : Int) = cnt (x.cps.toList.take (i + 1)) := by
      have hg : x.cps.toList[i]? = some c := by rw [Array.getElem?_toList]; exact hc
      rw [List.take_add_one, hg, Option.toList_some, cnt_snoc, Int.toNat_natCast, Int.one_mul]
    rw [hs] at kF2
    refine ⟨_, _, _, nw, rfl, kF2, by k_asm, hoff, trivial, rfl, _, _, two_put _ _ _ (by decide) _ _ _ _⟩
  · subst hM0
    rintro h' tk m' nw htk kF1 kN1 hoff _ ⟨rfl, tc, vs, rfl⟩
    unfold two at kF1
    have hl : x.cps.toList.take x.cps.size = x.cps.toList := List.take_of_length_le (by simp)
    rw [hl] at kF1
    k_steps
    exact hret _ [] _ _ ⟨rfl, _, rfl⟩ (by k_asm) (by k_asm) (fun _ h => nomatch h))
end
section
local macro_rules | `(tactic| walk_at "none here") => `(tactic| skip)
local macro_rules | `(tactic| walk_at "none here") => `(tactic| skip)
theorem rs9 : True := by
  w_top off
  exact trivial
theorem c_getstr {w mean mg mb} (news : List (Addr × Obj)) (x : Str) (i : Int) (tx ti : Tok) (h0 : 0 ≤ i) (h1 : i < x.length) (h2 : x.length ≤ 100) :
    Con w mean mg mb 113 2 20 0 news [.str x tx, .int i ti] (fun r own => own = [] ∧ ∃ t, r = .str (Txt.item x i) t) := by
  walk_at "m_con"; rename_i hlo hret
  w_strict (
  walk_at "m_enter"
  (repeat ((fail_if_success (with_reducible show wpAny _ _ (subscriptTail _ _ _ _) _ _ _)); walk1))
  refine item_str (fitsSsize_of (N := 9223372036854775808) (by omega) (by omega) (Int.le_refl _)) (by omega) h1 (fun _ => ?_)
  k_steps
  exact hret _ [] _ _ ⟨rfl, _, rfl⟩ (by k_asm) (by k_asm) (fun _ h => nomatch h))
local macro_rules | `(tactic| walk_at "call ref") => `(tactic| (k_here; (with_reducible show wpAny _ _ (call (Value.ref 113) [Value.str _ _, Value.int _ _] _) _ _ _); k_dflt (refine' Con.use2 (c_getstr _ _ _ _ _ ?p1 ?p2 ?p3) ?S ?_; (case S => walk_at "u9"); (case p1 => first | assumption | omega); (case p2 => first | assumption | omega); (case p3 => decide); walk_at "i9")))
noncomputable def gW (v k : Int) : Str := Txt.item (Str.ofString "aAbBcCdDeEfF") (2 * k + Builtin.bitAnd (Int.fdiv v (2 ^ k.toNat)) 1)
noncomputable def wordOf (v : Int) : Str := Txt.join (Str.ofString "") ((rangeKs 0 6).map (gW v))
theorem bitAnd1 (a : Int) : 0 ≤ Builtin.bitAnd a 1 ∧ Builtin.bitAnd a 1 ≤ 1 :=
  bitAnd_range a (by decide)
theorem c_word {w mean mg mb} (news : List (Addr × Obj)) (v : Int) (tv : Tok) (h0 : 0 ≤ v) (h1 : v < 64) :
    Con w mean mg mb 179 4 60 0 news [.int v tv] (fun r own => own = [] ∧ ∃ t, r = .str (wordOf v) t) := by
  walk_at "m_con"; rename_i hlo hret
  w_strict (
  walk_at "m_enter"
  (repeat ((fail_if_success (with_reducible show wpAny _ _ (eval (Expr.ListComp _ _ _ _) _) _ _ _)); walk1))
  k_dflt (refine LCg.ListComp_U (F₀ := by k_asm) (by with_unfolding_all rfl) (by decide) (by rfl) (by decide) (by rfl) ?_)
  (repeat ((fail_if_success (with_reducible show LCg.CompSrc _ _ _ _ _ _ _ _ _ _ _ _ _ _)); walk1))
  k_dflt (refine LCg.CompSrc.range (n := 6) (by rfl) (by k_asm) (by k_asm) (by assumption) (by decide) (by rfl) (by exact Nat.le_of_ble_eq_true rfl) ?_)
  intro g'
  refine' kct_range (gW v) (fun k t I oI C oC D m ys h tk E' hlo' hhi' hC' hx' F' N' off' ne' => ?_) ?_
  · intro hMark
    simp only [LCg.Off3] at off'
    have hb := bitAnd1 (Int.fdiv v (2 ^ k.toNat))
    have hl : (Str.ofString "aAbBcCdDeEfF").length = 12 := by decide +kernel
    k_steps
    refine LCg.CompEnd.intro (by k_asm) (by k_asm) _ (fun p hp => hp) (by simp only [LCg.Off3]; exact off') trivial ⟨rfl, _, rfl⟩
  · unfold KPfDone
    intro ys hc hn
    intro D h tk F1 N1 o1
    k_steps
    (with_reducible rename News _ _ _ _ => kN9)
    exact hret _ [] _ _ ⟨rfl, _, rfl⟩ (by k_asm) (cb_drop kN9 (by walk_at "m_sub")) (fun _ h => nomatch h))
end
section
local macro_rules | `(tactic| walk_at "none here") => `(tactic| skip)
local macro_rules | `(tactic| walk_at "none here") => `(tactic| skip)
local macro_rules | `(tactic| walk_at "none here") => `(tactic| skip)
local macro_rules | `(tactic| walk_at "none here") => `(tactic| skip)
theorem rs10 : True := by
  w_top off
  exact trivial
section
open PySem.Spec
variable {prog : Program} {w : World} {A : Around} {E : Value → Shared → Prop} {s : Shared} {h₀ : Heap} {L : Addr}
noncomputable def TurnW (h₀ : Heap) (L : Addr) (J : Nat → (Str → Option Value) → List (Addr × Obj) → Prop) (n : Nat) (s₁ : Shared) (Qr : Value → Shared → Prop) (Qb : Shared → Prop) (f : Flow) (s₂ : Shared) : Prop :=
  match f with
  | .ret v => Qr v s₂
  | .brk => Qb s₂
  | _ => ∃ h' tk m' news' n', n' < n ∧ s₂ = { s₁ with heap := h', toks := tk } ∧ Fr h₀ L h' m' ∧ News h₀ L h' news' ∧ J n' m' news'
theorem whileR {R : Result → Shared → Prop} {env : Env} {test : Expr} {body orelse : List Stmt} {lo : Nat} {m : Str → Option Value} {news : List (Addr × Obj)}
    (hlo : lo ≤ s.toks) (F : Fr h₀ env.locals s.heap m) (N : News h₀ env.locals s.heap news)
    (J : Nat → (Str → Option Value) → List (Addr × Obj) → Prop) (k : Nat) (h0 : J k m news)
    (turn : ∀ n m₁ nw h tk, J n m₁ nw → lo ≤ tk → Fr h₀ env.locals h m₁ → News h₀ env.locals h nw →
      wpAny (model prog w) A (isTrue test env (eval test env)) (fun b s₂ => if b = true then wpAny (model prog w) A (execs body env) (TurnW h₀ env.locals J n s (fun v s' => R (.ok (.ret v)) s') fun s' => R (.ok .next) s') (notedBy (model prog w) A env fun e s' => R (.error e) s') s₂
        else wpAny (model prog w) A (execs orelse env) (fun f s₃ => R (.ok f) s₃) (notedBy (model prog w) A env fun e s' => R (.error e) s') s₂) (notedBy (model prog w) A env fun e s' => R (.error e) s') { s with heap := h, toks := tk }) :
    codeAny (model prog w) A (.whileLoop test body orelse env) R s := by
  refine codeAny_whileLoop (fun n s' => ∃ h' tk m' nw, s' = { s with heap := h', toks := tk } ∧ lo ≤ tk ∧ Fr h₀ env.locals h' m' ∧ News h₀ env.locals h' nw ∧ J n m' nw) ?_ k ⟨s.heap, s.toks, m, news, rfl, hlo, F, N, h0⟩
  rintro n s' ⟨h', tk, m', nw, rfl, hl, F', N', hJ⟩
  refine wpAny_with_toks (n := lo) hl (wpAny_mono (turn n m' nw h' tk hJ hl F' N') (fun b s₂ h₂ hl₂ => ?_) fun _ _ e _ => e)
  cases b with
  | false => exact h₂
  | true =>
    rw [if_pos rfl] at h₂ ⊢
    refine wpAny_with_toks (n := lo) hl₂ (wpAny_mono h₂ (fun f s₃ h₃ hl₃ => ?_) fun _ _ e _ => e)
    cases f with
    | ret v => exact h₃
    | brk => exact h₃
    | next => obtain ⟨h₄, t₄, m₄, n₄, k₄, hk, rfl, F₄, N₄, J₄⟩ := h₃; exact ⟨k₄, hk, h₄, t₄, m₄, n₄, rfl, hl₃, F₄, N₄, J₄⟩
    | cont => obtain ⟨h₄, t₄, m₄, n₄, k₄, hk, rfl, F₄, N₄, J₄⟩ := h₃; exact ⟨k₄, hk, h₄, t₄, m₄, n₄, rfl, hl₃, F₄, N₄, J₄⟩
end
theorem c_cost {w mean mg mb} (news : List (Addr × Obj)) (x y : Str) (tx ty : Tok) (hx : x.length = 1) (hy : y.length = 1) :
    Con w mean mg mb 127 2 20 0 news [.str x tx, .str y ty] (fun r own => own = [] ∧ ∃ t, r = .int (if x = y then 0 else if Txt.lower x = Txt.lower y then 1 else 2) t) := by
  walk_at "m_con"; rename_i hlo hret
  w_strict (
  walk_at "m_enter"
  k_steps
  · exact hret _ [] _ _ ⟨rfl, _, by rw [if_pos (by simpa using ‹(x == y) = true›)]⟩ (by k_asm) (by k_asm) (fun _ h => nomatch h)
  · exact hret _ [] _ _ ⟨rfl, _, by rw [if_neg (by simpa using ‹(x == y) = false›), if_pos (by simpa using ‹(Txt.lower x == Txt.lower y) = true›)]⟩ (by k_asm) (by k_asm) (fun _ h => nomatch h)
  · exact hret _ [] _ _ ⟨rfl, _, by rw [if_neg (by simpa using ‹(x == y) = false›), if_neg (by simpa using ‹(Txt.lower x == Txt.lower y) = false›)]⟩ (by k_asm) (by k_asm) (fun _ h => nomatch h))
end
section
local macro_rules | `(tactic| walk_at "none here") => `(tactic| skip)
local macro_rules | `(tactic| walk_at "none here") => `(tactic| skip)
local macro_rules | `(tactic| walk_at "none here") => `(tactic| skip)
local macro_rules | `(tactic| walk_at "none here") => `(tactic| skip)
local macro_rules | `(tactic| walk_at "none here") => `(tactic| skip)
theorem rs11 : True := by
  w_top off
  exact trivial
section
open PySem.Spec PySem.Builtin PySem.Builtin.Str
theorem slice_from {x : Str} {p : Nat} (hp : p ≤ x.cps.size) : Txt.slice x (some (p : Int)) none = ⟨(x.cps.toList.drop p).toArray⟩ := by
  rw [slice_from_eq (b := (x.length : Int)) (by omega) (by unfold Str.length; omega) rfl]
  congr 2
  rw [Int.toNat_natCast, List.take_of_length_le]
  rw [List.length_drop, Array.length_toList]; unfold Str.length; omega
theorem indices_neg {n k : Nat} (hk : 0 < k) (hkn : k ≤ n) : strSliceIndices none (some (-(k : Int))) 1 n = strSliceIndices none (some ((n - k : Nat) : Int)) 1 n := by
  have h0 : (-(k : Int)) < 0 := by omega
  have h1 : ¬ (((n - k : Nat) : Int) < 0) := by omega
  have h2 : (-(k : Int)) + (n : Int) = ((n - k : Nat) : Int) := by omega
  simp only [strSliceIndices, h0, h1, if_false, if_true, h2]
theorem slice_upto {x : Str} {j : Nat} (hj : j ≤ x.cps.size) : Txt.slice x none (some (j : Int)) = ⟨(x.cps.toList.take j).toArray⟩ := by
  have h := beq_iff_eq.mp (slice_closes_toL (x := x) (j := (j : Int)) (by omega) (by unfold Str.length; omega))
  rw [h]
  congr 1
theorem slice_upto_neg {x : Str} {k : Nat} (hk : 0 < k) (hkn : k ≤ x.cps.size) : Txt.slice x none (some (-(k : Int))) = ⟨(x.cps.toList.take (x.cps.size - k)).toArray⟩ := by
  rw [← slice_upto (Nat.sub_le _ _)]
  unfold Txt.slice
  rw [show strSliceIndices none (some (-(k : Int))) 1 x.length = strSliceIndices none (some ((x.cps.size - k : Nat) : Int)) 1 x.length from indices_neg hk hkn]
theorem item_nat {x : Str} {i c : Nat} (h : x.cps[i]? = some c) : Txt.item x (i : Int) = ⟨#[c]⟩ := by
  have hi := (Array.getElem?_eq_some_iff.mp h).1
  unfold Txt.item Txt.charAt seqIndex?
  have h1 : ¬ ((i : Int) < 0) := by omega
  have h2 : (decide (0 ≤ (i : Int)) && decide ((i : Int) < (x.length : Int))) = true := by
    rw [Bool.and_eq_true]; exact ⟨by simp, by simp [Str.length]; omega⟩
  simp only [h1, if_false, h2, if_true, Option.bind_some, Int.toNat_natCast, h, Option.getD_some]
theorem item_neg {x : Str} {k c : Nat} (hk : 0 < k) (hkn : k ≤ x.cps.size) (h : x.cps[x.cps.size - k]? = some c) : Txt.item x (-(k : Int)) = ⟨#[c]⟩ := by
  unfold Txt.item Txt.charAt seqIndex?
  have h1 : (-(k : Int)) < 0 := by omega
  have h3 : (-(k : Int)) + (x.length : Int) = ((x.cps.size - k : Nat) : Int) := by unfold Str.length; omega
  have h2 : (decide (0 ≤ ((x.cps.size - k : Nat) : Int)) && decide (((x.cps.size - k : Nat) : Int) < (x.length : Int))) = true := by
    rw [Bool.and_eq_true]; exact ⟨by simp, by simp [Str.length]; omega⟩
  simp only [h1, if_true, h3, h2, Option.bind_some, Int.toNat_natCast, h, Option.getD_some]
end
end
section
theorem rs12 : True := by
  w_top off
  exact trivial
theorem get_some {a : Str} {p : Nat} (h : p < a.cps.size) : ∃ c, a.cps[p]? = some c := ⟨_, Array.getElem?_eq_getElem h⟩
theorem eq_item {a b : Str} {p : Nat} (ha : p < a.cps.size) (hb : p < b.cps.size) : (Txt.item a (p : Int) == Txt.item b (p : Int)) = true ↔ a.cps[p]? = b.cps[p]? := by
  obtain ⟨c, hc⟩ := get_some ha
  obtain ⟨d, hd⟩ := get_some hb
  rw [item_nat hc, item_nat hd, hc, hd]; simp
theorem eq_item_neg {a b : Str} {k : Nat} (hk : 0 < k) (ha : k ≤ a.cps.size) (hab : a.cps.size = b.cps.size) : (Txt.item a (-(k : Int)) == Txt.item b (-(k : Int))) = true ↔ a.cps[a.cps.size - k]? = b.cps[a.cps.size - k]? := by
  obtain ⟨c, hc⟩ := get_some (a := a) (p := a.cps.size - k) (by omega)
  obtain ⟨d, hd⟩ := get_some (a := b) (p := b.cps.size - k) (by omega)
  rw [item_neg hk ha hc, item_neg hk (by omega) hd, hc, hab, hd]; simp
/-- a word: at each place the letter of the place, small or great -/
noncomputable def Wd (a : Str) : Prop := a.cps.size = 6 ∧ ∀ i, i < 6 → a.cps[i]? = some (65 + i) ∨ a.cps[i]? = some (97 + i)
theorem str_ext {a b : Str} (h1 : a.cps.size = b.cps.size) (h2 : ∀ j, j < a.cps.size → a.cps[j]? = b.cps[j]?) : a = b := by
  obtain ⟨a⟩ := a; obtain ⟨b⟩ := b
  congr 1
  apply Array.ext_getElem?
  intro j
  by_cases h : j < a.size
  · exact h2 j h
  · rw [Array.getElem?_eq_none (by omega), Array.getElem?_eq_none (by simp only at h1; omega)]
end
section
local macro_rules | `(tactic| walk_at "none here") => `(tactic| skip)
theorem rs13 : True := by
  w_top off
  exact trivial
noncomputable def cutS (A : Str) (q : Nat) : Str := ⟨(A.cps.toList.take (A.cps.size - q)).toArray⟩
theorem cutS_zero (A : Str) : cutS A 0 = A := by
  obtain ⟨A⟩ := A
  unfold cutS
  congr 1
  rw [List.take_of_length_le (by simp)]
theorem cutS_size (A : Str) (q : Nat) : (cutS A q).cps.size = A.cps.size - q := by unfold cutS; simp
theorem cutS_get (A : Str) (q j : Nat) (h : j < A.cps.size - q) : (cutS A q).cps[j]? = A.cps[j]? := by
  unfold cutS
  simp [List.getElem?_take, h]
theorem slice_whole (A : Str) : Txt.slice A none none = A := by
  have e : PySem.Builtin.Str.strSliceIndices none none 1 A.length = PySem.Builtin.Str.strSliceIndices none (some ((A.cps.size : Nat) : Int)) 1 A.length := by
    have h1 : ¬ (((A.cps.size : Nat) : Int) < 0) := by omega
    simp only [PySem.Builtin.Str.strSliceIndices, h1, if_false, if_true, Str.length, Int.min_self]
    congr 1
  have h := slice_upto (x := A) (Nat.le_refl _)
  have h2 : Txt.slice A none none = Txt.slice A none (some ((A.cps.size : Nat) : Int)) := by unfold Txt.slice; rw [e]
  rw [h2, h]
  exact cutS_zero A
noncomputable def fromS (A : Str) (q : Nat) : Str := ⟨(A.cps.toList.drop q).toArray⟩
theorem fromS_size (A : Str) (q : Nat) : (fromS A q).cps.size = A.cps.size - q := by unfold fromS; simp
theorem fromS_get (A : Str) (q j : Nat) : (fromS A q).cps[j]? = A.cps[q + j]? := by unfold fromS; simp [List.getElem?_drop]
section
variable {prog : Program} {w : World} {A₀ : Around} {E : Value → Shared → Prop} {s : Shared} {h₀ : Heap} {L f : Addr} {m : Str → Option Value} {news : List (Addr × Obj)} {nm : Str} {sc : Scope} {cd : Value}
theorem cut_eval {x po : Str} {p1 p2 p3 p4 p5 p6 : Pos} {A : Str} {t tq : Tok} {q : Nat} {Q : Value → Shared → Prop}
    (F : Fr h₀ L s.heap m) (N : News h₀ L s.heap news) (hx : m x = some (.str A t)) (hp : m po = some (.int (-(q : Int)) tq)) (hq : q ≤ A.cps.size) (hsz : A.length ≤ 1000)
    (h : ∀ h' t' k, Fr h₀ L h' m → News h₀ L h' news → (cutS A q).length = A.length - q → Q (.str (cutS A q) t') { s with heap := h', toks := k })
    (hk : sc.kind = .function := by rfl) (hxk : (envOf nm sc L f cd).kindOf x = some .local := by rfl) (hpk : (envOf nm sc L f cd).kindOf po = some .local := by rfl)
    (hd1 : (x == ("__debug__" : Str)) = false := by decide) (hd2 : (po == ("__debug__" : Str)) = false := by decide) :
    wpAny (model prog w) A₀ (eval (.Subscript (.Name x p1) (.Slice none (some (.BoolOp .Or [.Name po p2, .Constant .none 0 p3] p4)) none p5) p6) (envOf nm sc L f cd)) Q E s := by
  refine Subscript_ (ld F hx ?_ hk hxk hd1)
  refine wpAny_Slice ?_
  refine evalPart_none_step (evalPart_some_step (BoolOp_or (ld F hp ?_ hk hpk hd2)))
  walk1
  by_cases hq0 : q = 0
  · subst hq0
    rw [if_neg (by simp)]
    refine BoolOp_one (wpAny_Constant_none (evalPart_none_step ?_))
    refine slice_strN_nn F N (fun h' t' k F' N' => ?_) (hsz := by rw [sizeLine_eq]; omega)
    rw [slice_whole]
    have := h h' t' k F' N' (cutS_size A 0)
    rw [cutS_zero] at this
    exact this
  · rw [if_pos (by simp; exact hq0)]
    refine evalPart_none_step ?_
    refine slice_strN_ns F N (fun h' t' k F' N' => ?_) (hsz := by rw [sizeLine_eq]; omega)
    rw [slice_upto_neg (Nat.pos_of_ne_zero hq0) hq]
    exact h h' t' k F' N' (cutS_size A q)
theorem from_eval {x po : Str} {p1 p2 p5 p6 : Pos} {A : Str} {t tq : Tok} {q : Nat} {Q : Value → Shared → Prop}
    (F : Fr h₀ L s.heap m) (N : News h₀ L s.heap news) (hx : m x = some (.str A t)) (hp : m po = some (.int (q : Int) tq)) (hq : q ≤ A.cps.size) (hsz : A.length ≤ 1000)
    (h : ∀ h' t' k, Fr h₀ L h' m → News h₀ L h' news → (fromS A q).length = A.length - q → Q (.str (fromS A q) t') { s with heap := h', toks := k })
    (hk : sc.kind = .function := by rfl) (hxk : (envOf nm sc L f cd).kindOf x = some .local := by rfl) (hpk : (envOf nm sc L f cd).kindOf po = some .local := by rfl)
    (hd1 : (x == ("__debug__" : Str)) = false := by decide) (hd2 : (po == ("__debug__" : Str)) = false := by decide) :
    wpAny (model prog w) A₀ (eval (.Subscript (.Name x p1) (.Slice (some (.Name po p2)) none none p5) p6) (envOf nm sc L f cd)) Q E s := by
  refine Subscript_ (ld F hx ?_ hk hxk hd1)
  refine wpAny_Slice ?_
  refine evalPart_some_step (ld F hp ?_ hk hpk hd2)
  refine evalPart_none_step (evalPart_none_step ?_)
  refine slice_strN_sn F N (fun h' t' k F' N' => ?_) (hsz := by rw [sizeLine_eq]; omega)
  rw [slice_from hq]
  exact h h' t' k F' N' (fromS_size A q)
end
end
section
local macro_rules | `(tactic| walk_at "none here") => `(tactic| skip)
local macro_rules | `(tactic| walk_at "none here") => `(tactic| skip)
theorem rs14 : True := by
  w_top off
  exact trivial
/-- what one letter against another costs -/
noncomputable def lcst (x y : Str) : Int := if x = y then 0 else if Txt.lower x = Txt.lower y then 1 else 2
theorem cst_tab : ∀ i, i < 6 → ∀ j, j < 6 → ∀ u v : Bool, lcst ⟨#[if u then 65 + i else 97 + i]⟩ ⟨#[if v then 65 + j else 97 + j]⟩ = if i = j then (if u = v then 0 else 1) else 2 := by
  unfold lcst
  decide +kernel
theorem Wd.get {a : Str} (h : Wd a) {i : Nat} (hi : i < 6) : ∃ u : Bool, a.cps[i]? = some (if u then 65 + i else 97 + i) := by
  rcases h.2 i hi with h | h
  · exact ⟨true, by simpa using h⟩
  · exact ⟨false, by simpa using h⟩
/-- do two texts differ at a place -/
noncomputable def dAt (a b : Str) (j : Nat) : Nat := if a.cps[j]? = b.cps[j]? then 0 else 1
theorem dAt_le (a b : Str) (j : Nat) : dAt a b j ≤ 1 := by unfold dAt; split <;> omega
theorem cst_wd {a b : Str} (ha : Wd a) (hb : Wd b) {i j : Nat} {c d : Nat} (hi : i < 6) (hj : j < 6) (h1 : b.cps[i]? = some c) (h2 : a.cps[j]? = some d) :
    lcst ⟨#[c]⟩ ⟨#[d]⟩ = if i = j then (dAt a b i : Int) else 2 := by
  obtain ⟨u, hu⟩ := hb.get hi
  obtain ⟨v, hv⟩ := ha.get hj
  rw [h1] at hu; rw [h2] at hv
  cases hu; cases hv
  rw [cst_tab i hi j hj u v]
  by_cases e : i = j
  · subst e
    simp only [if_true]
    unfold dAt
    rw [h1, h2]
    cases u <;> cases v <;> simp
  · simp [e]
noncomputable def dS (d : Nat → Nat) (p : Nat) : Nat → Nat
  | 0 => 0
  | k + 1 => dS d p k + d (p + k)
theorem dS_le (d : Nat → Nat) (h : ∀ j, d j ≤ 1) (p : Nat) : ∀ k, dS d p k ≤ k
  | 0 => Nat.le_refl _
  | k + 1 => by have := dS_le d h p k; have := h (p + k); unfold dS; omega
theorem dS_mid (d : Nat → Nat) (p n : Nat) (hp : p + n ≤ 6) (h1 : ∀ j, j < p → d j = 0) (h2 : ∀ j, p + n ≤ j → j < 6 → d j = 0) : dS d p n = dS d 0 6 := by
  have add : ∀ k q, dS d q (k + 1) = d q + dS d (q + 1) k := by
    intro k
    induction k with
    | zero => intro q; simp [dS]
    | succ k ih => intro q; rw [dS, ih, dS]; rw [show q + (k + 1) = q + 1 + k from by omega]; omega
  have front : ∀ p, (∀ j, j < p → d j = 0) → ∀ m, dS d 0 (p + m) = dS d p m := by
    intro p
    induction p with
    | zero => intro _ m; rw [Nat.zero_add]
    | succ p ih =>
      intro h m
      rw [show p + 1 + m = p + (m + 1) from by omega, ih (fun j hj => h j (by omega)), add, h p (by omega), Nat.zero_add]
  have back : ∀ m, p + n + m ≤ 6 → dS d p (n + m) = dS d p n := by
    intro m
    induction m with
    | zero => intro _; rfl
    | succ m ih =>
      intro h
      rw [← Nat.add_assoc, dS, ih (by omega), h2 (p + (n + m)) (by omega) (by omega)]
      omega
  have e := front p h1 (6 - p)
  rw [show p + (6 - p) = 6 from by omega] at e
  rw [e, show 6 - p = n + (6 - p - n) from by omega, back _ (by omega)]
/-- the number of places at which two words differ -/
noncomputable def dif (a b : Str) : Nat := dS (dAt a b) 0 6
theorem dif_self (a : Str) : dif a a = 0 := by simp [dif, dS, dAt]
/-- what the table of distances holds -/
noncomputable def lv (S : Nat → Nat) (i j : Nat) : Int := if i ≤ j then (S i : Int) + 2 * ((j : Int) - i) else (S j : Int) + 2 * ((i : Int) - j)
theorem lv_zero (S : Nat → Nat) (h0 : S 0 = 0) (i : Nat) : lv S i 0 = 2 * (i : Int) := by
  unfold lv
  split
  · rename_i h
    have : i = 0 := by omega
    subst this; omega
  · omega
theorem lv_diag (S : Nat → Nat) (i : Nat) : lv S i i = S i := by unfold lv; rw [if_pos (Nat.le_refl _)]; omega
theorem lv_step (S : Nat → Nat) (h0 : S 0 = 0) (hS : ∀ k, S k ≤ S (k + 1) ∧ S (k + 1) ≤ S k + 1) (i j : Nat) (r c : Int) (hr : r = if j = 0 then 2 * (i : Int) else lv S (i + 1) j)
    (hc : c = if i = j then (S (i + 1) : Int) - S i else 2) : min (min r (lv S i (j + 1)) + 2) (lv S i j + c) = lv S (i + 1) (j + 1) := by
  subst hr hc
  have a1 := hS i
  have a2 := hS j
  have b1 := hS 0
  unfold lv
  rcases Nat.lt_trichotomy i j with h | h | h
  · have e1 : ¬ (j = 0) := by omega
    have e2 : i ≤ j + 1 := by omega
    have e3 : i + 1 ≤ j := by omega
    have e4 : i + 1 ≤ j + 1 := by omega
    have e5 : ¬ (i = j) := by omega
    have e6 : i ≤ j := by omega
    simp only [e1, e2, e3, e4, e5, e6, if_true, if_false]
    omega
  · subst h
    have e2 : i ≤ i + 1 := by omega
    have e3 : ¬ (i + 1 ≤ i) := by omega
    simp only [e2, e3, Nat.le_refl, if_true, if_false]
    split
    · rename_i e; subst e; omega
    · omega
  · have e2 : ¬ (i ≤ j) := by omega
    have e3 : ¬ (i + 1 ≤ j) := by omega
    have e4 : ¬ (i + 1 ≤ j + 1) := by omega
    have e5 : ¬ (i = j) := by omega
    simp only [e2, e3, e4, e5, if_true, if_false]
    by_cases e1 : j = 0
    · subst e1
      simp only [if_true]
      by_cases e7 : i ≤ 0 + 1
      · have : i = 1 := by omega
        subst this
        simp only [e7, if_true, Nat.zero_add] at *; omega
      · simp only [e7, if_false, Nat.zero_add] at *; omega
    · simp only [e1, if_false]
      by_cases e7 : i ≤ j + 1
      · have : i = j + 1 := by omega
        subst this
        simp only [e7, if_true]; omega
      · simp only [e7, if_false]; omega
theorem ints_of (f : Nat → Int) : ∀ (vs : List Value), (∀ (j : Nat) (v : Value), vs[j]? = some v → ∃ t, v = .int (f j) t) → IntsAre vs ((List.range vs.length).map f) := by
  intro vs
  induction vs generalizing f with
  | nil => intro _; exact .nil
  | cons v r ih =>
    intro h
    rw [List.length_cons, List.range_succ_eq_map, List.map_cons, List.map_map]
    obtain ⟨t, rfl⟩ := h 0 v rfl
    exact .cons _ _ (ih (f ∘ Nat.succ) fun j v hj => h (j + 1) v hj)
theorem getD_map_range (f : Nat → Int) {n k : Nat} (h : k < n) : ((List.range n).map f).getD k 0 = f k := by
  rw [List.getD_eq_getElem?_getD, List.getElem?_map, List.getElem?_range h]; rfl
theorem getD_set (l : List Int) (i k : Nat) (x : Int) (h : i < l.length) : (l.set i x).getD k 0 = if k = i then x else l.getD k 0 := by
  simp only [List.getD_eq_getElem?_getD, List.getElem?_set]
  by_cases e : i = k
  · subst e; simp [h]
  · simp [e, Ne.symm e]
section
open PySem.Spec
variable {prog : Program} {w : World} {A A' : Around} {E : Value → Shared → Prop} {s : Shared} {h₀ : Heap} {L : Addr} {m : Str → Option Value} {news : List (Addr × Obj)} {r : Addr} {b : Int} {t₀ u₀ v₀ : Tok}
theorem list_two {n : Nat} {L} {Q : Value → Shared → Prop} (hh : A.handled = none) (F : Fr h₀ L s.heap m) (N : News h₀ L s.heap news) (hr : IsRange s.heap r 2 b 2 t₀ u₀ v₀) (hb : b = 2 * ((n : Int) + 1)) (hn : n ≤ 6)
    (h : ∀ D vs c h' tk, s.toks ≤ tk → Fr h₀ L h' m → News h₀ L h' ((D, listOf (List.toArray vs) c) :: news) → (∀ p ∈ news, p.1 < D) → IntsAre vs ((List.range n).map fun (j : Nat) => 2 + (j : Int) * 2) → Q (.ref D) { s with heap := h', toks := tk }) :
    wpAny (model prog w) A (call (.type "list") [.ref r]) Q E s := by
  have hc : n = 0 ∨ n = 1 ∨ n = 2 ∨ n = 3 ∨ n = 4 ∨ n = 5 ∨ n = 6 := by omega
  have e1 : Builtin.Range.small 2 b 2 = true := by rcases hc with rfl | rfl | rfl | rfl | rfl | rfl | rfl <;> (subst hb; decide +kernel)
  have e2 : Builtin.Range.rangeSize 2 b 2 = (n : Int) := by rcases hc with rfl | rfl | rfl | rfl | rfl | rfl | rfl <;> (subst hb; decide +kernel)
  refine wpAny_with_toks (n := s.toks) (Nat.le_refl _) ?_
  refine call_list_range hh hr e1 e2 (by omega) fun h' tk acc c hk hD hI hle => ?_
  have hD' : h'.get? s.heap.objs.size = some (listOf (List.toArray acc.toList) c) := by rw [Array.toArray_toList]; exact hD
  refine h _ acc.toList c h' tk hle (F.keeps hk) (news_pushed F N hk hD' rfl) (fun p hp => Heap.lt_size (N p hp).1) ?_
  have := ints_of (fun j => 2 + (j : Int) * 2) acc.toList fun j v hj => hI.2 j v (by rw [← hj, Array.getElem?_toList])
  rwa [Array.length_toList, hI.1] at this
theorem WI.up {lo I n P St S} (W : WI prog w A h₀ L 0 I n P St S) : WI prog w A h₀ L lo I n P St S where
  live := W.live
  keep := W.keep
  item := fun i s Q E hi _ st hQ => W.item i s Q E hi (Nat.zero_le _) st hQ
  done := W.done
/-- a for over range(n), the ledger free -/
theorem forR {R : Result → Shared → Prop} {env : Env} {x : Str} {px : Pos} {body orelse : List Stmt} {lo n : Nat} (hh : A.handled = none) (hh' : A'.handled = none) (hr : IsRange s.heap r 0 b 1 t₀ u₀ v₀) (hb : b = (n : Int)) (hn : n ≤ 64)
    (hlo : lo ≤ s.toks) (F : Fr h₀ env.locals s.heap m) (N : News h₀ env.locals s.heap news) (J : Nat → (Str → Option Value) → List (Addr × Obj) → Prop) (h0 : J 0 m news)
    (step : ∀ i t m₁ news₁ h tk oI I, i < n → J i m₁ news₁ → lo ≤ tk → (∀ p ∈ news₁, p.1 ≠ I) → Fr h₀ env.locals h m₁ → News h₀ env.locals h ((I, oI) :: news₁) →
      wpAny (model prog w) A' (storeName env x (.int (i : Int) t)) (fun _ s₂ => wpAny (model prog w) A' (execs body env) (Turn1 h₀ env.locals I oI (fun _ => True) (J (i + 1)) s (fun v s' => R (.ok (.ret v)) s') fun s' => R (.ok .next) s') (notedBy (model prog w) A' env fun e s' => R (.error e) s') s₂) (notedBy (model prog w) A' env fun e s' => R (.error e) s') { s with heap := h, toks := tk })
    (fin : ∀ h' tk m' news', lo ≤ tk → Fr h₀ env.locals h' m' → News h₀ env.locals h' news' → J n m' news' →
      wpAny (model prog w) A' (execs orelse env) (fun f s₃ => R (.ok f) s₃) (notedBy (model prog w) A' env fun e s' => R (.error e) s') { s with heap := h', toks := tk }) :
    wpAny (model prog w) A (pyIter (.ref r)) (fun it s₂ => codeAny (model prog w) A' (.forLoop (.Name x px) it body orelse env) R s₂) E s := by
  have hsz : Builtin.Range.rangeSize 0 b 1 = (n : Int) := by rw [hb, rangeSize_nat]; omega
  refine wpAny_pyIter_range hr (small_one (by omega) (by omega) (by omega) (by omega)) ?_
  rw [hsz]
  refine loop1 (lo := lo) (S := fun _ => True) (WI.range hh' 0 n).up (Nat.ne_of_lt F.ns.lt) (next_is_new F) (fun p hp => Nat.ne_of_lt (Heap.lt_size (N p hp).1)) trivial hlo ?_ (F.push _) (N.grown fun _ _ e => Heap.get?_push_of_some _ e) J h0 ?_ ?_
  · show IsRangeIter _ _ _ _ _
    simpa using Heap.get?_push_size _ rfl
  · rintro i v m₁ news₁ h tk oI hi ⟨t, rfl⟩ hJ _ htk hoff F1 N1
    rw [Int.zero_add]
    exact step i t m₁ news₁ h tk oI _ hi hJ htk hoff F1 N1
  · intro h' tk m' news' htk F1 N1 _ _ hJ
    exact fin h' tk m' news' htk F1 N1 hJ
end
end
section
local macro_rules | `(tactic| walk_at "none here") => `(tactic| skip)
local macro_rules | `(tactic| walk_at "none here") => `(tactic| skip)
local macro_rules | `(tactic| walk_at "none here") => `(tactic| skip)
theorem rs15 : True := by
  w_top off
  exact trivial
local macro_rules | `(tactic| walk_at "call ref") => `(tactic| (k_here; (with_reducible show wpAny _ _ (call (Value.ref 127) [Value.str _ _, Value.str _ _] _) _ _ _); k_dflt (refine' Con.use2 (c_cost _ _ _ _ _ ?p1 ?p2) ?S ?_; (case S => walk_at "u9"); (case p1 => first | assumption | rfl); (case p2 => first | assumption | rfl); walk_at "i9")))
local macro_rules | `(tactic| walk_at "truthy str") => `(tactic| (k_here; (with_reducible show wpAny _ _ (PySem.truthy (Value.str _ _)) _ _ _); refine SBL.truthy (by omega) ?_))
local macro_rules | `(tactic| walk_at "eval Subscript") => `(tactic| (k_here; (with_reducible show wpAny _ _ (eval (Expr.Subscript (Expr.Name _ _) (Expr.Slice none (some (Expr.BoolOp _ _ _)) none _) _) _) _ _ _); k_dflt (refine' cut_eval ?k1 ?k2 ?k3 ?k4 ?k5 ?k6 ?_; (case k1 => k_asm); (case k2 => k_asm); (case k3 => first | exact rfl | assumption); (case k4 => first | exact rfl | assumption); (case k5 => omega); (case k6 => first | exact lvz (by assumption) | omega); k_whole; intro h9 t9 k9 F9 N9 l9)))
local macro_rules | `(tactic| walk_at "eval Subscript") => `(tactic| (k_here; (with_reducible show wpAny _ _ (eval (Expr.Subscript (Expr.Name _ _) (Expr.Slice (some (Expr.Name _ _)) none none _) _) _) _ _ _); k_dflt (refine' from_eval ?k1 ?k2 ?k3 ?k4 ?k5 ?k6 ?_; (case k1 => k_asm); (case k2 => k_asm); (case k3 => first | exact rfl | assumption); (case k4 => first | exact rfl | assumption); (case k5 => omega); (case k6 => first | exact lvz (by assumption) | omega); k_whole; intro h9 t9 k9 F9 N9 l9)))
noncomputable def Is (a b : Int) : Prop := a = b
noncomputable def Im (p q : Prop) : Prop := p → q
inductive LvP (a b : Str) (ta tb tm : Tok) (news : List (Addr × Obj)) (k : Nat) (m : Str → Option Value) (nw : List (Addr × Obj)) : Prop
  | mk (e : nw = news) (p : Nat) (hk : k = 6 - p) (hp : p < 6) (hj : ∀ j, j < p → a.cps[j]? = b.cps[j]?) (m1 : m (Str.ofString "a") = some (.str a ta)) (m2 : m (Str.ofString "b") = some (.str b tb)) (m3 : m (Str.ofString "max_cost") = some (.int 6 tm)) (m4 : ∃ t : Tok, m (Str.ofString "pre") = some (.int p t))
inductive LvQ (A B : Str) (p : Nat) (tm : Tok) (news : List (Addr × Obj)) (k : Nat) (m : Str → Option Value) (nw : List (Addr × Obj)) : Prop
  | mk (e : nw = news) (q : Nat) (hk : k = 6 - q) (hq : q < 6 - p) (hj : ∀ j, 0 < j → j ≤ q → A.cps[A.cps.size - j]? = B.cps[A.cps.size - j]?) (m1 : ∃ t : Tok, m (Str.ofString "a") = some (.str A t)) (m2 : ∃ t : Tok, m (Str.ofString "b") = some (.str B t)) (m3 : m (Str.ofString "max_cost") = some (.int 6 tm)) (m4 : ∃ t : Tok, m (Str.ofString "post") = some (.int (-(q : Int)) t))
inductive LvR (A B : Str) (tm : Tok) (S : Nat → Nat) (n : Nat) (RW : Addr) (news : List (Addr × Obj)) (i : Nat) (m : Str → Option Value) (nw : List (Addr × Obj)) : Prop
  | mk (vs : List Value) (ns : List Int) (c : Nat) (e : nw = (RW, listOf (List.toArray vs) c) :: news) (hI : IntsAre vs ns) (hl : ns.length = n) (hn : ∀ k, k < n → ns.getD k 0 = lv S i (k + 1)) (tA : Tok) (m1 : m (Str.ofString "a") = some (.str A tA)) (tB : Tok) (m2 : m (Str.ofString "b") = some (.str B tB)) (m3 : m (Str.ofString "max_cost") = some (.int 6 tm)) (m4 : m (Str.ofString "row") = some (.ref RW)) (v : Int) (t : Tok) (m5 : m (Str.ofString "result") = some (.int v t)) (hv : Is v (if i = 0 then 0 else lv S i n))
inductive LvS (A B : Str) (tm : Tok) (S : Nat → Nat) (n : Nat) (RW I : Addr) (oI : Obj) (cb : Nat) (i : Nat) (news : List (Addr × Obj)) (j : Nat) (m : Str → Option Value) (nw : List (Addr × Obj)) : Prop
  | mk (vs : List Value) (ns : List Int) (c : Nat) (e : nw = (I, oI) :: (RW, listOf (List.toArray vs) c) :: news) (hI : IntsAre vs ns) (hl : ns.length = n) (hn : ∀ k, k < n → ns.getD k 0 = if k < j then lv S (i + 1) (k + 1) else lv S i (k + 1)) (tA : Tok) (m1 : m (Str.ofString "a") = some (.str A tA)) (tB : Tok) (m2 : m (Str.ofString "b") = some (.str B tB)) (m3 : m (Str.ofString "max_cost") = some (.int 6 tm)) (m4 : m (Str.ofString "row") = some (.ref RW)) (tc : Tok) (m5 : m (Str.ofString "bchar") = some (.str ⟨#[cb]⟩ tc)) (vd : Int) (td : Tok) (m6 : m (Str.ofString "distance") = some (.int vd td)) (hd : vd = lv S i j) (vr : Int) (tr : Tok) (m7 : m (Str.ofString "result") = some (.int vr tr)) (hr : Is vr (if j = 0 then 2 * (i : Int) else lv S (i + 1) j)) (mn : Int) (tn : Tok) (m8 : m (Str.ofString "minimum") = some (.int mn tn)) (hm : Im (i < j) (mn ≤ S (i + 1)))
local macro_rules | `(tactic| walk_at "lv_cl") => `(tactic| repeat (first | ((with_reducible rename Str.length (cutS _ _) = _ => z9); clear z9) | ((with_reducible rename (Str.length (cutS _ _) : Int) ≠ 0 => z9); clear z9) | ((with_reducible rename Str.length (fromS _ _) = _ => z9); clear z9) | ((with_reducible rename (Str.length (fromS _ _) : Int) ≠ 0 => z9); clear z9)))
theorem lva {p q n i : Nat} (hn : n = 6 - p - q) (hi : i < n) : p + i < 6 := by omega
theorem lvb {p q n : Nat} (hn : n = 6 - p - q) (hq : q < 6 - p) : p + n ≤ 6 := by omega
theorem lvc {p q n j : Nat} (hn : n = 6 - p - q) (hq : q < 6 - p) (h1 : p + n ≤ j) (h2 : j < 6) : 6 - j ≤ q := by omega
theorem lvd {p n j : Nat} (h1 : p + n ≤ j) (h2 : j < 6) : 6 - p - (6 - j) = j - p := by omega
theorem lve {p n j : Nat} (h1 : p + n ≤ j) : p + (j - p) = j := by omega
theorem lv_key {v c x y : Int} : (if v + c < (if x < y then x else y) + 2 then v + c else (if x < y then x else y) + 2) = min (min y x + 2) (v + c) := by split <;> split <;> omega
theorem lvg {mn : Int} {s i n : Nat} (h1 : mn ≤ s) (h2 : s ≤ i + 1) (h3 : i < n) (h4 : n ≤ 6) : mn ≤ 6 := by omega
theorem lvh {i n : Nat} (h : i < n) : ¬ n = 0 := by omega
theorem lvz {x p : Nat} (h : x = 6 - p) : x ≤ 1000 := by omega
theorem lvy {p q : Nat} (h : p < 6) (hq : ¬ q < 6 - p) (h6 : q ≤ 6 - p) : q = 6 - p := by omega
theorem c_lev {w mean mg mb} (news : List (Addr × Obj)) (a b : Str) (ta tb tm : Tok) (ha : Wd a) (hb : Wd b) :
    Con w mean mg mb 134 4 60 0 news [.str a ta, .str b tb, .int 6 tm] (fun r own => own = [] ∧ ∃ t, r = .int (dif a b) t) := by
  have eNeg : ∀ q : Nat, (-((q + 1 : Nat) : Int)) = -(q : Int) - 1 := fun q => by omega
  have hla : a.length = 6 := ha.1
  have hlb : b.length = 6 := hb.1
  have sla : a.cps.size = 6 := ha.1
  have slb : b.cps.size = 6 := hb.1
  walk_at "m_con"; rename_i hlo hret
  w_strict (
  walk_at "m_enter"
  (repeat ((fail_if_success (with_reducible show wpAny _ _ (exec (Stmt.While _ _ _ _) _) _ _ _)); walk1))
  · have e9 : (dif a b : Int) = 0 := by rw [show a = b by simpa using ‹(a == b) = true›, dif_self]; rfl
    refine hret _ [] _ _ ⟨rfl, ?_⟩ (by k_asm) (by k_asm) (fun _ h => nomatch h)
    rw [e9]; exact ⟨_, rfl⟩
  have hne0 : a ≠ b := by simpa using ‹(a == b) = false›
  (repeat ((fail_if_success (with_reducible show wpAny _ _ (exec (Stmt.While _ _ _ _) _) _ _ _)); walk1))
  refine wpAny_While ?_
  (with_reducible rename Fr _ _ _ _ => kF)
  (with_reducible rename News _ _ _ _ => kN)
  refine whileR (lo := 0) (Nat.zero_le _) kF kN (LvP a b ta tb tm news) 6 ?_ ?_
  · exact ⟨rfl, 0, rfl, by decide, fun j h => absurd h (Nat.not_lt_zero _), rfl, rfl, rfl, _, rfl⟩
  · clear kF kN
    rintro n m₁ nw h tk ⟨rfl, p, hk, hp, hpj, ma, mb', mm, t, mp⟩ _ kF1 kN1
    (repeat ((fail_if_success (with_reducible show wpAny _ _ (execs _ _) _ _ _)); walk1))
    · have heq := (eq_item (p := p) (by rw [ha.1]; exact hp) (by rw [hb.1]; exact hp)).mp ‹_›
      have hp5 : p + 1 < 6 := by
        refine Nat.lt_of_le_of_ne hp fun e => hne0 (str_ext (ha.1.trans hb.1.symm) fun j hj => ?_)
        rw [ha.1] at hj
        by_cases hjp : j = p
        · subst hjp; exact heq
        · exact hpj j (by omega)
      walk_at "lv_cl"
      walk_at "m_steps"
      dsimp only [TurnW]
      refine ⟨_, _, _, _, n - 1, by omega, rfl, by k_asm, by k_asm, rfl, p + 1, by omega, hp5, ?_, ?_, ?_, ?_, ?_⟩
      · intro j hj
        by_cases hjp : j = p
        · subst hjp; exact heq
        · exact hpj j (by omega)
      · exact ma
      · exact mb'
      · exact mm
      · exact ⟨_, rfl⟩
    · simp only [Bool.false_eq_true, if_false]
      have hne1 : a.cps[p]? ≠ b.cps[p]? := fun e => by
        have h1 := (eq_item (p := p) (by rw [ha.1]; exact hp) (by rw [hb.1]; exact hp)).mpr e
        have h2 : (Txt.item a (p : Int) == Txt.item b (p : Int)) = false := by assumption
        rw [h1] at h2
        cases h2
      (repeat ((fail_if_success (with_reducible show wpAny _ _ (exec (Stmt.While _ _ _ _) _) _ _ _)); walk1))
      obtain ⟨A, hA⟩ : ∃ A, A = fromS a p := ⟨_, rfl⟩
      obtain ⟨B, hB⟩ : ∃ B, B = fromS b p := ⟨_, rfl⟩
      have nA : A.cps.size = 6 - p := by rw [hA, fromS_size, ha.1]
      have nB : B.cps.size = 6 - p := by rw [hB, fromS_size, hb.1]
      have lA : A.length = 6 - p := nA
      have lB : B.length = 6 - p := nB
      have gA : ∀ j, A.cps[j]? = a.cps[p + j]? := fun j => by rw [hA, fromS_get]
      have gB : ∀ j, B.cps[j]? = b.cps[p + j]? := fun j => by rw [hB, fromS_get]
      walk_at "lv_cl"
      clear hla hlb sla slb
      refine wpAny_While ?_
      (with_reducible rename Fr _ _ _ _ => kF)
      (with_reducible rename News _ _ _ _ => kN)
      rw [← hA, ← hB] at kF
      refine whileR (lo := 0) (Nat.zero_le _) kF kN (LvQ A B p tm nw) 6 ?_ ?_
      · exact ⟨rfl, 0, rfl, by omega, fun j h1 h2 => absurd (Nat.lt_of_lt_of_le h1 h2) (Nat.lt_irrefl _), ⟨_, rfl⟩, ⟨_, rfl⟩, mm, _, rfl⟩
      · clear kF kN
        rintro n2 m2 nw2 h2 tk2 ⟨rfl, q, hk2, hq, hqj, ⟨tA, mA⟩, ⟨tB, mB⟩, mm2, tq, mq⟩ _ kF1 kN1
        (repeat ((fail_if_success (with_reducible show wpAny _ _ (execs _ _) _ _ _)); walk1))
        · have hX := (eq_item_neg (k := q + 1) (a := A) (b := B) (by omega) (by omega) (nA.trans nB.symm)).mp (by rw [eNeg]; assumption)
          have hq1 : q + 1 < 6 - p := by
            refine Nat.lt_of_le_of_ne hq fun e => hne1 ?_
            rw [nA, show 6 - p - (q + 1) = 0 from by rw [e, Nat.sub_self]] at hX
            have h1 := gA 0
            have h2 := gB 0
            rw [hX] at h1
            rw [Nat.add_zero] at h1 h2
            exact h1.symm.trans h2
          walk_at "lv_cl"
          clear nA nB lA lB
          walk_at "m_steps"
          dsimp only [TurnW]
          refine ⟨_, _, _, _, n2 - 1, by omega, rfl, by k_asm, by k_asm, rfl, q + 1, by omega, hq1, ?_, ?_, ?_, ?_, ?_⟩
          · intro j h1 h2
            by_cases hjq : j = q + 1
            · subst hjq; exact hX
            · exact hqj j h1 (by omega)
          · exact ⟨_, mA⟩
          · exact ⟨_, mB⟩
          · exact mm2
          · exact ⟨_, congrArg (fun z => some (Value.int z _)) (eNeg q).symm⟩
        · simp only [Bool.false_eq_true, if_false]
          have hne2 : A.cps[A.cps.size - (q + 1)]? ≠ B.cps[A.cps.size - (q + 1)]? := fun e => by
            have h1 := (eq_item_neg (k := q + 1) (a := A) (b := B) (by omega) (by omega) (nA.trans nB.symm)).mpr e
            rw [eNeg] at h1
            have h2 : (Txt.item A (-(q : Int) - 1) == Txt.item B (-(q : Int) - 1)) = false := by assumption
            rw [h1] at h2
            cases h2
          (repeat ((fail_if_success (with_reducible show wpAny _ _ (exec (Stmt.If _ _ _ _) _) _ _ _)); walk1))
          obtain ⟨A', hA'⟩ : ∃ A', A' = cutS A q := ⟨_, rfl⟩
          obtain ⟨B', hB'⟩ : ∃ B', B' = cutS B q := ⟨_, rfl⟩
          (with_reducible rename Fr _ _ _ _ => kF9)
          (with_reducible rename News _ _ _ _ => kN9)
          rw [← hA', ← hB'] at kF9
          have sA' : A'.length = 6 - p - q := by rw [hA', ‹Str.length (cutS A q) = _›, lA]
          have sB' : B'.length = 6 - p - q := by rw [hB', ‹Str.length (cutS B q) = _›, lB]
          obtain ⟨n, hn⟩ : ∃ n, n = 6 - p - q := ⟨_, rfl⟩
          rw [← hn] at sA' sB'
          have qA : A.cps.size - q = n := by rw [nA, hn]
          have qB : B.cps.size - q = n := by rw [nB, hn]
          have nA6 : A.cps.size = 6 - p ∧ True := ⟨nA, trivial⟩
          have n6 : n ≤ 6 := by rw [hn]; exact Nat.le_trans (Nat.sub_le _ _) (Nat.sub_le _ _)
          walk_at "lv_cl"
          clear nB lA lB
          (repeat ((fail_if_success (with_reducible show wpAny _ _ (exec (Stmt.For _ _ _ _ _) _) _ _ _)); walk1))
          · rename IsRange _ _ _ _ _ _ _ _ => rgX
            (with_reducible rename Fr _ _ _ _ => kF7)
            (with_reducible rename News _ _ _ _ => kN7)
            refine list_two (n := n) rfl kF7 kN7 rgX (by first | rw [sA'] | rw [sB'] | omega) (by first | exact Nat.le_trans n6 (by decide) | omega) ?_
            clear kF7 kN7
            intro RW its0 cap0 h7 tk7 htk7 F7 N7 lt7 hI0
            (repeat ((fail_if_success (with_reducible show wpAny _ _ (exec (Stmt.For _ _ _ _ _) _) _ _ _)); walk1))
            refine wpAny_For ?_ (by intro _; rfl)
            (repeat ((fail_if_success (with_reducible show wpAny _ _ (pyIter _) _ _ _)); walk1))
            (with_reducible rename Fr _ _ _ _ => kF)
            (with_reducible rename News _ _ _ _ => kN)
            (with_reducible rename IsRange _ _ _ _ _ _ _ _ => rgY)
            obtain ⟨S, hS⟩ : ∃ S, S = dS (dAt a b) p := ⟨_, rfl⟩
            have S0 : S 0 = 0 := by rw [hS]; rfl
            have SS : ∀ k, S (k + 1) = S k + dAt a b (p + k) := fun k => by rw [hS]; rfl
            have S1 : ∀ k, S k ≤ S (k + 1) ∧ S (k + 1) ≤ S k + 1 := fun k => by have := SS k; have := dAt_le a b (p + k); omega
            have Sk : ∀ k, S k ≤ k := fun k => by rw [hS]; exact dS_le _ (dAt_le a b) p k
            refine forR (n := n) (lo := 0) rfl rfl rgY (by first | rw [sA'] | rw [sB'] | omega) (Nat.le_trans n6 (by decide)) (Nat.zero_le _) kF kN
              (LvR A' B' tm S n RW nw2) ?_ ?_ ?_
            · refine ⟨its0, _, cap0, rfl, hI0, by simp, ?_, _, rfl, _, rfl, mm2, rfl, _, _, rfl, rfl⟩
              intro k hk
              rw [getD_map_range _ hk]
              unfold lv
              simp only [Nat.zero_le, if_true, S0]
              omega
            · clear kF kN rgX rgY
              rintro i ti m3 nw3 h3 tk3 oI I hi ⟨vs, ns, c, rfl, hI, hnl, hns, tA', mA', tB', mB', mm3, mrow, vr, tr, mres, hvr⟩ htk3 hoff kF3 kN3
              have gA' : ∀ j, j < n → A'.cps[j]? = a.cps[p + j]? := fun j hj => by rw [hA', cutS_get _ _ _ (by rw [qA]; exact hj), gA]
              have gB' : ∀ j, j < n → B'.cps[j]? = b.cps[p + j]? := fun j hj => by rw [hB', cutS_get _ _ _ (by rw [qB]; exact hj), gB]
              obtain ⟨cb, hcb⟩ := get_some (a := B') (p := i) (by show i < B'.length; rw [sB']; exact hi)
              have iB : Txt.item B' (i : Int) = ⟨#[cb]⟩ := item_nat hcb
              (repeat ((fail_if_success (with_reducible show wpAny _ _ (exec (Stmt.For _ _ _ _ _) _) _ _ _)); walk1))
              refine wpAny_For ?_ (by intro _; rfl)
              (repeat ((fail_if_success (with_reducible show wpAny _ _ (pyIter _) _ _ _)); walk1))
              (with_reducible rename Fr _ _ _ _ => kF)
              (with_reducible rename News _ _ _ _ => kN)
              (with_reducible rename IsRange _ _ _ _ _ _ _ _ => rgY)
              rw [iB] at kF
              refine forR (n := n) (lo := 0) rfl rfl rgY (by first | rw [sA'] | rw [sB'] | omega) (Nat.le_trans n6 (by decide)) (Nat.zero_le _) kF kN
                (LvS A' B' tm S n RW I oI cb i nw2) ?_ ?_ ?_
              · refine ⟨vs, ns, c, rfl, hI, hnl, ?_, _, mA', _, mB', mm3, mrow, _, rfl, _, _, rfl, ?_, _, _, rfl, ?_, _, _, rfl, fun h => absurd h (Nat.not_lt_zero _)⟩
                · intro k hk; rw [if_neg (Nat.not_lt_zero _)]; exact hns k hk
                · exact (Int.mul_comm _ _).trans (lv_zero S S0 i).symm
                · exact ((Int.mul_comm _ _).trans (if_pos rfl).symm : _ = _)
              · clear kF kN rgY
                rintro j tj m4 nw4 h4 tk4 oI4 I4 hj ⟨vs4, ns4, c4, rfl, hI4, hnl4, hns4, tA4, mA4, tB4, mB4, mm4, mrow4, tch, mch, vds, tds, mds, hds, vrs, trs, mrs, hrs, mn, tmn, mmn, hmn⟩ htk4 hoff4 kF4 kN4
                obtain ⟨ca, hca⟩ := get_some (a := A') (p := j) (by show j < A'.length; rw [sA']; exact hj)
                have iA : Txt.item A' (j : Int) = ⟨#[ca]⟩ := item_nat hca
                have lA1 : (Txt.item A' (j : Int)).length = 1 := by rw [iA]; rfl
                (repeat ((fail_if_success (with_reducible show wpAny _ _ (setItem _ _ _) _ _ _)); walk1))
                (with_reducible rename Fr _ _ _ _ => kF5)
                (with_reducible rename News _ _ _ _ => kN5)
                refine ksa_set kF5 kN5 (Upd.tail (hoff4 _ (.tail _ (.head _))).symm (Upd.tail (hoff _ (.head _)).symm (Upd.head fun p hp => Nat.ne_of_lt (lt7 p hp)))) hI4 (Int.natCast_nonneg _) (by rw [hnl4]; exact Int.ofNat_lt.mpr hj) (Int.lt_trans (Int.ofNat_lt.mpr (Nat.lt_of_lt_of_le hj n6)) (by decide)) ?_
                clear kF5 kN5 kF4 kN4
                intro h6 F6 N6 hi6 hl6 hs6
                clear hs6
                have hgj : ns4.getD j 0 = lv S i (j + 1) := by rw [hns4 j hj, if_neg (Nat.lt_irrefl _)]
                have hc : lcst ⟨#[cb]⟩ ⟨#[ca]⟩ = if i = j then (S (i + 1) : Int) - S i else 2 := by
                  rw [cst_wd ha hb (i := p + i) (j := p + j) (lva hn hi) (lva hn hj) ((gB' i hi).symm.trans hcb) ((gA' j hj).symm.trans hca)]
                  by_cases e : i = j
                  · rw [if_pos e, if_pos (by rw [e]), SS]; omega
                  · rw [if_neg e, if_neg (fun h => e (Nat.add_left_cancel h))]
                have key : (if vds + lcst ⟨#[cb]⟩ ⟨#[ca]⟩ < (if ns4.getD j 0 < vrs then ns4.getD j 0 else vrs) + 2 then vds + lcst ⟨#[cb]⟩ ⟨#[ca]⟩ else (if ns4.getD j 0 < vrs then ns4.getD j 0 else vrs) + 2) = lv S (i + 1) (j + 1) := by
                  rw [← lv_step S S0 S1 i j vrs _ hrs hc, ← hds, hgj]
                  exact lv_key
                rw [← iA] at key
                have hset : ∀ x : Int, x = lv S (i + 1) (j + 1) → ∀ k, k < n → (ns4.set j x).getD k 0 = if k < j + 1 then lv S (i + 1) (k + 1) else lv S i (k + 1) := by
                  intro x hx k hk
                  rw [getD_set _ _ _ _ (Nat.lt_of_lt_of_eq hj hnl4.symm)]
                  by_cases e : k = j
                  · subst e; rw [if_pos rfl, if_pos (Nat.lt_succ_self _), hx]
                  · rw [if_neg e, hns4 k hk]
                    by_cases e2 : k < j
                    · rw [if_pos e2, if_pos (Nat.lt_succ_of_lt e2)]
                    · rw [if_neg e2, if_neg (fun h => (Nat.lt_or_eq_of_le (Nat.le_of_lt_succ h)).elim e2 e)]
                walk_at "m_steps"
                · dsimp only [Turn1]
                  (with_reducible rename Fr _ _ _ _ => kF7)
                  (with_reducible rename News _ _ _ _ => kN7)
                  refine ⟨_, _, _, _, rfl, kF7, kN7, ?_, trivial, _, _, c4, rfl, hi6, hl6.trans hnl4, hset _ key, _, mA4, _, mB4, mm4, mrow4, _, mch, _, _, rfl, hgj, _, _, rfl, key, _, _, rfl, ?_⟩
                  · intro p9 hp9
                    rcases List.mem_cons.mp hp9 with h | h
                    · rw [h]; exact hoff4 _ (.head _)
                    · rcases List.mem_cons.mp h with h | h
                      · rw [h]; exact (hoff4 (RW, listOf (List.toArray vs4) c4) (.tail _ (.head _)) : RW ≠ I4)
                      · exact hoff4 _ (.tail _ (.tail _ h))
                  · intro (hij : i < j + 1)
                    have hlt : lv S (i + 1) (j + 1) < mn := Int.lt_of_le_of_lt (Int.le_of_eq key.symm) ‹_ < mn›
                    refine Int.le_trans (Int.le_of_eq key) ?_
                    by_cases e : i = j
                    · rw [e, lv_diag]; exact Int.le_refl _
                    · have := hmn (Nat.lt_of_le_of_ne (Nat.le_of_lt_succ hij) e); first | exact Int.le_trans (Int.le_of_lt hlt) this | omega
                · refine wpAny_execs_nil ?_
                  walk_at "m_steps"
                  dsimp only [Turn1]
                  refine ⟨_, _, _, _, rfl, F6, N6, ?_, trivial, _, _, c4, rfl, hi6, hl6.trans hnl4, hset _ key, _, mA4, _, mB4, mm4, mrow4, _, mch, _, _, rfl, hgj, _, _, rfl, key, _, _, mmn, ?_⟩
                  · intro p9 hp9
                    rcases List.mem_cons.mp hp9 with h | h
                    · rw [h]; exact hoff4 _ (.head _)
                    · rcases List.mem_cons.mp h with h | h
                      · rw [h]; exact (hoff4 (RW, listOf (List.toArray vs4) c4) (.tail _ (.head _)) : RW ≠ I4)
                      · exact hoff4 _ (.tail _ (.tail _ h))
                  · intro (hij : i < j + 1)
                    have hlt : ¬ (lv S (i + 1) (j + 1) < mn) := fun h => ‹¬ (_ < mn)› (Int.lt_of_le_of_lt (Int.le_of_eq key) h)
                    by_cases e : i = j
                    · rw [e, lv_diag] at hlt; rw [e]; omega
                    · have := hmn (Nat.lt_of_le_of_ne (Nat.le_of_lt_succ hij) e); first | exact this | omega
              · clear kF kN rgY
                rintro h5 tk5 m5 nw5 htk5 kF5 kN5 ⟨vs5, ns5, c5, rfl, hI5, hnl5, hns5, tA5, mA5, tB5, mB5, mm5, mrow5, _, _, _, _, _, _, vrs, trs, mrs, hrs, mn, tmn, mmn, hmn⟩
                have hmn6 : mn ≤ 6 := by first | exact lvg (hmn hi) (Sk (i + 1)) hi n6 | (have := hmn hi; have := Sk (i + 1); omega)
                walk_at "m_steps"
                · (try (refine wpAny_execs_nil ?_; walk_at "m_steps"))
                  (with_reducible rename Fr _ _ _ _ => kF7)
                  (with_reducible rename News _ _ _ _ => kN7)
                  dsimp only [Turn1]
                  refine ⟨_, _, _, _, rfl, kF7, kN7, ?_, trivial, _, _, c5, rfl, hI5, hnl5, ?_, _, mA5, _, mB5, mm5, mrow5, _, _, mrs, ?_⟩
                  · intro p9 hp9
                    rcases List.mem_cons.mp hp9 with h | h
                    · rw [h]; exact (hoff (RW, listOf (List.toArray vs) c) (.head _) : RW ≠ I)
                    · exact hoff _ (.tail _ h)
                  · intro k hk; rw [hns5 k hk, if_pos hk]
                  · refine (show vrs = _ from hrs).trans ?_; rw [if_neg (by first | exact lvh hi | exact Nat.succ_ne_zero _ | omega), if_neg (by first | exact lvh hi | exact Nat.succ_ne_zero _ | omega)]
            · clear kF kN rgY
              rintro h5 tk5 m5 nw5 htk5 kF5 kN5 ⟨vs5, ns5, c5, rfl, hI5, hnl5, hns5, tA5, mA5, tB5, mB5, mm5, mrow5, vrs, trs, mrs, hrs⟩
              walk_at "m_steps"
              (with_reducible rename News _ _ _ _ => kN9)
              refine hret _ [] _ _ ⟨rfl, trs, ?_⟩ (by k_asm) (cb_drop kN9 (by walk_at "m_sub")) (fun _ h => nomatch h)
              refine congrArg (fun z => Value.int z trs) ?_
              rw [show vrs = _ from hrs, if_neg (by omega), lv_diag, hS, dif, ← dS_mid (dAt a b) p n (lvb hn hq) ?_ ?_]
              · intro j hj
                unfold dAt; rw [if_pos (hpj j hj)]
              · intro j h1 h2
                unfold dAt
                have e := hqj (6 - j) (Nat.sub_pos_of_lt h2) (lvc hn hq h1 h2)
                rw [nA, show 6 - p - (6 - j) = j - p from lvd h1 h2] at e
                rw [if_pos]
                have e1 := gA (j - p)
                have e2 := gB (j - p)
                rw [show p + (j - p) = j from lve h1] at e1 e2
                exact e1.symm.trans (e.trans e2)
          · exfalso; omega
          · exfalso; omega
        · exfalso; omega
        · exfalso; omega
    · exfalso; omega
    · exfalso; omega)
end
section
theorem rs16 : True := by
  w_top off
  exact trivial
section
open PySem.Spec
variable {M : Model} {A : Around} {R : GenEnd} {Y : Protocol} {n : Nat} {s₀ : Shared} {c : Code} {fs : List Frame} {s : Shared} {env : Env}
  {K : Flow → Sem Fin} {H : Value → Sem Fin} {gd : Bool → Bool} {lv : List Value → List Value}
theorem seg_If {test : Expr} {body orelse : List Stmt} {pos : Pos}
    (h : wpAny M (A.over c fs) (isTrue test env (eval test env)) (fun b s' => Seg M A R Y n s₀ c ((if b = true then execs body env else execs orelse env).wrap K H gd lv) fs s') (fun x s' => Seg M A R Y n s₀ c (H x) fs s') s) :
    Seg M A R Y n s₀ c ((exec (.If test body orelse pos) env).wrap K H gd lv) fs s := by
  rw [exec_If]
  refine seg_bind_wrap (wpAny_standAt ?_)
  exact seg_bind_wrap h
theorem seg_plain {st : Stmt} (h : wpAny M (A.over c fs) (exec st env) (fun f s' => Seg M A R Y n s₀ c (K f) fs s') (fun x s' => Seg M A R Y n s₀ c (H x) fs s') s) :
    Seg M A R Y n s₀ c ((exec st env).wrap K H gd lv) fs s := seg_wrap h
theorem seg_For {target iter : Expr} {body orelse : List Stmt} {pos : Pos}
    (h : wpAny M (A.over c fs) (eval iter env) (fun x s₁ => wpAny M (A.over c fs) (pyIter x) (fun it s₂ => ∀ p, Seg M A R Y n s₀ (.forLoop target it body orelse env) (M.den (.forLoop target it body orelse env))
      (.ret (fun r => ((match r with | .ok f => (.pure f : Sem Flow) | .error e => .raise e).onRaise fun (x : Value) => do
        if (← field x 1) == Value.none then unsupported "frame.own-activation:exception-without-traceback"
        setFlight x env.frame).wrap K H gd lv) none (gd false) (lv []) c p [] :: fs) s₂) (fun x s' => Seg M A R Y n s₀ c (H x) fs s') s₁) (fun x s' => Seg M A R Y n s₀ c (H x) fs s') s)
    (hs : ∀ x, foldedSetIterable iter env x = pure x := by intro _; rfl) :
    Seg M A R Y n s₀ c ((exec (.For target iter body orelse pos) env).wrap K H gd lv) fs s := by
  rw [exec_For]
  refine seg_bind_wrap (wpAny_standAt ?_)
  refine seg_bind_wrap (wpAny_mono h (fun x s₁ h₁ => ?_) fun _ _ e => e)
  refine seg_bind_wrap (wpAny_of_eq (hs x) ?_)
  refine seg_bind_wrap (wpAny_standAt ?_)
  refine seg_bind_wrap (wpAny_holding (wpAny_mono h₁ (fun it s₂ h₂ => ?_) fun _ _ e => e))
  exact seg_call h₂
end
section
open PySem.Spec
variable {prog : Program} {w : World} {A : Around} {R : GenEnd} {Y : Protocol} {n : Nat} {s₀ : Shared} {fs : List Frame} {s : Shared} {env : Env}
theorem seg_forLoop {target : Expr} {it : Value} {body orelse : List Stmt}
    (h : ∀ H : Value → Sem Fin, wpAny (model prog w) (A.over (.forLoop target it body orelse env) fs) (pyNext it) (fun r s₁ => match r with
      | none => Seg (model prog w) A R Y n s₀ (.block orelse env) ((model prog w).den (.block orelse env)) fs s₁
      | some v => wpAny (model prog w) (A.over (.forLoop target it body orelse env) fs) (letOwnedTupleGo target it v) (fun _ s₂ => wpAny (model prog w) (A.over (.forLoop target it body orelse env) fs) (assign target env v) (fun _ s₃ =>
          Seg (model prog w) A R Y n s₀ (.forLoop target it body orelse env) ((execs body env).wrap (fun f => match f with
            | .next | .cont => .pure (.again (.forLoop target it body orelse env))
            | .brk => .pure (.done .next)
            | .ret v => .pure (.done (.ret v))) H id id) fs s₃) (fun x s' => Seg (model prog w) A R Y n s₀ (.forLoop target it body orelse env) (H x) fs s') s₂) (fun x s' => Seg (model prog w) A R Y n s₀ (.forLoop target it body orelse env) (H x) fs s') s₁)
      (fun x s' => Seg (model prog w) A R Y n s₀ (.forLoop target it body orelse env) (H x) fs s') s) :
    Seg (model prog w) A R Y n s₀ (.forLoop target it body orelse env) ((model prog w).den (.forLoop target it body orelse env)) fs s := by
  show Seg _ A R Y n s₀ _ ((forTurn target it body orelse env).onRaise (fun x => do noteFrame x env; theTreesLotGoes x)) fs s
  rw [Sem.onRaise_eq_wrap]
  simp only [forTurn]
  refine seg_bind_wrap (wpAny_standAt ?_)
  refine seg_bind_wrap (wpAny_onRaise (wpAny_mono (h _) (fun r s₁ h₁ => ?_) fun _ _ h' => wpAny_standAt h'))
  cases r with
  | none => exact seg_again rfl h₁
  | some v =>
    refine seg_bind_wrap (wpAny_mono h₁ (fun _ s₂ h₂ => ?_) fun _ _ e => e)
    refine seg_bind_wrap (wpAny_mono h₂ (fun _ s₃ h₃ => ?_) fun _ _ e => e)
    rw [Sem.bind_eq_wrap', Sem.wrap_wrap]
    rw [Sem.wrap_congr (execs body env) _ _ (K' := fun f => match f with
            | .next | .cont => .pure (.again (.forLoop target it body orelse env))
            | .brk => .pure (.done .next)
            | .ret v => .pure (.done (.ret v))) (H' := fun e => _) (fun f => by cases f <;> rfl) (fun e => rfl)]
    exact h₃
end
end
section
local macro_rules | `(tactic| walk_at "none here") => `(tactic| skip)
theorem rs17 : True := by
  w_top off
  exact trivial
noncomputable def gProto (C : Addr) (fp : List Addr) (x : Str) : Protocol := fun m s₀ v s kap =>
  (∃ (T : Addr) (t u : Tok) (cc : Nat), v = .ref T ∧ s.heap.get? T = some { cls := .type "tuple", data := .seq #[.int ((x.cps.size - 1 - m : Nat) : Int) t, .str ⟨#[cc]⟩ u] } ∧ x.cps[x.cps.size - 1 - m]? = some cc ∧ s₀.heap.get? T = none ∧ T ∉ C :: fp) ∧
    GenSince C fp s₀ s ∧ (∀ b ∈ C :: fp, ∃ o, s.heap.get? b = some o) ∧ ∀ s'' : Shared, (∀ b ∈ C :: fp, ∀ o, s.heap.get? b = some o → s''.heap.get? b = some o) → kap (.send .none) s''
noncomputable def gEnd (C : Addr) (fp : List Addr) : GenEnd := fun n s₀ r s₁ => r = .ok (.ret .none) ∧ (n = 0 ∧ GenSince C fp s₀ s₁)
section
open PySem.Spec
variable {prog : Program} {w : World} {A : Around} {n : Nat} {s : Shared} {env : Env} {x : Str} {e it : Addr} {fs : List Frame}
theorem seg_turn {c : Code} {KK : Flow → Sem Fin} {HH : Value → Sem Fin} {gd : Bool → Bool} {lv : List Value → List Value} {m : Str → Option Value} {xe xi xc : Str} {i : Nat} {t u : Tok} {cc : Nat} {s₀ : Shared} {B1 B2 : List Stmt} {p1 p2 p3 p4 p5 p6 p7 p8 p9 p10 p11 : Pos} {k1 k2 : Nat}
    (hfs : splitAtGen fs = none) (hgd : gd false = false) (hfg : fs.any Frame.guarded = false)
    (hk : env.scope.kind = .function) (hke : env.kindOf xe = some .local) (hki : env.kindOf xi = some .local) (hkc : env.kindOf xc = some .local)
    (hde : (xe == ("__debug__" : Str)) = false) (hdi : (xi == ("__debug__" : Str)) = false) (hdc : (xc == ("__debug__" : Str)) = false) (hco : env.scope.isCoroutine = false) (hint : interactive env = false)
    (hn : s.heap.Ns env.locals m) (he : m xe = some (.bool false)) (hi : m xi = some (.int (i : Nat) t)) (hc : m xc = some (.str ⟨#[cc]⟩ u)) (hcc : cc ≠ 92) (hx : x.cps[i]? = some cc) (hN : i + n + 1 = x.cps.size)
    (hsince : GenSince env.locals [e, it] s₀ s) (hal : ∀ b ∈ env.locals :: [e, it], ∃ o, s.heap.get? b = some o)
    (next : ∀ s'' : Shared, s''.heap.Ns env.locals m → (∀ b ∈ [e, it], ∀ o, s.heap.get? b = some o → s''.heap.get? b = some o) → Seg (model prog w) A (gEnd env.locals [e, it]) (gProto env.locals [e, it] x) n s'' c (KK .next) fs s'') :
    Seg (model prog w) A (gEnd env.locals [e, it]) (gProto env.locals [e, it] x) (n + 1) s₀ c
      ((execs [.If (.Name xe p1) B1 [.If (.Compare (.Name xc p2) [.Eq] [.Constant (.str "\\") k1 p3] p4) B2 [.Expr (.Yield (some (.Tuple [.Name xi p5, .Name xc p6] k2 p7)) p8) p9] p10] p11] env).wrap KK HH gd lv) fs s := by
  refine seg_execs_cons (seg_If ?_)
  refine wpAny_isTrue_value (wpAny_Name (wpAny_loadName_local hk hke hn he ?_) hde)
  refine wpAny_truthy_bool ?_
  rw [if_neg Bool.false_ne_true]
  refine seg_execs_cons (seg_If ?_)
  refine wpAny_isTrue_Compare1 (wpAny_Name (wpAny_loadName_local hk hkc hn hc ?_) hdc)
  refine wpAny_Constant_str ?_
  refine PyProof.Rows.eq_str ?_
  refine wpAny_truthy_bool ?_
  have hne : ((⟨#[cc]⟩ : Str) == "\\") = false := by
    rw [beq_eq_false_iff_ne]
    intro e
    have : (⟨#[cc]⟩ : Str).cps = ("\\" : Str).cps := by rw [e]
    have h2 : (#[cc] : Array Nat) = #[92] := this
    exact hcc (by simpa using h2)
  rw [hne, if_neg Bool.false_ne_true]
  refine seg_execs_cons (seg_Expr_Yield hfs hgd hfg ?_ hco hint)
  refine wpAny_Tuple ?_
  refine wpAny_items_cons ?_
  refine wpAny_Name (wpAny_loadName_local hk hki hn hi ?_) hdi
  refine wpAny_items_cons ?_
  refine wpAny_Name (wpAny_loadName_local hk hkc hn hc ?_) hdc
  refine wpAny_items_nil ?_
  refine ⟨Nat.le_of_ble_eq_true rfl, fun kap hkap => ?_⟩
  have hi' : x.cps.size - 1 - n = i := by omega
  have up : ∀ b o, s.heap.get? b = some o → (s.heap.push { cls := .type "tuple", data := .seq #[Value.int (i : Nat) t, Value.str ⟨#[cc]⟩ u] }).get? b = some o := fun b o q => Heap.get?_push_of_some _ q
  have hoff : s.heap.objs.size ∉ env.locals :: [e, it] := fun hm => by
    obtain ⟨o, ho⟩ := hal _ hm
    exact absurd (Heap.lt_size ho) (Nat.lt_irrefl _)
  have hfresh : s₀.heap.get? s.heap.objs.size = none := by
    cases q : s₀.heap.get? s.heap.objs.size with
    | none => rfl
    | some o =>
      obtain ⟨h', tk, rfl, hk'⟩ := hsince
      exact absurd (Heap.lt_size (hk' _ o (fun h => hoff (h ▸ .head _)) (fun h => hoff (.tail _ h)) q)) (Nat.lt_irrefl _)
  refine ⟨⟨s.heap.objs.size, t, u, cc, rfl, by rw [hi']; exact Heap.get?_push_size _ rfl, by rw [hi']; exact hx, hfresh, hoff⟩, hsince.step fun b o _ _ q => up b o q, fun b hb => (hal b hb).imp fun o q => up b o q, fun s'' hs'' => ?_⟩
  refine hkap .none s'' (next s'' ((hn.keeps up).at' fun o q => hs'' _ (.head _) o q) fun b hb o q => hs'' b (.tail _ hb) o (up b o q))

theorem seg_escLoop {xe xi xc : Str} {B1 B2 : List Stmt} {p1 p2 p3 p4 p5 p6 p7 p8 p9 p10 p11 pk pv pt : Pos} {k1 k2 x1 : Nat} {t : Tok} {L : Code} (hL : L = .forLoop (.Tuple [.Name xi pk, .Name xc pv] x1 pt) (.ref e)
      [.If (.Name xe p1) B1 [.If (.Compare (.Name xc p2) [.Eq] [.Constant (.str "\\") k1 p3] p4) B2 [.Expr (.Yield (some (.Tuple [.Name xi p5, .Name xc p6] k2 p7)) p8) p9] p10] p11] [] env)
    (hh : (A.over L fs).handled = none) (hfs : splitAtGen fs = none) (hfg : fs.any Frame.guarded = false)
    (hk : env.scope.kind = .function) (hke : env.kindOf xe = some .local) (hki : env.kindOf xi = some .local) (hkc : env.kindOf xc = some .local)
    (hde : (xe == ("__debug__" : Str)) = false) (hdi : (xi == ("__debug__" : Str)) = false) (hdc : (xc == ("__debug__" : Str)) = false) (hco : env.scope.isCoroutine = false) (hint : interactive env = false)
    (hei : xe ≠ xi) (hec : xe ≠ xc) (hic : xi ≠ xc) (hCf : env.locals ∉ [e, it]) (hne : e ≠ it) (hx : ∀ (j cc : Nat), x.cps[j]? = some cc → cc ≠ 92)
    (fin : ∀ (s₀ s : Shared) (m : Str → Option Value) (c : Code), s.heap.Ns env.locals m → m xe = some (.bool false) → GenSince env.locals [e, it] s₀ s → Seg (model prog w) A (gEnd env.locals [e, it]) (gProto env.locals [e, it] x) 0 s₀ c (leafOf (.ok .next)) fs s) :
    ∀ (k i : Nat) (s₀ s : Shared) (m : Str → Option Value), x.cps.size - i = k → i ≤ x.cps.size → ((∃ old, IsEnum s.heap e it i old) ∧ s.heap.IsStrIter it "str_ascii_iterator" x t i) → s.heap.Ns env.locals m → m xe = some (.bool false) → GenSince env.locals [e, it] s₀ s →
      Seg (model prog w) A (gEnd env.locals [e, it]) (gProto env.locals [e, it] x) k s₀ L ((model prog w).den L) fs s := by
  have W := WT.signs (prog := prog) (w := w) hh 0 (x := x) (t := t) hne
  have hp : (env.scope.kind == .class || (env.scope.kind == .module && env.locals != env.globals)) = false := by rw [hk]; rfl
  intro k
  induction k with
  | zero =>
    intro i s₀ s m hki hi hst hn hm hsince
    have hin : i = x.cps.size := by omega
    subst hin
    subst hL
    refine seg_forLoop fun H => ?_
    refine W.done s _ _ hst fun h' tk hk' => ?_
    show Seg _ A _ _ _ s₀ _ (leafOf (.ok .next)) fs _
    exact fin _ _ m _ (hn.at' fun o q => hk' _ o hCf q) hm (hsince.step fun b o _ hw q => hk' b o hw q)
  | succ k ih =>
    intro i s₀ s m hki' hi hst hn hm hsince
    have hlt : i < x.cps.size := by omega
    rw [hL]
    refine seg_forLoop fun H => ?_
    rw [← hL]
    refine W.item i s _ _ hlt (Nat.zero_le _) hst fun T v0 v1 h₁ tk₁ hP hT hMid hk₁ => ?_
    dsimp only
    refine W.go _ x1 pt i T _ _ _ hMid fun h₂ hst₂ hk₂ => ?_
    have ht₂ : h₂.IsTuple T #[v0, v1] := hT.at fun o q => hk₂ T o (W.apart i T h₁ hMid) q
    refine wpAny_assign_Tuple hh ht₂ rfl rfl fun h₃ hx₃ => ?_
    replace hx₃ : Heap.ExtBut h₂.objs.size h₂ h₃ := hx₃
    have up₃ : ∀ b o, h₂.get? b = some o → h₃.get? b = some o := fun b o q => hx₃ b o (Nat.ne_of_lt (Heap.lt_size q)) q
    have k₃ : ∀ b o, b ∉ [e, it] → s.heap.get? b = some o → h₃.get? b = some o := fun b o hb q => up₃ b o (hk₂ b o hb (hk₁ b o hb q))
    show wpAny _ _ (do holding [v1] (assign (.Name xi pk) env v0); do holding [] (assign (.Name xc pv) env v1); pure ()) _ _ _
    refine wpAny_bind (wpAny_holding (wpAny_assign_Name (wpAny_storeName_local hki (hn.at' fun o q => k₃ _ o hCf q) (fun h₄ hn₄ hs₄ => ?_) hp)))
    replace hs₄ : Heap.SameBut env.locals h₃ h₄ := hs₄
    refine wpAny_bind (wpAny_holding (wpAny_assign_Name (wpAny_storeName_local hkc hn₄ (fun h₅ hn₅ hs₅ => wpAny_pure ?_) hp)))
    replace hs₅ : Heap.SameBut env.locals h₄ h₅ := hs₅
    have up₅ : ∀ b o, b ≠ env.locals → h₃.get? b = some o → h₅.get? b = some o := fun b o q r => hs₅.extBut b o q (hs₄.extBut b o q r)
    have hst₅ := W.frame (i + 1) h₂ h₅ hst₂ fun b hb o q => up₅ b o (fun r => hCf (r ▸ hb)) (up₃ b o q)
    obtain ⟨t0, cc, u, hcx, _, rfl, rfl⟩ := hP
    have hal : ∀ b ∈ env.locals :: [e, it], ∃ o, h₅.get? b = some o := by
      intro b hb
      rcases List.mem_cons.mp hb with rfl | hb
      · obtain ⟨o, _, _, ho, _⟩ := hn₅; exact ⟨o, ho⟩
      rcases List.mem_cons.mp hb with rfl | hb
      · obtain ⟨⟨_, q⟩, _⟩ := hst₅; exact ⟨_, q⟩
      · rw [List.mem_singleton.mp hb]; obtain ⟨_, _, q, _⟩ := hst₅; exact ⟨_, q⟩
    refine seg_turn (n := k) (gd := id) (x := x) (i := i) (t := t0) (u := u) hfs rfl hfg hk hke hki hkc hde hdi hdc hco hint hn₅ ?_ ?_ ?_ (hx i cc hcx) hcx (by omega) (hsince.step fun b o hb hw q => up₅ b o hb (k₃ b o hw q)) hal ?_
    · simp only [hei, hec, if_false]; exact hm
    · simp only [hic, if_false, if_true]
    · simp only [if_true]
    · intro s'' hn'' hk''
      rw [hL]
      refine seg_again rfl ?_
      rw [← hL]
      exact ih (i + 1) s'' s'' _ (by omega) (by omega) (W.frame (i + 1) h₅ s''.heap hst₅ hk'') hn'' (by simp only [hei, hec, if_false]; exact hm) (GenSince.refl _ _ _)
end
end
section
local macro_rules | `(tactic| walk_at "none here") => `(tactic| skip)
local macro_rules | `(tactic| walk_at "none here") => `(tactic| skip)
theorem rs18 : True := by
  w_top off
  exact trivial
section
open PySem.Spec
variable {prog : Program} {w : World} {A : Around} {E : Value → Shared → Prop} {s : Shared}
theorem go_gen {I : Addr} {g : Nat} {elts : List Expr} {k : Nat} {pos : Pos} {T : Addr} {Q : Unit → Shared → Prop} (hI : s.heap.IsGen I g) (h : Q () s) : wpAny (model prog w) A (letOwnedTupleGo (.Tuple elts k pos) (.ref I) (.ref T)) Q E s := by
  obtain ⟨o, nm, qn, ho, hc, hd, hsl⟩ := hI
  unfold letOwnedTupleGo
  refine wpAny_bind (wpAny_load ho ?_)
  rw [hc, hd]
  exact wpAny_pure h
noncomputable def TurnG (h₀ : Heap) (L : Addr) (own news : List (Addr × Obj)) (J : (Str → Option Value) → List (Addr × Obj) → Prop) (s₁ : Shared) (Qr : Value → Shared → Prop) (Qb : Shared → Prop) (f : Flow) (s₂ : Shared) : Prop :=
  match f with
  | .ret v => Qr v s₂
  | .brk => Qb s₂
  | _ => ∃ h' tk m' nw', s₂ = { s₁ with heap := h', toks := tk } ∧ Fr h₀ L h' m' ∧ News h₀ L h' (own ++ nw') ∧ (∀ p ∈ nw', ∀ q ∈ own, p.1 ≠ q.1) ∧ J m' nw'
/-- a for with two names over a generator object -/
theorem loopG {R : Result → Shared → Prop} {env : Env} {h₀ : Heap} {xi xc : Str} {pk pv pt : Pos} {x1 : Nat} {body orelse : List Stmt} {I : Addr} {n : Nat} {P : Nat → Value → Value → Prop} {St : Nat → List Addr → Shared → Prop} {B Bd : Array GenState → Prop}
    {m : Str → Option Value} {news : List (Addr × Obj)} (hh : A.handled = none)
    (hxi : env.kindOf xi = some .local) (hxc : env.kindOf xc = some .local)
    (hp : (env.scope.kind == .class || (env.scope.kind == .module && env.locals != env.globals)) = false)
    (isgen : ∀ i fp s, St i fp s → ∃ g, s.heap.IsGen I g)
    (live : ∀ i fp (s : Shared), St i fp s → ∀ b ∈ fp, ∃ o, s.heap.get? b = some o)
    (frame : ∀ i fp (s s' : Shared), St i fp s → s'.gens = s.gens → (∀ b o, h₀.get? b = some o → s'.heap.get? b = some o) → (∀ b ∈ fp, ∀ o, s.heap.get? b = some o → s'.heap.get? b = some o) → St i fp s')
    (item : ∀ i fp (s : Shared) (Q : Option Value → Shared → Prop) (E : Value → Shared → Prop), i < n → St i fp s → (∀ b o, h₀.get? b = some o → s.heap.get? b = some o) →
      (∀ T v0 v1 fp' h' tk g', P i v0 v1 → h'.IsTuple T #[v0, v1] → T ∉ fp' → St (i + 1) fp' { s with heap := h', gens := g', toks := tk } → (B s.gens → B g') → (∀ b ∈ fp', b ∈ fp ∨ s.heap.get? b = none) →
        (∀ b o, b ∉ fp' → s.heap.get? b = some o → h'.get? b = some o) → Q (some (.ref T)) { s with heap := h', gens := g', toks := tk }) → wpAny (model prog w) A (pyNext (.ref I)) Q E s)
    (done : ∀ fp (s : Shared) (Q : Option Value → Shared → Prop) (E : Value → Shared → Prop), St n fp s → (∀ b o, h₀.get? b = some o → s.heap.get? b = some o) →
      (∀ h' tk g', (B s.gens → Bd g') → (∀ b o, b ∉ fp → s.heap.get? b = some o → h'.get? b = some o) → Q none { s with heap := h', gens := g', toks := tk }) → wpAny (model prog w) A (pyNext (.ref I)) Q E s)
    {fp₀ : List Addr} (hL0 : env.locals ∉ fp₀) (hw0 : ∀ b ∈ fp₀, h₀.get? b = none) (hn0 : ∀ p ∈ news, p.1 ∉ fp₀) (hst : St 0 fp₀ s) (hB : B s.gens) (F : Fr h₀ env.locals s.heap m) (N : News h₀ env.locals s.heap news)
    (J : Nat → (Str → Option Value) → List (Addr × Obj) → Prop) (h0 : J 0 m news)
    (step : ∀ i v0 v1 m₁ nw₁ h tk g own, i < n → P i v0 v1 → J i m₁ nw₁ → B g → (∀ p ∈ nw₁, ∀ q ∈ own, p.1 ≠ q.1) →
      Fr h₀ env.locals h (fun y => if y = xc then some v1 else if y = xi then some v0 else m₁ y) → News h₀ env.locals h (own ++ nw₁) →
      wpAny (model prog w) A (execs body env) (TurnG h₀ env.locals own nw₁ (J (i + 1)) { s with gens := g } (fun v s' => R (.ok (.ret v)) s') fun s' => R (.ok .next) s') (notedBy (model prog w) A env fun e s' => R (.error e) s') { s with heap := h, gens := g, toks := tk })
    (fin : ∀ h' tk g m' nw', Bd g → Fr h₀ env.locals h' m' → News h₀ env.locals h' nw' → J n m' nw' →
      wpAny (model prog w) A (execs orelse env) (fun f s₃ => R (.ok f) s₃) (notedBy (model prog w) A env fun e s' => R (.error e) s') { s with heap := h', gens := g, toks := tk }) :
    codeAny (model prog w) A (.forLoop (.Tuple [.Name xi pk, .Name xc pv] x1 pt) (.ref I) body orelse env) R s := by
  refine codeAny_forLoop_any
    (fun k s' => ∃ h' tk g m' nw' i fp, s' = { s with heap := h', gens := g, toks := tk } ∧ B g ∧ St i fp s' ∧ env.locals ∉ fp ∧ (∀ b ∈ fp, h₀.get? b = none) ∧ (∀ p ∈ nw', p.1 ∉ fp) ∧ Fr h₀ env.locals h' m' ∧ News h₀ env.locals h' nw' ∧ J i m' nw' ∧ i ≤ n ∧ k = n + 1 - i) ?_ (n + 1)
    ⟨s.heap, s.toks, s.gens, m, news, 0, fp₀, rfl, hB, hst, hL0, hw0, hn0, F, N, h0, Nat.zero_le _, rfl⟩
  rintro k s' ⟨H, tk, g, m', nw', i, fp, rfl, hb, hst', hLf, hwf, hnf, F', N', hJ, hi, rfl⟩
  by_cases hlt : i < n
  · refine item i fp _ _ _ hlt hst' F'.keep fun T v0 v1 fp' h₁ tk₁ g₁ hP hT hTf hst₁ hb₁ hfp hk₁ => ?_
    have alive : ∀ b o, H.get? b = some o → b ∉ fp → b ∉ fp' := fun b o q hb hm => by
      rcases hfp b hm with r | r
      · exact hb r
      · have r' : H.get? b = none := r
        rw [q] at r'; cases r'
    have hLf₁ : env.locals ∉ fp' := by obtain ⟨o, _, _, ho, _⟩ := F'.ns; exact alive _ _ ho hLf
    have hwf₁ : ∀ b ∈ fp', h₀.get? b = none := fun b hm => by
      cases q : h₀.get? b with
      | none => rfl
      | some o => exact absurd hm (alive b o (F'.keep b o q) fun r => by rw [hwf b r] at q; cases q)
    have hnf₁ : ∀ p ∈ nw', p.1 ∉ fp' := fun p hp => alive p.1 p.2 (N' p hp).1 (hnf p hp)
    obtain ⟨gi, hI⟩ := isgen _ _ _ hst₁
    dsimp only
    refine go_gen hI ?_
    refine wpAny_assign_Tuple hh hT rfl rfl fun h₃ hx₃ => ?_
    replace hx₃ : Heap.ExtBut h₁.objs.size h₁ h₃ := hx₃
    have up₃ : ∀ b o, h₁.get? b = some o → h₃.get? b = some o := fun b o x => hx₃ b o (Nat.ne_of_lt (Heap.lt_size x)) x
    have k₃ : ∀ b o, b ∉ fp' → H.get? b = some o → h₃.get? b = some o := fun b o hb q => up₃ b o (hk₁ b o hb q)
    have F₃ : Fr h₀ env.locals h₃ m' := ⟨F'.ns.at' fun o q => k₃ _ o hLf₁ q, fun b o q => k₃ b o (fun r => by rw [hwf₁ b r] at q; cases q) (F'.keep b o q), F'.above⟩
    have N₃ : News h₀ env.locals h₃ nw' := fun p hp => ⟨k₃ _ _ (hnf₁ p hp) (N' p hp).1, (N' p hp).2⟩
    show wpAny _ A (do holding [v1] (assign (.Name xi pk) env v0); do holding [] (assign (.Name xc pv) env v1); pure ()) _ _ _
    refine wpAny_bind (wpAny_holding (wpAny_assign_Name (wpAny_storeName_local hxi F₃.ns (fun h₄ hn₄ hs₄ => ?_) hp)))
    replace hs₄ : Heap.SameBut env.locals h₃ h₄ := hs₄
    have F₄ := F₃.set hn₄ hs₄
    refine wpAny_bind (wpAny_holding (wpAny_assign_Name (wpAny_storeName_local hxc F₄.ns (fun h₅ hn₅ hs₅ => wpAny_pure ?_) hp)))
    replace hs₅ : Heap.SameBut env.locals h₄ h₅ := hs₅
    have F₅ := F₄.set hn₅ hs₅
    have N₅ : News h₀ env.locals h₅ nw' := (N₃.set hs₄).set hs₅
    have up₅ : ∀ b o, b ≠ env.locals → h₃.get? b = some o → h₅.get? b = some o := fun b o q e => hs₅.extBut b o q (hs₄.extBut b o q e)
    have k₅ : ∀ b ∈ fp', ∀ o, h₁.get? b = some o → h₅.get? b = some o := fun b hb o q => up₅ b o (fun r => hLf₁ (r ▸ hb)) (up₃ b o q)
    have sub : ∀ p ∈ nw', ∀ q ∈ ownOf h₀ fp' h₅, p.1 ≠ q.1 := fun p hp q hq r => hnf₁ p hp (r ▸ ownOf_sub q hq)
    refine wpAny_mono (step i v0 v1 m' nw' h₅ _ g₁ (ownOf h₀ fp' h₅) hlt hP hJ (hb₁ hb) sub F₅ ((news_ownOf hLf₁).append N₅)) (fun f s₃ h₆ => ?_) fun _ _ e => e
    have back : ∀ h₆' tk₆ m₂ nw₂, Fr h₀ env.locals h₆' m₂ → News h₀ env.locals h₆' (ownOf h₀ fp' h₅ ++ nw₂) → (∀ p ∈ nw₂, ∀ q ∈ ownOf h₀ fp' h₅, p.1 ≠ q.1) →
        St (i + 1) fp' { s with heap := h₆', gens := g₁, toks := tk₆ } ∧ ∀ p ∈ nw₂, p.1 ∉ fp' := fun h₆' tk₆ m₂ nw₂ F₆ N₆ o₆ => by
      refine ⟨frame _ _ _ _ hst₁ rfl F₆.keep fun b hb o q => (N₆ _ (List.mem_append_left _ (mem_ownOf hb (hwf₁ b hb) (k₅ b hb o q)))).1, fun p hp hm => ?_⟩
      obtain ⟨o, ho⟩ := live _ _ _ hst₁ _ hm
      exact o₆ p hp _ (mem_ownOf hm (hwf₁ _ hm) (k₅ _ hm o ho)) rfl
    cases f with
    | ret v => exact h₆
    | brk => exact h₆
    | cont =>
      obtain ⟨h₆', tk₆, m₂, nw₂, rfl, F₆, N₆, o₆, hJ₆⟩ := h₆
      obtain ⟨a, b⟩ := back h₆' tk₆ m₂ nw₂ F₆ N₆ o₆
      exact ⟨n + 1 - (i + 1), by omega, h₆', tk₆, g₁, m₂, nw₂, i + 1, fp', rfl, hb₁ hb, a, hLf₁, hwf₁, b, F₆, N₆.right, hJ₆, hlt, rfl⟩
    | next =>
      obtain ⟨h₆', tk₆, m₂, nw₂, rfl, F₆, N₆, o₆, hJ₆⟩ := h₆
      obtain ⟨a, b⟩ := back h₆' tk₆ m₂ nw₂ F₆ N₆ o₆
      exact ⟨n + 1 - (i + 1), by omega, h₆', tk₆, g₁, m₂, nw₂, i + 1, fp', rfl, hb₁ hb, a, hLf₁, hwf₁, b, F₆, N₆.right, hJ₆, hlt, rfl⟩
  · have hin : i = n := by omega
    subst hin
    refine done fp _ _ _ hst' F'.keep fun h₁ tk₁ g₁ hb₁ hk₁ => ?_
    exact fin h₁ tk₁ g₁ m' nw' (hb₁ hb) ⟨F'.ns.at' fun o q => hk₁ _ o hLf q, fun b o q => hk₁ b o (fun r => by rw [hwf b r] at q; cases q) (F'.keep b o q), F'.above⟩ (fun p hp => ⟨hk₁ _ _ (hnf p hp) (N' p hp).1, (N' p hp).2⟩) hJ
end
end
section
local macro_rules | `(tactic| walk_at "none here") => `(tactic| skip)
local macro_rules | `(tactic| walk_at "none here") => `(tactic| skip)
local macro_rules | `(tactic| walk_at "none here") => `(tactic| skip)
theorem rs19 : True := by
  w_top off
  exact trivial
section
open PySem.Spec
variable {w : World} {prog : Program} {A : Around} {E : Value → Shared → Prop} {s : Shared}
theorem gen_make {f : Addr} {args : List Value} {o : Obj} {fd : FuncData} {body : List Stmt} {binds : List (Str × Value)} {Q : Value → Shared → Prop} (hroom : (A.in1).depth < recursionLimit)
    (ho : s.heap.get? f = some o) (hd : o.data = .func fd) (hlim : s.heap.NoLimit) (hcd : s.heap.CodeRec fd.code fd.qualname) (hbody : fd.body = .stmts body) (hbind : BindsTo s fd ⟨args, []⟩ binds)
    (hcell : ∀ x ∈ fd.scope.names, x.2 ≠ .cell) (hloc : ∀ y ∈ binds, fd.scope.names.lookup y.1 = some .local) (hco : fd.scope.isCoroutine = false) (hgen : fd.scope.isGenerator = true) (hk : fd.scope.kind = .function)
    (h : ∀ h' tk, h'.Ns s.heap.objs.size (fun x => binds.reverse.lookup x) → h'.IsGen (s.heap.objs.size + 1) s.gens.size → (∀ b o, s.heap.get? b = some o → h'.get? b = some o) → h'.objs.size = s.heap.objs.size + 1 + 1 →
      Q (.ref (s.heap.objs.size + 1)) { s with heap := h', gens := s.gens.push (.fresh (.func body (newEnv fd.scope s.heap.objs.size fd.globals fd.closure (fd.qualname ++ ".<locals>.") (some f) fd.code none fd.builtins))), toks := tk }) :
    wpAny (model prog w) A (call (.ref f) args) Q E s := by
  refine wpAny_call ?_
  refine codeAny_call_generator hroom ho hd hco hgen hbody hcd (hbind _ _ _ _ ?_)
  refine wpAny_newFunctionEnv hcell hloc (fun h' hn hs => ?_) hk
  have hsz : h'.objs.size = s.heap.objs.size + 1 := by rw [hs.1, Heap.size_push]
  have keep : ∀ b o, s.heap.get? b = some o → h'.get? b = some o := fun b o q => hs.extBut b o (Nat.ne_of_lt (Heap.lt_size q)) (Heap.get?_push_of_some _ q)
  refine ⟨hlim.keeps keep, ?_⟩
  dsimp only
  rw [hsz]
  refine h _ _ (hn.push _) ?_ (fun b o q => Heap.get?_push_of_some _ (keep b o q)) (by rw [Heap.size_push, hsz])
  rw [← hsz]
  exact ⟨_, _, _, Heap.get?_push_size _ rfl, rfl, rfl, rfl⟩
end
end
section
theorem rs20 : True := by
  w_top off
  exact trivial
section
open PySem.Spec
variable {prog : Program} {w : World} {A : Around} {h₀ : Heap} {C I : Addr} {g : Nat} {x : Str}
noncomputable def GSt (prog : Program) (w : World) (A : Around) (h₀ : Heap) (C I : Addr) (g : Nat) (x : Str) (i : Nat) (fp : List Addr) (s : Shared) : Prop :=
  s.heap.IsGen I g ∧ I ∈ fp ∧ C ∈ fp ∧ (∀ b ∈ fp, ∃ o, s.heap.get? b = some o) ∧ ∃ gs, s.gens[g]? = some gs ∧
    ∀ s'' : Shared, (∀ b o, h₀.get? b = some o → s''.heap.get? b = some o) → (∀ b ∈ fp, ∀ o, s.heap.get? b = some o → s''.heap.get? b = some o) →
      ∃ e it : Addr, I ≠ C ∧ I ≠ e ∧ I ≠ it ∧ (∀ b ∈ [e, it], b ∈ fp ∨ s''.heap.get? b = none) ∧ gs.Goes (model prog w) A.in1 (gEnd C [e, it]) (gProto C [e, it] x) (x.cps.size - i) (.send .none) s''
noncomputable def BareBut (g : Nat) (gens : Array GenState) : Prop := ∀ k y, k ≠ g → gens[k]? = some y → y.bare = true
theorem GSt.isgen (i : Nat) (fp : List Addr) (s : Shared) (h : GSt prog w A h₀ C I g x i fp s) : ∃ g, s.heap.IsGen I g := ⟨g, h.1⟩
theorem GSt.live (i : Nat) (fp : List Addr) (s : Shared) (h : GSt prog w A h₀ C I g x i fp s) : ∀ b ∈ fp, ∃ o, s.heap.get? b = some o := h.2.2.2.1
theorem isGen_at {h h' : Heap} (H : h.IsGen I g) (k : ∀ o, h.get? I = some o → h'.get? I = some o) : h'.IsGen I g := by
  obtain ⟨o, nm, qn, ho, r⟩ := H
  exact ⟨o, nm, qn, k o ho, r⟩
theorem GSt.frame (i : Nat) (fp : List Addr) (s s' : Shared) (h : GSt prog w A h₀ C I g x i fp s) (e : s'.gens = s.gens) (_ : ∀ b o, h₀.get? b = some o → s'.heap.get? b = some o) (k : ∀ b ∈ fp, ∀ o, s.heap.get? b = some o → s'.heap.get? b = some o) :
    GSt prog w A h₀ C I g x i fp s' := by
  obtain ⟨h1, h2, h3, h4, gs, hgs, h5⟩ := h
  exact ⟨isGen_at h1 (k I h2), h2, h3, fun b hb => (h4 b hb).imp fun o q => k b hb o q, gs, by rw [e]; exact hgs, fun s'' a b => h5 s'' a fun c hc o q => b c hc o (k c hc o q)⟩
theorem bare_set {s : Shared} {y : GenState} (h : BareBut g s.gens) : BareBut g (s.setGen g y).gens := fun k z hk e => by
  rw [(GenOnly.setGen s g y).2 k hk] at e
  exact h k z hk e
theorem GSt.item (hh : A.handled = none) (hl : h₀.NoLimit) (hroom : A.depth < recursionLimit) (i : Nat) (fp : List Addr) (s : Shared) (Q : Option Value → Shared → Prop) (E : Value → Shared → Prop) (hi : i < x.cps.size) (h : GSt prog w A h₀ C I g x i fp s)
    (hk : ∀ b o, h₀.get? b = some o → s.heap.get? b = some o)
    (hQ : ∀ T v0 v1 fp' h' tk g', (∃ t u cc, x.cps[i]? = some cc ∧ v0 = Value.int (i : Nat) t ∧ v1 = Value.str ⟨#[cc]⟩ u) → h'.IsTuple T #[v0, v1] → T ∉ fp' → GSt prog w A h₀ C I g x (i + 1) fp' { s with heap := h', gens := g', toks := tk } → (BareBut g s.gens → BareBut g g') →
        (∀ b ∈ fp', b ∈ fp ∨ s.heap.get? b = none) → (∀ b o, b ∉ fp' → s.heap.get? b = some o → h'.get? b = some o) → Q (some (.ref T)) { s with heap := h', gens := g', toks := tk }) :
    wpAny (model prog w) A (pyNext (.ref I)) Q E s := by
  obtain ⟨h1, h2, h3, h4, gs, hgs, h5⟩ := h
  obtain ⟨e, it, n1, n2, n3, hfp, hgo⟩ := h5 (s.setGen g .running) hk fun _ _ _ q => q
  obtain ⟨m, hm⟩ : ∃ m, x.cps.size - i = m + 1 := ⟨x.cps.size - i - 1, by omega⟩
  rw [hm] at hgo
  refine wpAny_pyNext_gen (P := fun n s₀ s₁ => n = 0 ∧ GenSince C [e, it] s₀ s₁) hh (hl.keeps hk) hroom h1 hgs hgo (fun v s₁ gs' hv => ?_) (fun s₁ hp => absurd hp.1 (Nat.succ_ne_zero _))
  obtain ⟨⟨T, t, u, cc, rfl, hT, hcc, hTn, hTf⟩, ⟨h', tk, rfl, hk'⟩, hal, hgo'⟩ := hv
  have hix : x.cps.size - 1 - (m + 1 - 1) = i := by omega
  rw [hix] at hT hcc
  have kI : ∀ o, s.heap.get? I = some o → h'.get? I = some o := fun o q => hk' I o n1 (by simp [n2, n3]) q
  have hTI : T ≠ I := fun r => by
    obtain ⟨o, ho⟩ := h4 I h2
    have q : s.heap.get? T = none := hTn
    rw [r, ho] at q; cases q
  refine hQ T _ _ (I :: C :: [e, it]) h' tk _ ⟨t, u, cc, hcc, rfl, rfl⟩ ⟨_, hT, rfl, 0, rfl⟩ (fun hm => ?_) ⟨isGen_at h1 kI, .head _, .tail _ (.head _), fun b hb => ?_, gs', setGen_self (gs := .running) (setGen_self hgs), fun s'' _ b => ⟨e, it, n1, n2, n3, fun c hc => .inl (.tail _ (.tail _ hc)), ?_⟩⟩ (fun hb => bare_set (s := { s.setGen g .running with heap := h', toks := tk }) (bare_set hb)) (fun b hb => ?_) (fun b o hb q => ?_)
  · rcases List.mem_cons.mp hm with r | r
    · exact hTI r
    · exact hTf r
  · rcases List.mem_cons.mp hb with rfl | r
    · obtain ⟨o, ho⟩ := h4 b h2; exact ⟨o, kI o ho⟩
    · exact hal b r
  · have := hgo' s'' fun c hc o q => b c (.tail _ hc) o q
    rwa [show x.cps.size - (i + 1) = m from by omega]
  · rcases List.mem_cons.mp hb with rfl | r
    · exact .inl h2
    rcases List.mem_cons.mp r with rfl | r
    · exact .inl h3
    · exact hfp b r
  · exact hk' b o (fun r => hb (r ▸ .tail _ (.head _))) (fun r => hb (.tail _ (.tail _ r))) q
theorem GSt.done (hh : A.handled = none) (hl : h₀.NoLimit) (hroom : A.depth < recursionLimit) (fp : List Addr) (s : Shared) (Q : Option Value → Shared → Prop) (E : Value → Shared → Prop) (h : GSt prog w A h₀ C I g x x.cps.size fp s)
    (hk : ∀ b o, h₀.get? b = some o → s.heap.get? b = some o)
    (hQ : ∀ h' tk g', (BareBut g s.gens → AllBare g') → (∀ b o, b ∉ fp → s.heap.get? b = some o → h'.get? b = some o) → Q none { s with heap := h', gens := g', toks := tk }) :
    wpAny (model prog w) A (pyNext (.ref I)) Q E s := by
  obtain ⟨h1, h2, h3, h4, gs, hgs, h5⟩ := h
  obtain ⟨e, it, n1, n2, n3, hfp, hgo⟩ := h5 (s.setGen g .running) hk fun _ _ _ q => q
  rw [Nat.sub_self] at hgo
  refine wpAny_pyNext_gen (P := fun n s₀ s₁ => n = 0 ∧ GenSince C [e, it] s₀ s₁) hh (hl.keeps hk) hroom h1 hgs hgo (fun v s₁ gs' hv => (hv.2.2.2 s₁ fun _ _ _ q => q).elim) (fun s₁ hp h'' hk'' => ?_)
  obtain ⟨_, h', tk, rfl, hk'⟩ := hp
  refine hQ h'' tk _ (fun hb y hy => ?_) fun b o hb q => hk'' b o (hk' b o (fun r => hb (r ▸ h3)) (fun r => ?_) q)
  · obtain ⟨k, hklt, hky⟩ := Array.mem_iff_getElem.mp hy
    by_cases hkg : k = g
    · have z : (({ s.setGen g .running with heap := h', toks := tk } : Shared).setGen g .finished).gens[g]? = some .finished := setGen_self (gs := .running) (setGen_self hgs)
      subst hkg
      rw [Array.getElem?_eq_getElem hklt, hky] at z
      cases z; rfl
    · exact bare_set (s := { s.setGen g .running with heap := h', toks := tk }) (y := .finished) (bare_set hb) k y hkg (by rw [Array.getElem?_eq_getElem hklt, hky])
  · rcases hfp b r with z | z
    · exact hb z
    · have z' : s.heap.get? b = none := z
      rw [q] at z'; cases z'
end
end
section
local macro_rules | `(tactic| walk_at "none here") => `(tactic| skip)
local macro_rules | `(tactic| walk_at "none here") => `(tactic| skip)
local macro_rules | `(tactic| walk_at "none here") => `(tactic| skip)
local macro_rules | `(tactic| walk_at "none here") => `(tactic| skip)
theorem rs21 : True := by
  w_top off
  exact trivial
/-- what the caller gets back, the generators free -/
noncomputable abbrev AnsG (h₀ : Heap) (L : Addr) (m : Str → Option Value) (news : List (Addr × Obj)) (s : Shared) (Q : Value → Shared → Prop) (R : Value → List (Addr × Obj) → Prop) : Prop :=
  ∀ (v : Value) (own : List (Addr × Obj)) (h' : Heap) (tk' : Nat) (g' : Array GenState), R v own → AllBare g' → Fr h₀ L h' m → News h₀ L h' (own ++ news) → (∀ p ∈ own, ∀ q ∈ news, q.1 < p.1) → Q v { s with heap := h', gens := g', toks := tk' }
noncomputable def ConG (w : World) (mean : ExcName → Option Value) (mg mb : Str → Option Value) (f : Addr) (fr cu lo : Nat) (news : List (Addr × Obj)) (vs : List Value) (R : Value → List (Addr × Obj) → Prop) : Prop :=
  ∀ (dp un : Nat) (gd : Option (List Code)) (cn : Str) (cs : Scope) (a : Addr) (ccd : Value) (cl : List (Str × Addr)) (outer : List Env) (A₀ : Around) (base h₀ : Heap) (L : Addr) (m : Str → Option Value) (s : Shared) (Q E : Value → Shared → Prop),
    Below A₀ base outer h₀ → Fr h₀ L s.heap m → (KF w).In h₀ → News h₀ L s.heap news → Top pg lo' mean mg mb h₀ → cs.kind = .function → dp + fr < recursionLimit → un + cu < cLine → lo ≤ s.toks → AllBare s.gens → AnsG h₀ L m news s Q R →
      wpAny (model prg w) (ktrTop dp un gd cn cs L a ccd cl outer) (call (.ref f) vs) Q E s
local macro_rules | `(tactic| walk_at "m_conG") => `(tactic| (dsimp only [ConG, KF, prg, pg, lo', AnsG]; k_fill; intros))
theorem bare_push {gens : Array GenState} {y : GenState} (h : AllBare gens) (hy : y.bare = true) : BareBut gens.size (gens.push y) := fun k z _ e => by
  rcases Array.mem_push.mp (Array.mem_of_getElem? e) with r | r
  · exact h z r
  · rw [r]; exact hy
theorem newsNilOf {h₀ h : Heap} {L : Addr} {m : Str → Option Value} (_ : Fr h₀ L h m) : News h₀ L h [] := News.nil
theorem genNamed {h : Heap} {a : Addr} {g : Nat} {P : Prop} (G : h.IsGen a g) (k : ∀ g', g' = g → h.IsGen a g' → P) : P := k g rfl G
theorem frHeap {h₀ h : Heap} {L : Addr} {m : Str → Option Value} {P : Prop} (F : Fr h₀ L h m) (k : ∀ h', h' = h → Fr h₀ L h' m → P) : P := k h rfl F
theorem newsNamed {h₀ h : Heap} {L a : Addr} {o : Obj} {r : List (Addr × Obj)} {P : Prop} (N : News h₀ L h ((a, o) :: r)) (k : ∀ a', a' = a → News h₀ L h ((a', o) :: r) → P) : P := k a rfl N
noncomputable def stq (x : Str) : Nat → Nat × Option Nat × List Str
  | 0 => (0, none, [])
  | i + 1 => if x.cps[i]? = some 34 then (match (stq x i).2.1 with
      | none => ((stq x i).1, some i, (stq x i).2.2)
      | some o => (i + 1, none, if (stq x i).1 ≠ o then (stq x i).2.2 ++ [Txt.slice x (some ((stq x i).1 : Int)) (some (o : Int))] else (stq x i).2.2)) else stq x i
section
open PySem.Spec
variable {prog : Program} {w : World} {A : Around} {n : Nat} {s : Shared} {env : Env} {x : Str} {e it : Addr} {fs : List Frame}
theorem seg_escLoop' {C : Addr} {xe xi xc : Str} {B1 B2 : List Stmt} {p1 p2 p3 p4 p5 p6 p7 p8 p9 p10 p11 pk pv pt : Pos} {k1 k2 x1 : Nat} {t : Tok} {L : Code} {k : Nat} {m : Str → Option Value} (hL : L = .forLoop (.Tuple [.Name xi pk, .Name xc pv] x1 pt) (.ref e)
      [.If (.Name xe p1) B1 [.If (.Compare (.Name xc p2) [.Eq] [.Constant (.str "\\") k1 p3] p4) B2 [.Expr (.Yield (some (.Tuple [.Name xi p5, .Name xc p6] k2 p7)) p8) p9] p10] p11] [] env) (hC : env.locals = C)
    (hh : (A.over L fs).handled = none) (hfs : splitAtGen fs = none) (hfg : fs.any Frame.guarded = false)
    (hk : env.scope.kind = .function) (hke : env.kindOf xe = some .local) (hki : env.kindOf xi = some .local) (hkc : env.kindOf xc = some .local)
    (hde : (xe == ("__debug__" : Str)) = false) (hdi : (xi == ("__debug__" : Str)) = false) (hdc : (xc == ("__debug__" : Str)) = false) (hco : env.scope.isCoroutine = false) (hint : interactive env = false)
    (hei : xe ≠ xi) (hec : xe ≠ xc) (hic : xi ≠ xc) (hCf : C ∉ [e, it]) (hne : e ≠ it) (hx : ∀ (j cc : Nat), x.cps[j]? = some cc → cc ≠ 92)
    (fin : ∀ (s₀ s : Shared) (m : Str → Option Value) (c : Code), s.heap.Ns C m → m xe = some (.bool false) → GenSince C [e, it] s₀ s → Seg (model prog w) A (gEnd C [e, it]) (gProto C [e, it] x) 0 s₀ c (leafOf (.ok .next)) fs s)
    (s₀ s : Shared) (hkk : x.cps.size = k) (he : ∃ old, IsEnum s.heap e it 0 old) (hi : s.heap.IsStrIter it "str_ascii_iterator" x t 0) (hn : s.heap.Ns C m) (hm : m xe = some (.bool false)) (hg : GenSince C [e, it] s₀ s) :
      Seg (model prog w) A (gEnd C [e, it]) (gProto C [e, it] x) k s₀ L ((model prog w).den L) fs s := by
  subst hC
  exact seg_escLoop hL hh hfs hfg hk hke hki hkc hde hdi hdc hco hint hei hec hic hCf hne hx fin k 0 s₀ s m hkk (Nat.zero_le _) ⟨he, hi⟩ hn hm hg
end
theorem Upd.appL {d : Addr} {o o' : Obj} : ∀ {l r r' : List (Addr × Obj)}, (∀ p ∈ l, p.1 ≠ d) → Upd d o o' r r' → Upd d o o' (l ++ r) (l ++ r')
  | [], _, _, _, h => h
  | _ :: _, _, _, hl, h => .tail (hl _ (.head _)) (Upd.appL (fun p hp => hl p (.tail _ hp)) h)
theorem stq_len (x : Str) : ∀ i, (stq x i).2.2.length ≤ i
  | 0 => Nat.le_refl _
  | i + 1 => by
    have := stq_len x i
    unfold stq
    split
    · split
      · exact Nat.le_succ_of_le this
      · dsimp only; split
        · rw [List.length_append]; exact Nat.succ_le_succ this
        · exact Nat.le_succ_of_le this
    · exact Nat.le_succ_of_le this
theorem stq_bd (x : Str) : ∀ i, (stq x i).1 ≤ i ∧ ∀ o, (stq x i).2.1 = some o → o ≤ i
  | 0 => ⟨Nat.le_refl _, fun _ h => nomatch h⟩
  | i + 1 => by
    obtain ⟨h1, h2⟩ := stq_bd x i
    unfold stq
    split
    · split
      · exact ⟨Nat.le_succ_of_le h1, fun o h => by cases h; exact Nat.le_succ _⟩
      · exact ⟨Nat.le_refl _, fun _ h => nomatch h⟩
    · exact ⟨Nat.le_succ_of_le h1, fun o h => Nat.le_succ_of_le (h2 o h)⟩
theorem strsAre_len {vs : List Value} {xs : List Str} (h : StrsAre vs xs) : vs.length = xs.length := by
  induction h <;> simp [*]
noncomputable def stripT (x : Str) : Str := if (Builtin.Str.occurrences x (Str.ofString "\"") 0 x.length 1).isEmpty = true then x else
  Txt.join (Str.ofString "") (if (stq x x.cps.size).1 < x.length then (stq x x.cps.size).2.2 ++ [Txt.slice x (some ((stq x x.cps.size).1 : Int)) none] else (stq x x.cps.size).2.2)
theorem stq_small (x : Str) : ∀ i, ∀ p ∈ (stq x i).2.2, p.length ≤ x.length
  | 0 => fun _ h => nomatch h
  | i + 1 => by
    have ih := stq_small x i
    unfold stq
    split
    · split
      · exact ih
      · dsimp only; split
        · intro p hp
          rcases List.mem_append.mp hp with h | h
          · exact ih p h
          · rw [List.mem_singleton.mp h]; exact Txt.slice_le ..
        · exact ih
    · exact ih
theorem sum_le (n : Nat) : ∀ (l : List Str), (∀ p ∈ l, p.length ≤ n) → (l.map (·.length)).sum ≤ l.length * n
  | [], _ => Nat.zero_le _
  | p :: l, h => by
    have h1 := sum_le n l fun q hq => h q (.tail _ hq)
    have h2 := h p (.head _)
    rw [List.map_cons, List.sum_cons, List.length_cons, Nat.succ_mul]
    omega
theorem join_ok {sep : Str} {ps : List Str} {n k : Nat} (h : ∀ p ∈ ps, p.length ≤ n) (hk : ps.length ≤ k) (hz : k * n + k * sep.length ≤ sizeLine) : JoinOk sep ps = true := by
  unfold JoinOk Builtin.Str.tooLong
  rw [StrLaws.joinTotal]
  have h1 := sum_le n ps h
  have h2 : ps.length * n ≤ k * n := Nat.mul_le_mul_right _ hk
  have h3 : ps.length * sep.length ≤ k * sep.length := Nat.mul_le_mul_right _ hk
  simp only [Bool.not_eq_true', decide_eq_false_iff_not]
  omega
theorem strs_vals {vs : List Value} {xs : List Str} (h : StrsAre vs xs) : ∃ l : List (Str × Tok), vs = strValues l ∧ l.map (·.1) = xs := by
  induction h with
  | nil => exact ⟨[], rfl, rfl⟩
  | cons y t _ ih =>
    obtain ⟨l, rfl, rfl⟩ := ih
    exact ⟨(y, t) :: l, rfl, rfl⟩
theorem join_at {prog : Program} {w : World} {A : Around} {E : Value → Shared → Prop} {s : Shared} {h₀ : Heap} {L : Addr} {news : List (Addr × Obj)} {D : Addr} {vs : List Value} {xs : List Str} {c : Nat} {sep : Str} {t : Tok} {Q : Value → Shared → Prop}
    (N : News h₀ L s.heap news) (hm : (D, listOf vs.toArray c) ∈ news) (hvs : StrsAre vs xs) (hok : JoinOk sep xs = true) (hq : ∀ t' k, Q (.str (Txt.join sep xs) t') { s with toks := k }) :
    wpAny (model prog w) A (call (.builtin "str.join") [.str sep t, .ref D]) Q E s := by
  obtain ⟨l, rfl, rfl⟩ := strs_vals hvs
  exact SC.join ⟨_, (N _ hm).1, rfl, _, rfl⟩ rfl hok hq
theorem quote_is {cc : Nat} (h : (({ cps := #[cc] } : Str) == Str.ofString "\"") = true) : cc = 34 := by
  have e : ({ cps := #[cc] } : Str) = Str.ofString "\"" := by simpa using h
  have : (#[cc] : Array Nat) = #[34] := congrArg Str.cps e
  simpa using this
theorem quote_not {cc : Nat} (h : (({ cps := #[cc] } : Str) == Str.ofString "\"") = false) : cc ≠ 34 := fun e => by subst e; cases h
theorem c_strip {w mean mg mb} (news : List (Addr × Obj)) (x : Str) (tx : Tok) (hx : ∀ (j cc : Nat), x.cps[j]? = some cc → cc ≠ 92 ∧ cc < 128) (hlen : x.length ≤ 20) :
    ConG w mean mg mb 43 6 60 0 news [.str x tx] (fun r own => own = [] ∧ ∃ t, r = .str (stripT x) t) := by
  have hasc : x.cps.all (· < 128) = true := by
    rw [Array.all_eq_true_iff_forall_mem]
    intro c hc
    obtain ⟨j, hj, e⟩ := Array.mem_iff_getElem.mp hc
    have := (hx j c (by rw [Array.getElem?_eq_getElem hj, e])).2
    simpa using this
  walk_at "m_conG"; rename_i hlo hbare hret
  w_strict (
  walk_at "m_enter"
  (repeat ((fail_if_success (with_reducible show wpAny _ _ (exec (Stmt.For _ _ _ _ _) _) _ _ _)); walk1))
  · exact hret _ [] _ _ _ ⟨rfl, _, by unfold stripT; rw [if_pos ‹_›]⟩ hbare (by k_asm) (by k_asm) (fun _ h => nomatch h)
  have hocc : (Builtin.Str.occurrences x (Str.ofString "\"") 0 x.length 1).isEmpty = false := by assumption
  refine wpAny_execs_nil ?_
  (repeat ((fail_if_success (with_reducible show wpAny _ _ (exec (Stmt.For _ _ _ _ _) _) _ _ _)); walk1))
  refine wpAny_For ?_ (by intro _; rfl)
  (repeat ((fail_if_success (with_reducible show wpAny _ _ (call (Value.ref 36) _ _) _ _ _)); walk1))

  (with_reducible rename Fr _ _ _ _ => kF)
  (with_reducible rename News _ _ _ _ => kN)
  (with_reducible rename Frag.In _ _ => kX)
  (with_reducible rename Top _ _ _ _ _ _ => kT)
  refine frHeap kF fun H0 hH0 kF => ?_
  subst hH0
  have kH := kX.keeps kF.keep
  refine' gen_make (binds := [(Str.ofString "addr", .str x tx)]) ?k1 (kH 36 _ rfl) rfl (kT.nolimit.keeps kF.keep) (codeRec_of kH ?k5) rfl (BindsTo.of_eq rfl) ?k8 ?k9 rfl rfl rfl ?_
  case k1 => k_room
  case k5 => rfl
  case k8 => decide
  case k9 => (intro y hy; rw [List.mem_singleton.mp hy]; rfl)
  dsimp only
  intro h1 tk1 hns1 hg1 hkp1 hsz1
  refine wpAny_pyIter_gen (s := { heap := h1, gens := _, drawn := _, toks := _, os := _ }) hg1 ?_
  refine genNamed hg1 fun G hG hg1 => ?_
  refine newsNamed kN fun RES hRES kN => ?_
  subst hRES
  have l1 : ∀ p ∈ news, p.1 < RES := by assumption
  have kF1 := (⟨kF.ns.keeps hkp1, fun b o e => hkp1 b o (kF.keep b o e), kF.above⟩ : Fr _ _ h1 _)
  have kN1 : News _ _ h1 _ := kN.grown hkp1
  have hCL := kF.ns.lt
  have hC0 := Heap.get?_none_of_le (Nat.le_trans kF.above (Nat.le_of_lt kF.ns.lt))
  refine loopG (A := Around.deeper _ _) (St := GSt _ _ _ _ H0.objs.size (H0.objs.size + 1) G x) (B := BareBut G) (Bd := AllBare) (n := x.cps.size) (fp₀ := [H0.objs.size + 1, H0.objs.size]) (P := fun i v0 v1 => ∃ t u cc, x.cps[i]? = some cc ∧ v0 = Value.int (i : Nat) t ∧ v1 = Value.str ⟨#[cc]⟩ u)
    rfl rfl rfl rfl GSt.isgen GSt.live GSt.frame (GSt.item rfl kT.nolimit ?kr) (GSt.done rfl kT.nolimit ?kr2) ?l1 ?l2 ?l3 ?st ?bare kF1 kN1
    (fun i m' nw' => ∃ vs c, nw' = (RES, listOf (List.toArray vs) c) :: news ∧ StrsAre vs (stq x i).2.2 ∧ m' (Str.ofString "addr") = some (.str x tx) ∧ (∃ v t, m' (Str.ofString "start") = some (.int v t) ∧ v = ((stq x i).1 : Nat)) ∧ (∃ t, m' (Str.ofString "open_pos") = some (match (stq x i).2.1 with | none => Value.none | some o => .int (o : Nat) t)) ∧ m' (Str.ofString "result") = some (.ref RES)) ?j0 ?step ?fin
  case kr => k_room
  case kr2 => k_room
  case l1 => exact (fresh2 kF kN).1
  case l2 => exact (fresh2 kF kN).2.1
  case l3 => exact (fresh2 kF kN).2.2
  case bare =>
    subst hG
    exact bare_push hbare rfl
  case j0 => exact ⟨[], 0, rfl, .nil, rfl, ⟨_, _, rfl, rfl⟩, ⟨0, rfl⟩, rfl⟩
  case st =>
    subst hG
    refine ⟨hg1, .head _, .tail _ (.head _), ?_, _, Array.getElem?_push_size .., ?_⟩
    · intro b hb
      rcases List.mem_cons.mp hb with rfl | hb
      · obtain ⟨o, _, _, ho, _⟩ := hg1; exact ⟨o, ho⟩
      · rw [List.mem_singleton.mp hb]; obtain ⟨o, _, _, ho, _⟩ := hns1; exact ⟨o, ho⟩
    · intro s2 hb2 hf2
      refine ⟨s2.heap.objs.size + 1, s2.heap.objs.size, Nat.succ_ne_self _, ?_, ?_, ?_, rfl, ?_⟩
      · have : H0.objs.size + 1 < s2.heap.objs.size := by
          obtain ⟨o, _, _, ho, _⟩ := hg1
          exact Heap.lt_size (hf2 _ (.head _) _ ho)
        exact Nat.ne_of_lt (Nat.lt_succ_of_lt this)
      · have : H0.objs.size + 1 < s2.heap.objs.size := by
          obtain ⟨o, _, _, ho, _⟩ := hg1
          exact Heap.lt_size (hf2 _ (.head _) _ ho)
        exact Nat.ne_of_lt this
      · intro b hb
        rcases List.mem_cons.mp hb with rfl | hb
        · exact .inr (Heap.get?_none_of_le (Nat.le_succ _))
        · rw [List.mem_singleton.mp hb]; exact .inr (Heap.get?_none_of_le (Nat.le_refl _))
      · refine seg_func ?_
        have kF2 := (⟨hns1.at' fun o q => hf2 _ (.tail _ (.head _)) o q, hb2, Nat.le_trans kF.above (Nat.le_of_lt hCL)⟩ : Fr _ _ s2.heap _)
        refine seg_execs_cons (seg_plain (wpAny_Assign_Name ?_))
        walk1
        refine wpAny_storeName_local rfl kF2.ns (fun h3 hn3 hs3 => ?_)
        refine seg_execs_cons (seg_plain (wpAny_Assign_Name ?_))
        walk1
        refine wpAny_storeName_local rfl hn3 (fun h4 hn4 hs4 => ?_)
        have hCs2 := kF2.ns.lt
        have sz4 : h4.objs.size = s2.heap.objs.size := hs4.1.trans hs3.1
        have k4 : ∀ b o, b ≠ H0.objs.size → s2.heap.get? b = some o → h4.get? b = some o := fun b o q r => hs4.extBut b o q (hs3.extBut b o q r)
        have kF4 := (⟨hn4, fun b o e => k4 b o (fun r => by rw [r, hC0] at e; cases e) (hb2 b o e), kF2.above⟩ : Fr _ H0.objs.size h4 _)
        have kN4 := newsNilOf kF4
        clear kF2
        refine seg_execs_cons (seg_For ?_ (by intro _; rfl))
        (repeat ((fail_if_success (with_reducible show wpAny _ _ (call (Value.type _) _ _) _ _ _)); walk1))
        refine call_enumerate_str fun h5 he hit hsz hkp => ?_
        dsimp only at he hit hsz hkp
        refine wpAny_pyIter_enum he ?_
        (simp only [strIterType, hasc, if_true] at hit)
        rw [sz4] at he hit
        intro p9
        dsimp only
        (try rw [sz4])
        refine' seg_escLoop' (e := s2.heap.objs.size + 1) (it := s2.heap.objs.size) (t := tx) (xe := Str.ofString "escape") (xi := Str.ofString "pos") (xc := Str.ofString "ch") ?hL ?hC ?r1 ?r2 ?r3 ?r4 ?r5 ?r6 ?r7 ?r8 (by decide) (by decide) ?r9 ?r10 (by decide) (by decide) (by decide) ?q1 (Nat.succ_ne_self _) (fun j cc e => (hx j cc e).1) ?q2 _ _ rfl ⟨_, he⟩ hit ?q4 ?q6 ?q3
        case hL => rfl
        case hC => rfl
        case r1 => rfl
        case r2 => rfl
        case r3 => rfl
        case r4 => rfl
        case r5 => rfl
        case r6 => rfl
        case r7 => rfl
        case r8 => rfl
        case r9 => rfl
        case r10 => rfl
        case q4 => exact hn4.keeps hkp
        case q6 => rfl
        case q1 =>
          intro hm9
          rcases List.mem_cons.mp hm9 with r | r
          · exact Nat.ne_of_lt (Nat.lt_succ_of_lt hCs2) r
          · exact Nat.ne_of_lt hCs2 (List.mem_singleton.mp r)
        case q3 => exact ⟨h5, _, rfl, fun b o r _ q => hkp b o (k4 b o r q)⟩
        case q2 =>
          intro s0 s6 m6 c6 hn6 hm6 hg6
          refine seg_leaf _ ?_
          refine seg_execs_cons (seg_If ?_)
          refine wpAny_isTrue_value (wpAny_Name (wpAny_loadName_local rfl rfl hn6 hm6 ?_) rfl)
          refine wpAny_truthy_bool ?_
          rw [if_neg Bool.false_ne_true]
          refine seg_execs_nil ?_
          refine seg_execs_nil ?_
          exact seg_end (.ok (.ret .none)) ⟨rfl, rfl, hg6⟩
  case step =>
    clear kF1 kN1 kF
    rintro i v0 v1 m1 nw1 h6 tk6 g6 own hi ⟨ti, uc, cc, hcc, rfl, rfl⟩ ⟨vs, c, rfl, hvs, ma, ⟨vst, ts, ms, hvst⟩, ⟨topp, mo⟩, mr⟩ hb hown kF1 kN1
    have hxs : x.length = x.cps.size := rfl
    have hpl := stq_len x i
    have hbd := stq_bd x i
    have hE : stq x (i + 1) = if x.cps[i]? = some 34 then (match (stq x i).2.1 with
      | none => ((stq x i).1, some i, (stq x i).2.2)
      | some o => (i + 1, none, if (stq x i).1 ≠ o then (stq x i).2.2 ++ [Txt.slice x (some ((stq x i).1 : Int)) (some (o : Int))] else (stq x i).2.2)) else stq x i := rfl
    rw [hcc] at hE
    generalize stq x (i + 1) = q1 at hE ⊢
    generalize stq x i = q0 at hE hvs hvst mo hpl hbd
    obtain ⟨st, op, ps⟩ := q0
    dsimp only at hvs hvst mo hE hpl hbd
    subst hvst
    obtain ⟨hbd, hbo⟩ := hbd
    have hvl := strsAre_len hvs
    (repeat ((fail_if_success (with_reducible show wpAny _ _ (exec (Stmt.If _ _ _ _) _) _ _ _)); walk1))
    (repeat ((fail_if_success (with_reducible show wpAny _ _ (execs _ _) _ _ _)); walk1))
    · have hc34 := quote_is (by assumption)
      subst hc34
      rw [if_pos rfl] at hE
      cases op with
      | none =>
        dsimp only at mo hE
        walk_at "m_steps"
        dsimp only [TurnG]
        (with_reducible rename Fr _ _ _ _ => kF2)
        (with_reducible rename News _ _ _ _ => kN2)
        refine ⟨_, _, _, _, rfl, kF2, kN2, hown, vs, c, rfl, ?_, ma, ?_, ?_, mr⟩
        · rw [hE]; exact hvs
        · rw [hE]; exact ⟨_, _, ms, rfl⟩
        · rw [hE]; exact ⟨_, rfl⟩
      | some o =>
        dsimp only at mo hE
        have hbo := hbo o rfl
        (repeat ((fail_if_success (with_reducible show wpAny _ _ (getMethod _ _ _) _ _ _)); walk1))
        · have hso : st ≠ o := fun e => absurd (congrArg (fun z : Nat => (z : Int)) e) ‹_›
          rw [if_pos hso] at hE
          refine listMethod_K kN1 (List.mem_append_right _ (.head _)) PySem.F.slot_list_append PySem.F.type_list_append ?_
          (repeat ((fail_if_success (with_reducible show wpAny _ _ (call (.builtin _) _ _) _ _ _)); walk1))
          (with_reducible rename Fr _ _ _ _ => kF3)
          (with_reducible rename News _ _ _ _ => kN3)
          have hsz : vs.toArray.size ≤ sizeLine := by rw [sizeLine_eq]; simp only [List.size_toArray]; omega
          refine append_K kF3 kN3 (Upd.appL (fun p hp e => hown _ (.head _) p hp e.symm) (.head fun p hp => Nat.ne_of_lt (l1 p hp))) ?_ hsz
          clear kF3 kN3
          intro h8 kF3 kN3
          rw [List.push_toArray] at kN3
          walk_at "m_steps"
          dsimp only [TurnG]
          (with_reducible rename Fr _ _ _ _ => kF2)
          (with_reducible rename News _ _ _ _ => kN2)
          refine ⟨_, _, _, _, rfl, kF2, kN2, ?_, _, _, rfl, ?_, ma, ⟨_, _, rfl, ?_⟩, ?_, mr⟩
          · intro p hp q hq
            rcases List.mem_cons.mp hp with rfl | hp
            · exact hown _ (.head _) q hq
            · exact hown p (.tail _ hp) q hq
          · rw [hE]; exact StrsAre.append' hvs (.cons _ _ .nil)
          · rw [hE]; rfl
          · rw [hE]; exact ⟨0, rfl⟩
        · have hso : st = o := by omega
          rw [if_neg (fun h => h hso)] at hE
          refine wpAny_execs_nil ?_
          walk_at "m_steps"
          dsimp only [TurnG]
          (with_reducible rename Fr _ _ _ _ => kF2)
          (with_reducible rename News _ _ _ _ => kN2)
          refine ⟨_, _, _, _, rfl, kF2, kN2, hown, vs, c, rfl, ?_, ma, ⟨_, _, rfl, ?_⟩, ?_, mr⟩
          · rw [hE]; exact hvs
          · rw [hE]; rfl
          · rw [hE]; exact ⟨0, rfl⟩
    · have hc34 := quote_not (by assumption)
      rw [if_neg (by simpa using hc34)] at hE
      walk_at "m_steps"
      dsimp only [TurnG]
      refine ⟨_, _, _, _, rfl, kF1, kN1, hown, vs, c, rfl, ?_, ma, ?_, ?_, mr⟩
      · rw [hE]; exact hvs
      · rw [hE]; exact ⟨_, _, ms, rfl⟩
      · rw [hE]; exact ⟨_, mo⟩
  case fin =>
    clear kF1 kN1 kF
    rintro h6 tk6 g6 m1 nw1 hb6 kF1 kN1 ⟨vs, c, rfl, hvs, ma, ⟨vst, ts, ms, hvst⟩, ⟨topp, mo⟩, mr⟩
    have hxs : x.length = x.cps.size := rfl
    have hpl := stq_len x x.cps.size
    have hbd := (stq_bd x x.cps.size).1
    have hsm := stq_small x x.cps.size
    have hvl := strsAre_len hvs
    have hR : stripT x = Txt.join (Str.ofString "") (if (stq x x.cps.size).1 < x.length then (stq x x.cps.size).2.2 ++ [Txt.slice x (some ((stq x x.cps.size).1 : Int)) none] else (stq x x.cps.size).2.2) := by
      unfold stripT; rw [if_neg (by rw [hocc]; decide)]
    generalize stq x x.cps.size = q0 at hvs hvst mo hpl hbd hvl hR hsm
    obtain ⟨st, op, ps⟩ := q0
    dsimp only at hvs hvst mo hpl hbd hvl hR hsm
    subst hvst
    (repeat ((fail_if_success (with_reducible show wpAny _ _ (getMethod _ _ _) _ _ _)); walk1))
    · have hlt : st < x.length := by omega
      rw [if_pos hlt] at hR
      refine listMethod_K kN1 (.head _) PySem.F.slot_list_append PySem.F.type_list_append ?_
      (repeat ((fail_if_success (with_reducible show wpAny _ _ (call (.builtin _) _ _) _ _ _)); walk1))
      (with_reducible rename Fr _ _ _ _ => kF3)
      (with_reducible rename News _ _ _ _ => kN3)
      have hsz : vs.toArray.size ≤ sizeLine := by rw [sizeLine_eq]; simp only [List.size_toArray]; omega
      refine append_K kF3 kN3 (.head fun p hp => Nat.ne_of_lt (l1 p hp)) ?_ hsz
      clear kF3 kN3
      intro h8 kF3 kN3
      rw [List.push_toArray] at kN3
      have hps : ∀ p ∈ ps ++ [Txt.slice x (some (st : Int)) none], p.length ≤ 20 := by
        intro p hp
        rcases List.mem_append.mp hp with h | h
        · exact Nat.le_trans (hsm p h) hlen
        · rw [List.mem_singleton.mp h]; exact Nat.le_trans (Txt.slice_le ..) hlen
      (repeat ((fail_if_success (with_reducible show wpAny _ _ (call (.builtin _) _ _) _ _ _)); walk1))
      refine join_at kN3 (.head _) (StrsAre.append' hvs (.cons _ _ .nil)) (join_ok (k := 21) hps (by rw [List.length_append]; show ps.length + 1 ≤ 21; omega) (by rw [sizeLine_eq]; decide)) fun t' k => ?_
      walk_at "m_steps"
      (with_reducible rename News _ _ _ _ => kN9)
      exact hret _ [] _ _ _ ⟨rfl, _, by rw [hR]⟩ hb6 (by k_asm) (cb_drop kN9 (by walk_at "m_sub")) (fun _ h => nomatch h)
    · have hlt : ¬ st < x.length := by omega
      rw [if_neg hlt] at hR
      refine wpAny_execs_nil ?_
      (repeat ((fail_if_success (with_reducible show wpAny _ _ (call (.builtin _) _ _) _ _ _)); walk1))
      refine join_at kN1 (.head _) hvs (join_ok (n := 20) (k := 21) (fun p hp => Nat.le_trans (hsm p hp) hlen) (by omega) (by rw [sizeLine_eq]; decide)) fun t' k => ?_
      walk_at "m_steps"
      (with_reducible rename News _ _ _ _ => kN9)
      exact hret _ [] _ _ _ ⟨rfl, _, by rw [hR]⟩ hb6 (by k_asm) (cb_drop kN9 (by walk_at "m_sub")) (fun _ h => nomatch h))
end
section
local macro_rules | `(tactic| walk_at "m_one") => `(tactic| first | walk1 | (dsimp only; first | walk1 | refine wpAny_execs_nil ?_) | refine wpAny_execs_nil ?_ | (k_unfold; (try dsimp only)))
local macro_rules | `(tactic| walk_at "m_one1") => `(tactic| (fail_if_success (with_reducible first | show wpAny _ _ (binaryOp Operator.Add (Value.str _ _) (Value.str _ _)) _ _ _ | show wpAny _ _ (exec (Stmt.For _ _ _ _ _) _) _ _ _ | show wpAny _ _ (pyIter _) _ _ _)))
local macro_rules | `(tactic| walk_at "m_go") => `(tactic| ((repeat (walk_at "m_one1"; walk_at "m_one")); (all_goals (repeat (walk_at "m_one1"; walk_at "m_one")))))
local macro_rules | `(tactic| walk_at "m_use") => `(tactic| (k_dflt (refine' Con.use2 ?kC ?S ?_; (case kC => first | assumption | apply_assumption); (case S => walk_at "u9"); (intro v9 own9 h9 tk9 hR9 ht9 F9 N9 lt9))))
local macro_rules | `(tactic| walk_at "m_conG") => `(tactic| (dsimp only [ConG, KF, prg, pg, lo', AnsG]; k_fill; intros))
section
local macro_rules | `(tactic| walk_at "none here") => `(tactic| skip)
theorem rs22 : True := by
  w_top off
  exact trivial
theorem ConG.use {w : World} {mean : ExcName → Option Value} {mg mb : Str → Option Value} {f : Addr} {fr cu lo : Nat} {news : List (Addr × Obj)} {vs : List Value} {R : Value → List (Addr × Obj) → Prop} (C : ConG w mean mg mb f fr cu lo news vs R)
    {dp un : Nat} {gd : Option (List Code)} {cn : Str} {cs : Scope} {a : Addr} {ccd : Value} {cl : List (Str × Addr)} {outer : List Env} {A₀ : Around} {base h₀ : Heap} {L : Addr} {m : Str → Option Value} {s : Shared} {Q E : Value → Shared → Prop}
    (k1 : Below A₀ base outer h₀) (k2 : Fr h₀ L s.heap m) (k3 : (KF w).In h₀) (k4 : News h₀ L s.heap news) (k5 : Top pg lo' mean mg mb h₀) (kK : cs.kind = .function) (kd : dp + fr < recursionLimit) (ku : un + cu < cLine) (kl : lo ≤ s.toks) (kb : AllBare s.gens)
    (h : ∀ (v : Value) (own : List (Addr × Obj)) (h' : Heap) (tk' : Nat) (g' : Array GenState), R v own → AllBare g' → s.toks ≤ tk' → Fr h₀ L h' m → News h₀ L h' (own ++ news) → (∀ p ∈ own, ∀ q ∈ news, q.1 < p.1) → Q v { s with heap := h', gens := g', toks := tk' }) :
    wpAny (model prg w) (ktrTop dp un gd cn cs L a ccd cl outer) (call (.ref f) vs) Q E s :=
  wpAny_with_toks (n := s.toks) (Nat.le_refl _) (wpAny_mono (C dp un gd cn cs a ccd cl outer A₀ base h₀ L m s (fun v s' => s.toks ≤ s'.toks → Q v s') E k1 k2 k3 k4 k5 kK kd ku kl kb fun v own h' tk' g' hR hb F N hl ht => h v own h' tk' g' hR hb ht F N hl) (fun _ _ q => q) fun _ _ e _ => e)
theorem ConG.use2 {w : World} {mean : ExcName → Option Value} {mg mb : Str → Option Value} {f : Addr} {fr cu lo : Nat} {news : List (Addr × Obj)} {vs : List Value} {R : Value → List (Addr × Obj) → Prop} (C : ConG w mean mg mb f fr cu lo news vs R)
    {dp un : Nat} {gd : Option (List Code)} {cn : Str} {cs : Scope} {a : Addr} {ccd : Value} {cl : List (Str × Addr)} {outer : List Env} {A₀ : Around} {base h₀ : Heap} {L : Addr} {m : Str → Option Value} {s : Shared} {Q E : Value → Shared → Prop}
    (S : Side w mean mg mb A₀ base outer h₀ L m s news cs dp fr un cu lo) (kb : AllBare s.gens)
    (h : ∀ (v : Value) (own : List (Addr × Obj)) (h' : Heap) (tk' : Nat) (g' : Array GenState), R v own → AllBare g' → s.toks ≤ tk' → Fr h₀ L h' m → News h₀ L h' (own ++ news) → (∀ p ∈ own, ∀ q ∈ news, q.1 < p.1) → Q v { s with heap := h', gens := g', toks := tk' }) :
    wpAny (model prg w) (ktrTop dp un gd cn cs L a ccd cl outer) (call (.ref f) vs) Q E s :=
  ConG.use C S.zk1 S.zk2 S.zk3 S.zk4 S.zk5 S.zkK S.zkd S.zku S.zkl kb h
section
open PySem.Spec
variable {prog : Program} {w : World} {A A' : Around} {E : Value → Shared → Prop} {s : Shared} {h₀ : Heap} {L : Addr} {m : Str → Option Value} {news : List (Addr × Obj)} {r : Addr} {a b c : Int} {t₀ u₀ v₀ : Tok}
theorem WI.rangeC (hh : A.handled = none) {I : Addr} (a c : Int) (n : Nat) : WI prog w A h₀ L 0 I n (fun i v _ => ∃ t, v = .int (a + (i : Int) * c) t)
    (fun i h => IsRangeIter h I (a + (i : Nat) * c) ((n : Int) - (i : Nat)) c) (fun _ => True) where
  live := fun _ _ st => ⟨_, st⟩
  keep := fun i h h' o nw st e e' k N S => by
    have st' : h.get? I = some _ := st
    rw [e] at st'
    cases st'
    exact e'
  item := fun i s Q E hi _ st hQ => (Walks.range hh I a c n).item i s Q E hi st fun v h' tk hP hS hk => hQ v h' tk hP hS fun b o hb e => hk b o (by simpa using hb) e
  done := fun s Q E st hQ => (Walks.range hh I a c n).done s Q E st fun h' tk hk => hQ h' tk fun b o hb e => hk b o (by simpa using hb) e
/-- a for over range(a, b, c), the ledger free -/
theorem forRC {R : Result → Shared → Prop} {env : Env} {x : Str} {px : Pos} {body orelse : List Stmt} {lo n : Nat} (hh : A.handled = none) (hh' : A'.handled = none) (hr : IsRange s.heap r a b c t₀ u₀ v₀) (hsm : Builtin.Range.small a b c = true) (hsz : Builtin.Range.rangeSize a b c = (n : Int))
    (hlo : lo ≤ s.toks) (F : Fr h₀ env.locals s.heap m) (N : News h₀ env.locals s.heap news) (J : Nat → (Str → Option Value) → List (Addr × Obj) → Prop) (h0 : J 0 m news)
    (step : ∀ i t m₁ news₁ h tk oI I, i < n → J i m₁ news₁ → lo ≤ tk → (∀ p ∈ news₁, p.1 ≠ I) → Fr h₀ env.locals h m₁ → News h₀ env.locals h ((I, oI) :: news₁) →
      wpAny (model prog w) A' (storeName env x (.int (a + (i : Int) * c) t)) (fun _ s₂ => wpAny (model prog w) A' (execs body env) (Turn1 h₀ env.locals I oI (fun _ => True) (J (i + 1)) s (fun v s' => R (.ok (.ret v)) s') fun s' => R (.ok .next) s') (notedBy (model prog w) A' env fun e s' => R (.error e) s') s₂) (notedBy (model prog w) A' env fun e s' => R (.error e) s') { s with heap := h, toks := tk })
    (fin : ∀ h' tk m' news', lo ≤ tk → Fr h₀ env.locals h' m' → News h₀ env.locals h' news' → J n m' news' →
      wpAny (model prog w) A' (execs orelse env) (fun f s₃ => R (.ok f) s₃) (notedBy (model prog w) A' env fun e s' => R (.error e) s') { s with heap := h', toks := tk }) :
    wpAny (model prog w) A (pyIter (.ref r)) (fun it s₂ => codeAny (model prog w) A' (.forLoop (.Name x px) it body orelse env) R s₂) E s := by
  refine wpAny_pyIter_range hr hsm ?_
  rw [hsz]
  refine loop1 (lo := lo) (S := fun _ => True) (WI.rangeC hh' a c n).up (Nat.ne_of_lt F.ns.lt) (next_is_new F) (fun p hp => Nat.ne_of_lt (Heap.lt_size (N p hp).1)) trivial hlo ?_ (F.push _) (N.grown fun _ _ e => Heap.get?_push_of_some _ e) J h0 ?_ ?_
  · show IsRangeIter _ _ _ _ _
    simpa using Heap.get?_push_size _ rfl
  · rintro i v m₁ news₁ h tk oI hi ⟨t, rfl⟩ hJ _ htk hoff F1 N1
    exact step i t m₁ news₁ h tk oI _ hi hJ htk hoff F1 N1
  · intro h' tk m' news' htk F1 N1 _ _ hJ
    exact fin h' tk m' news' htk F1 N1 hJ
end
theorem c_contains {w mean mg mb} (news : List (Addr × Obj)) (l : Addr) (vs : List Value) (ns : List Int) (n : Nat) (k : Int) (t : Tok) (hm : (l, listOf (List.toArray vs) n) ∈ news) (hi : IntsAre vs ns) :
    Con w mean mg mb 106 2 20 0 news [.ref l, .int k t] (fun r own => own = [] ∧ r = .bool (ns.any (· == k))) := by
  walk_at "m_con"; rename_i hlo hret
  w_strict (
  walk_at "m_enter"
  (repeat ((fail_if_success (with_reducible show wpAny _ _ (compareOp _ _ _) _ _ _)); walk1))
  (with_reducible rename News _ _ _ _ => kN)
  refine in_list_ints ⟨_, (kN _ hm).1, rfl, _, rfl⟩ hi ?_
  walk_at "m_steps"
  exact hret _ [] _ _ ⟨rfl, rfl⟩ (by k_asm) (by k_asm) (fun _ h => nomatch h))
noncomputable def kT (ns : List Int) : Nat → Str
  | 0 => Str.ofString ""
  | i + 1 => (if ns.any (· == (6 + (i : Int) * -1)) = true then kT ns i ++ Str.ofString "\"" else kT ns i) ++ Txt.slice (Str.ofString "abcdef") (some (6 + (i : Int) * -1 - 1)) (some (6 + (i : Int) * -1))
theorem kT_len (ns : List Int) : ∀ i, (kT ns i).length ≤ 7 * i
  | 0 => Nat.le_of_eq (by show (Str.ofString "").length = 7 * 0; decide +kernel)
  | i + 1 => by
    have ih := kT_len ns i
    have h1 := Txt.slice_le (Str.ofString "abcdef") (some (6 + (i : Int) * -1 - 1)) (some (6 + (i : Int) * -1))
    have h2 : (Str.ofString "abcdef").length = 6 := by decide +kernel
    have h3 : (Str.ofString "\"").length = 1 := by decide +kernel
    unfold kT
    split <;> simp only [strLen_append] <;> omega
theorem c_kept {w mean mg mb} (news : List (Addr × Obj)) (l : Addr) (vs : List Value) (ns : List Int) (n : Nat) (hm : (l, listOf (List.toArray vs) n) ∈ news) (hi : IntsAre vs ns)
    (hx : ∀ (j cc : Nat), (kT ns 7).cps[j]? = some cc → cc ≠ 92 ∧ cc < 128) (hlen : (kT ns 7).length ≤ 20) :
    ConG w mean mg mb 160 8 100 0 news [.ref l] (fun r own => own = [] ∧ ∃ t, r = .str (stripT (kT ns 7)) t) := by
  walk_at "m_conG"; rename_i hlo hbare hret
  w_strict (
  walk_at "m_enter"
  (repeat ((fail_if_success (with_reducible show wpAny _ _ (exec (Stmt.For _ _ _ _ _) _) _ _ _)); walk1))
  refine wpAny_For ?_ (by intro _; rfl)
  (repeat ((fail_if_success (with_reducible show wpAny _ _ (pyIter _) _ _ _)); walk1))
  (with_reducible rename Fr _ _ _ _ => kF)
  (with_reducible rename News _ _ _ _ => kN)
  (with_reducible rename IsRange _ _ _ _ _ _ _ _ => rgX)
  refine forRC (n := 7) (lo := 0) rfl rfl rgX (by decide) (by decide) (Nat.zero_le _) kF kN
    (fun i m' nw => nw = news ∧ m' (Str.ofString "marks") = some (.ref l) ∧ ∃ t, m' (Str.ofString "text") = some (.str (kT ns i) t)) ?_ ?_ ?_
  · exact ⟨rfl, rfl, _, rfl⟩
  · clear kF kN
    rintro i ti m1 nw1 h1 tk1 oI I hi' ⟨rfl, ml, tt, mt⟩ htk hoff kF kN
    have hk0 : 6 + (i : Int) * -1 = ((6 - i : Nat) : Int) := by omega
    have hTT : kT ns (i + 1) = (if ns.any (· == (6 + (i : Int) * -1)) = true then kT ns i ++ Str.ofString "\"" else kT ns i) ++ Txt.slice (Str.ofString "abcdef") (some (6 + (i : Int) * -1 - 1)) (some (6 + (i : Int) * -1)) := rfl
    rw [hk0] at *
    (repeat ((fail_if_success (with_reducible show wpAny _ _ (call (Value.ref 106) _ _) _ _ _)); walk1))
    have C9 := c_contains (w := w) (mean := mean) (mg := mg) (mb := mb) ((I, oI) :: nw1) l vs ns n ((6 - i : Nat) : Int) ti (.tail _ hm) hi
    walk_at "m_use"
    rename_i hR9 _ _ _ _
    obtain ⟨e9, f9⟩ := hR9
    subst e9
    subst f9
    clear C9
    dsimp only
    have hkl := kT_len ns i
    have hsl := Txt.slice_le (Str.ofString "abcdef") (some (((6 - i : Nat) : Int) - 1)) (some ((6 - i : Nat) : Int))
    have hl6 : (Str.ofString "abcdef").length = 6 := by decide +kernel
    have hl1 : (Str.ofString "\"").length = 1 := by decide +kernel
    obtain ⟨T, hT⟩ : ∃ T, T = kT ns i := ⟨_, rfl⟩
    rw [← hT] at hkl mt hTT
    walk_at "m_go"
    · rw [if_pos ‹_›] at hTT
      refine' add_str (fun t' tk => ?_) ?z
      case z => rw [sizeLine_eq]; omega
      have hTl2 := strLen_append T (Str.ofString "\"")
      walk_at "m_go"
      refine' add_str (fun t' tk => ?_) ?z
      case z => rw [sizeLine_eq]; omega
      walk_at "m_go"
      (with_reducible rename Fr _ _ _ _ => kF9)
      (with_reducible rename News _ _ _ _ => kN9)
      (simp only [List.nil_append] at kN9)
      exact ⟨_, _, _, _, rfl, kF9, kN9, hoff, trivial, rfl, ml, _, by rw [hTT]; rfl⟩
    · have hz : (ns.any (· == ((6 - i : Nat) : Int))) = false := by assumption
      rw [hz] at hTT
      simp only [Bool.false_eq_true, if_false] at hTT
      refine' add_str (fun t' tk => ?_) ?z
      case z => rw [sizeLine_eq]; omega
      walk_at "m_go"
      (with_reducible rename Fr _ _ _ _ => kF9)
      (with_reducible rename News _ _ _ _ => kN9)
      (simp only [List.nil_append] at kN9)
      exact ⟨_, _, _, _, rfl, kF9, kN9, hoff, trivial, rfl, ml, _, by rw [hTT]; rfl⟩
  · clear kF kN
    rintro h1 tk1 m1 nw1 htk kF kN ⟨rfl, ml, tt, mt⟩
    (repeat ((fail_if_success (with_reducible show wpAny _ _ (call (Value.ref 43) _ _) _ _ _)); walk_at "m_one"))
    have C9 := c_strip (w := w) (mean := mean) (mg := mg) (mb := mb) nw1 (kT ns 7) tt hx hlen
    refine' ConG.use C9 ?k1 ?k2 ?k3 ?k4 ?k5 ?kK ?kd ?ku ?kl ?kb ?_
    case k1 => k_asm
    case k2 => k_asm
    case k3 => k_asm
    case k4 => k_asm
    case k5 => k_asm
    case kK => first | exact rfl | assumption
    case kd => k_room
    case ku => ktr_units
    case kl => first | exact Nat.zero_le _ | (dsimp only; omega)
    case kb => assumption
    intro v9 own9 h9 tk9 g9 hR9 hb9 ht9 F9 N9 lt9
    rename_i hR9 hb9 _ _ _ _
    obtain ⟨e9, t9, f9⟩ := hR9
    subst e9
    subst f9
    clear C9
    dsimp only
    walk_at "m_go"
    exact hret _ [] _ _ _ ⟨rfl, _, rfl⟩ hb9 (by k_asm) (by k_asm) (fun _ h => nomatch h))
end
section
local macro_rules | `(tactic| walk_at "m_useG") => `(tactic| (k_dflt (refine' ConG.use2 ?kC ?S ?kb ?_; (case kC => first | assumption | apply_assumption); (case S => walk_at "u9"); (case kb => assumption); (intro v9 own9 h9 tk9 g9 hR9 hb9 ht9 F9 N9 lt9))))
section
local macro_rules | `(tactic| walk_at "none here") => `(tactic| skip)
theorem rs23 : True := by
  w_top off
  exact trivial
/-- the seven names, the lowest first -/
noncomputable def nmL : List Str := [Str.ofString "OPTIMIZED", Str.ofString "NEWLOCALS", Str.ofString "VARARGS", Str.ofString "VARKEYWORDS", Str.ofString "NESTED", Str.ofString "GENERATOR", Str.ofString "NOFREE"]
noncomputable def nm (i : Nat) : Str := nmL.getD i (Str.ofString "")
noncomputable def flagKvs : List (Int × Value) := (List.range 7).map (fun i => (((2 ^ i : Nat) : Int), Value.str (nm i) (190 + 2 * i))) ++ [(128, .str (Str.ofString "COROUTINE") 204), (256, .str (Str.ofString "ITERABLE_COROUTINE") 206), (512, .str (Str.ofString "ASYNC_GENERATOR") 208)]
theorem flagDict (w : World) : ∃ o, (KF w).lookup 15 = some o ∧ o.IsDictOf (intKind prg w) flagKvs := by
  refine ⟨_, rfl, _, _, ⟨rfl, rfl, rfl⟩, rfl, ?_, ?_, ?_⟩
  · intro e he
    simp only [List.mem_toArray, List.mem_cons, List.not_mem_nil, or_false] at he
    rcases he with rfl | rfl | rfl | rfl | rfl | rfl | rfl | rfl | rfl | rfl <;> exact ⟨_, intKind_is prg w _ _, by rfl⟩
  · repeat (refine .cons (intKind_is prg w _ _) rfl ?_)
    exact .nil
  · decide
theorem flagAt {i : Nat} (hi : i < 7) : valueAt flagKvs ((2 ^ i : Nat) : Int) = some (.str (nm i) (190 + 2 * i)) := by
  have hc : i = 0 ∨ i = 1 ∨ i = 2 ∨ i = 3 ∨ i = 4 ∨ i = 5 ∨ i = 6 := by omega
  rcases hc with rfl | rfl | rfl | rfl | rfl | rfl | rfl <;> rfl
theorem flag_get {w : World} {A : Around} {E : Value → Shared → Prop} {s : Shared} (X : (KF w).In s.heap) {i : Nat} (hi : i < 7) {kk : Int} (hkk : kk = ((2 ^ i : Nat) : Int)) {dflt : Value} {tk : Tok} {Q : Value → Shared → Prop} (h : Q (.str (nm i) (190 + 2 * i)) { s with toks := s.toks + 1 }) :
    wpAny (model prg w) A (call (.builtin "dict.get") [.ref 15, .int kk tk, dflt]) Q E s := by
  subst hkk
  obtain ⟨o, ho, hd⟩ := flagDict w
  have hD : s.heap.DictOf (intKind prg w) 15 flagKvs := Heap.dictOf_iff.mpr ⟨o, X _ _ ho, hd⟩
  exact call_meetsIn PySem.F.slot_dict_get hD.typeIs PySem.F.entry_dict_get (PySem.F.args_dict_get_3 _ _ _) (meets_dict_get_default (intKind prg w) 15 (intKind_is prg w _ _) rfl dflt) ⟨_, hD.mapOf, by rw [flagAt hi]; exact h⟩
/-- the names of the flags below i, each as the table holds it -/
noncomputable def pn (f i : Nat) : List (Str × Tok) := ((List.range i).filter (f.testBit ·)).map fun k => (nm k, 190 + 2 * k)
theorem pn_succ (f i : Nat) : pn f (i + 1) = if f.testBit i = true then pn f i ++ [(nm i, 190 + 2 * i)] else pn f i := by
  unfold pn
  rw [List.range_succ, List.filter_append, List.map_append]
  by_cases h : f.testBit i = true
  · rw [if_pos h, List.filter_cons_of_pos h]; rfl
  · rw [if_neg h, List.filter_cons_of_neg h]; simp
theorem pf1 : ∀ f : Nat, f < 128 → ∀ i : Nat, i < 32 → (Builtin.bitAnd ((f / 2 ^ i * 2 ^ i : Nat) : Int) (1 * 2 ^ Int.toNat (i : Int)) ≠ 0 ↔ f.testBit i = true) := by decide +kernel
theorem pf2 : ∀ f : Nat, f < 128 → ∀ i : Nat, i < 32 → f.testBit i = true → Builtin.bitXor ((f / 2 ^ i * 2 ^ i : Nat) : Int) (1 * 2 ^ Int.toNat (i : Int)) = ((f / 2 ^ (i + 1) * 2 ^ (i + 1) : Nat) : Int) := by decide +kernel
theorem pf3 : ∀ f : Nat, f < 128 → ∀ i : Nat, i < 32 → f.testBit i = false → f / 2 ^ i * 2 ^ i = f / 2 ^ (i + 1) * 2 ^ (i + 1) := by decide +kernel
theorem pf4 : ∀ f : Nat, f < 128 → ∀ i : Nat, i < 7 → f / 2 ^ (i + 1) * 2 ^ (i + 1) = 0 → (List.range (i + 1)).filter (f.testBit ·) = (List.range 7).filter (f.testBit ·) := by decide +kernel
noncomputable def pfT (f : Nat) : Str := if f = 0 then Str.ofString "0x0" else Txt.join (Str.ofString ", ") ((pn f 7).map (·.1))
theorem join_vals {prog : Program} {w : World} {A : Around} {E : Value → Shared → Prop} {s : Shared} {h₀ : Heap} {L : Addr} {news : List (Addr × Obj)} {D : Addr} {l : List (Str × Tok)} {c : Nat} {sep : Str} {t : Tok} {Q : Value → Shared → Prop}
    (N : News h₀ L s.heap news) (hm : (D, listOf (strValues l).toArray c) ∈ news) (hok : JoinOk sep (l.map (·.1)) = true) (hq : ∀ t' k, (∀ p, l = [p] → t' = p.2) → Q (.str (Txt.join sep (l.map (·.1))) t') { s with toks := k }) :
    wpAny (model prog w) A (call (.builtin "str.join") [.str sep t, .ref D]) Q E s := by
  have hl : s.heap.IsList D (strValues l).toArray := ⟨_, (N _ hm).1, rfl, _, rfl⟩
  unfold JoinOk at hok
  rw [Bool.not_eq_true'] at hok
  refine call_meets PySem.F.slot_str_join (typeIs_str _ _ _) PySem.F.entry_str_join (PySem.F.args_str_join_2 _ _) (meets_str_join_list sep t D l hok) ⟨hl, ?_⟩
  have hlen := joinFit_length hok
  cases l with
  | nil => exact ⟨hlen, hq _ _ fun p e => nomatch e⟩
  | cons p r =>
    cases r with
    | nil => exact hq p.2 s.toks fun q e => by cases e; rfl
    | cons q r => exact ⟨hlen, hq _ _ fun p e => nomatch e⟩
theorem flag_method {w : World} {A : Around} {E : Value → Shared → Prop} {s : Shared} (X : (KF w).In s.heap) {pl : Sem Bool} {Q : Value × List Value → Shared → Prop} (h : Q (.builtin "dict.get", [.ref 15]) s) : wpAny (model prg w) A (getMethod (.ref 15) "get" pl) Q E s := by
  obtain ⟨o, ho, hd⟩ := flagDict w
  have hD : s.heap.DictOf (intKind prg w) 15 flagKvs := Heap.dictOf_iff.mpr ⟨o, X _ _ ho, hd⟩
  exact getMethod_builtin hD.typeIs PySem.F.plainAttrs_dict PySem.F.slot_dict_get PySem.F.type_dict_get hD.mapOf.noDict h
theorem hexFit {i : Nat} (hi : i < 7) : (PySem.baseText "0x" 16 (1 * 2 ^ Int.toNat (i : Int))).length ≤ sizeLine := by
  refine Nat.le_trans (fact_hex _).2 ?_
  have : ∀ i : Nat, i < 7 → (1 * 2 ^ Int.toNat (i : Int) : Int).natAbs + 4 ≤ 68 := by decide
  have := this i hi
  rw [sizeLine_eq]
  omega
theorem jokPn : ∀ f : Nat, f < 128 → JoinOk (Str.ofString ", ") ((pn f 7).map (·.1)) = true := by decide +kernel
end
section
local macro_rules | `(tactic| walk_at "none here") => `(tactic| skip)
local macro_rules | `(tactic| walk_at "none here") => `(tactic| skip)
theorem rs24 : True := by
  w_top off
  exact trivial
local macro_rules | `(tactic| walk_at "getMethod ref") => `(tactic| (k_here; (with_reducible show wpAny _ _ (getMethod (Value.ref 15) _ _) _ _ _); k_dflt (refine flag_method (Frag.In.keeps (by assumption) (Fr.keep (by assumption))) ?_)))
theorem c_pretty {w mean mg mb} (news : List (Addr × Obj)) (f : Nat) (tf : Tok) (hf : f < 128) :
    Con w mean mg mb 22 4 60 480 news [.int f tf] (fun r own => own = [] ∧ ∃ t, r = .str (pfT f) t ∧ (f = 0 ∨ ∀ p, pn f 7 = [p] → t = p.2)) := by
  walk_at "m_con"; rename_i hlo hret
  w_strict (
  walk_at "m_enter"
  walk_at "m_go"
  refine wpAny_For ?_ (by intro _; rfl)
  refine wpAny_with_toks (n := 480) (by dsimp only; omega) ?_
  walk_at "m_go"
  (with_reducible rename Fr _ _ _ _ => kF)
  (with_reducible rename News _ _ _ _ => kN)
  (with_reducible rename IsRange _ _ _ _ _ _ _ _ => rgX)
  (with_reducible rename Frag.In _ _ => kX)
  refine newsNamed kN fun NM hNM kN => ?_
  subst hNM
  have l1 : ∀ p ∈ news, p.1 < NM := by assumption
  refine forR (n := 32) (lo := 480) rfl rfl rgX (by decide) (by decide) ?lo kF kN
    (fun i m' nw => (∃ c, nw = (NM, listOf (List.toArray (strValues (pn f i))) c) :: news) ∧ (f = 0 ∨ f / 2 ^ i * 2 ^ i ≠ 0) ∧ m' (Str.ofString "names") = some (.ref NM) ∧ ∃ v t, m' (Str.ofString "flags") = some (.int v t) ∧ v = ((f / 2 ^ i * 2 ^ i : Nat) : Int)) ?j0 ?step ?fin
  case lo => assumption
  case j0 => exact ⟨⟨_, rfl⟩, by rw [Nat.pow_zero, Nat.div_one, Nat.mul_one]; exact Decidable.em _, rfl, _, _, rfl, by rw [Nat.pow_zero, Nat.div_one, Nat.mul_one]⟩
  case step =>
    clear kF kN
    rintro i ti m1 nw1 h1 tk1 oI I hi ⟨⟨c, rfl⟩, hz, mn, v, tv, mf, hv⟩ htk hoff kF kN
    have hb1 := pf1 f hf i hi
    have hb2 := pf2 f hf i hi
    have hb3 := pf3 f hf i hi
    rw [← hv] at hb1 hb2
    (repeat ((fail_if_success (with_reducible show wpAny _ _ (exec (Stmt.If _ _ _ _) _) _ _ _)); walk_at "m_one"))
    (repeat ((fail_if_success (with_reducible show wpAny _ _ (execs _ _) _ _ _)); walk_at "m_one"))
    · have htb := hb1.mp ‹_›
      have hx := hb2 htb
      have hi7 : i < 7 := by
        rcases Nat.lt_or_ge i 7 with h | h
        · exact h
        · exfalso
          have : f < 2 ^ i := Nat.lt_of_lt_of_le (show f < 2 ^ 7 from hf) (Nat.pow_le_pow_right (Nat.succ_pos 1) h)
          rw [Nat.testBit_lt_two_pow this] at htb
          cases htb
      have hpw : (1 : Int) * 2 ^ Int.toNat (i : Int) = ((2 ^ i : Nat) : Int) := by rw [Int.one_mul, Int.toNat_natCast, Int.natCast_pow]; rfl
      (repeat ((fail_if_success (with_reducible show wpAny _ _ (call (Value.builtin "hex") _ _) _ _ _)); walk_at "m_one"))
      refine' P.hex_of_int ?_ ?sz
      case sz => exact hexFit hi7
      (repeat ((fail_if_success (with_reducible show wpAny _ _ (call (Value.builtin _) _ _) _ _ _)); walk_at "m_one"))
      refine flag_get (Frag.In.keeps (by assumption) (Fr.keep (by assumption))) hi7 hpw ?_
      (repeat ((fail_if_success (with_reducible show wpAny _ _ (call (Value.builtin _) _ _) _ _ _)); walk_at "m_one"))
      (with_reducible rename Fr _ _ _ _ => kF3)
      (with_reducible rename News _ _ _ _ => kN3)
      have hpl : (strValues (pn f i)).length ≤ 7 := by
        unfold strValues pn
        rw [List.length_map, List.length_map]
        exact Nat.le_trans (List.length_filter_le ..) (by rw [List.length_range]; omega)
      have hsz : (strValues (pn f i)).toArray.size ≤ sizeLine := by rw [sizeLine_eq]; simp only [List.size_toArray]; omega
      have hps : pn f (i + 1) = pn f i ++ [(nm i, 190 + 2 * i)] := by rw [pn_succ, if_pos htb]
      refine append_K kF3 kN3 (.tail (hoff _ (.head _)).symm (.head fun p hp => Nat.ne_of_lt (l1 p hp))) ?_ hsz
      clear kF3 kN3
      intro h8 kF3 kN3
      rw [List.push_toArray, show strValues (pn f i) ++ [Value.str (nm i) (190 + 2 * i)] = strValues (pn f (i + 1)) from by rw [hps]; unfold strValues; rw [List.map_append]; rfl] at kN3
      (repeat ((fail_if_success (with_reducible show wpAny _ _ (execs _ _) _ _ _)); walk_at "m_one"))
      have l3 : ∀ p ∈ (NM, listOf (List.toArray (strValues (pn f (i + 1)))) (c + 1)) :: news, p.1 ≠ I := by
        intro p hp
        rcases List.mem_cons.mp hp with rfl | hp
        · exact hoff (NM, listOf (List.toArray (strValues (pn f i))) c) (.head _)
        · exact hoff p (.tail _ hp)
      (repeat ((fail_if_success (with_reducible show wpAny _ _ (exec (Stmt.If _ _ _ _) _) _ _ _)); walk_at "m_one"))
      (repeat ((fail_if_success (with_reducible show wpAny _ _ (execs _ _) _ _ _)); walk_at "m_one"))
      · have hx0 : Builtin.bitXor v (1 * 2 ^ Int.toNat (i : Int)) ≠ 0 := by assumption
        rw [hx] at hx0
        have hx1 : f / 2 ^ (i + 1) * 2 ^ (i + 1) ≠ 0 := fun e => hx0 (by rw [e]; rfl)
        refine wpAny_execs_nil ?_
        walk_at "m_go"
        dsimp only [Turn1]
        (with_reducible rename Fr _ _ _ _ => kF5)
        (with_reducible rename News _ _ _ _ => kN5)
        exact ⟨_, _, _, _, rfl, kF5, kN5, l3, trivial, ⟨_, rfl⟩, .inr hx1, mn, _, _, rfl, hx⟩
      · have hx0 : Builtin.bitXor v (1 * 2 ^ Int.toNat (i : Int)) = 0 := by assumption
        rw [hx] at hx0
        have hx1 : f / 2 ^ (i + 1) * 2 ^ (i + 1) = 0 := by exact_mod_cast hx0
        have hfull : pn f (i + 1) = pn f 7 := by
          unfold pn; rw [pf4 f hf i hi7 hx1]
        (with_reducible rename News _ _ _ _ => kN3)
        rw [hfull] at kN3
        have hf0 : f ≠ 0 := fun e => by subst e; simp at htb
        walk1
        walk1
        dsimp only [Turn1]
        (repeat ((fail_if_success (with_reducible show wpAny _ _ (call (Value.builtin "str.join") _ _) _ _ _)); walk_at "m_one"))
        (with_reducible rename News _ _ _ _ => kN5)
        refine' join_vals (l := pn f 7) ?jn ?jm (jokPn f hf) fun t' k ht' => ?_
        case jn => exact kN5
        case jm => exact .tail _ (.head _)
        walk_at "m_go"
        (with_reducible rename News _ _ _ _ => kN9)
        exact hret _ [] _ _ ⟨rfl, _, by unfold pfT; rw [if_neg hf0], .inr ht'⟩ (by k_asm) (cb_drop kN9 (by walk_at "m_sub")) (fun _ h => nomatch h)
    · have htb : f.testBit i = false := by
        cases h : f.testBit i
        · rfl
        · exact absurd ‹Builtin.bitAnd _ _ = 0› (hb1.mpr h)
      have hb3 := hb3 htb
      rw [hb3] at hz hv
      refine wpAny_execs_nil ?_
      walk_at "m_go"
      dsimp only [Turn1]
      (with_reducible rename Fr _ _ _ _ => kF3)
      (with_reducible rename News _ _ _ _ => kN3)
      exact ⟨_, _, _, _, rfl, kF3, kN3, hoff, trivial, ⟨c, by rw [pn_succ, htb]; rfl⟩, hz, mn, _, _, mf, hv⟩
  case fin =>
    clear kF kN
    rintro h1 tk1 m1 nw1 htk kF kN ⟨⟨c, rfl⟩, hz, mn, v, tv, mf, hv⟩
    have hf0 : f = 0 := by
      rcases hz with h | h
      · exact h
      · exact absurd (by rw [Nat.div_eq_of_lt (Nat.lt_of_lt_of_le hf (by decide)), Nat.zero_mul]) h
    subst hf0
    rw [Nat.zero_div, Nat.zero_mul] at hv
    subst hv
    rw [show pn 0 32 = [] from by decide] at kN
    (repeat ((fail_if_success (with_reducible show wpAny _ _ (call (Value.builtin "hex") _ _) _ _ _)); walk_at "m_one"))
    refine' P.hex_of_int ?_ ?sz
    case sz => rw [sizeLine_eq]; exact Nat.le_of_ble_eq_true (by decide +kernel)
    rw [show PySem.baseText "0x" 16 ((0 : Nat) : Int) = Str.ofString "0x0" from by decide +kernel]
    (repeat ((fail_if_success (with_reducible show wpAny _ _ (call (Value.builtin "str.join") _ _) _ _ _)); walk_at "m_one"))
    (with_reducible rename News _ _ _ _ => kN5)
    refine' join_vals (l := [(Str.ofString "0x0", _)]) ?jn ?jm (show JoinOk (Str.ofString ", ") [Str.ofString "0x0"] = true from by decide +kernel) fun t' k ht' => ?_
    case jn => exact kN5
    case jm => exact .head _
    walk_at "m_go"
    (with_reducible rename News _ _ _ _ => kN9)
    exact hret _ [] _ _ ⟨rfl, _, rfl, .inl rfl⟩ (by k_asm) (cb_drop kN9 (by walk_at "m_sub")) (fun _ h => nomatch h))
end
section
local macro_rules | `(tactic| walk_at "none here") => `(tactic| skip)
local macro_rules | `(tactic| walk_at "none here") => `(tactic| skip)
local macro_rules | `(tactic| walk_at "none here") => `(tactic| skip)
local macro_rules | `(tactic| walk_at "none here") => `(tactic| skip)
theorem rs25 : True := by
  w_top off
  exact trivial
section
open PySem.Spec
variable {prog : Program} {w : World} {A : Around} {E : Value → Shared → Prop} {s : Shared} {h₀ : Heap} {L : Addr} {m : Str → Option Value} {news : List (Addr × Obj)} {env : Env}
/-- a comprehension by induction, the ledger free -/
theorem comp_ind {elt : Expr} {x : Str} {scope : Scope} {cl : List (Str × Addr)} {S : List (Addr × Obj) → Prop} {P : Nat → Value → Prop} {Fin : List Value → List (Addr × Obj) → Prop} {n : Nat} (J : Nat → List Value → List (Addr × Obj) → Prop)
    (turn : ∀ i ys nw v I oI C oC D m₂ h tk (E' : Value → Shared → Prop), i < n → J i ys nw → P i v → LCg.NsObj oC m₂ → m₂ x = some v → Fr h₀ L h m → News h₀ L h ((I, oI) :: (C, oC) :: (D, LCg.lst ys) :: nw) → LCg.Off3 I C D nw → ((@Ne Nat I C) ∧ (@Ne Nat I D) ∧ (@Ne Nat C D)) →
      wpAny (model prog w) A (eval elt (compEnvC scope cl C env)) (LCg.CompEnd h₀ L m { s with heap := h, toks := tk } I oI C oC D (LCg.lst ys) S (fun y nw' => J (i + 1) (ys ++ [y]) nw')) E' { s with heap := h, toks := tk })
    (fin : ∀ ys nw, J n ys nw → Fin ys nw) : ∀ k i ys nw, i + k = n → J i ys nw → LCg.CompRest prog w A h₀ L m env elt x scope cl s S P Fin k i ys nw := by
  intro k
  induction k with
  | zero =>
    intro i ys nw hi hJ
    rw [Nat.add_zero] at hi
    subst hi
    exact .zero (fin ys nw hJ)
  | succ k ih =>
    intro i ys nw hi hJ
    refine .succ fun v I oI C oC D m₂ h tk E' hP hC hx F N off ne => ?_
    refine wpAny_mono (turn i ys nw v I oI C oC D m₂ h tk E' (by omega) hJ hP hC hx F N off ne) (fun y s₂ hs => ?_) fun _ _ e => e
    obtain ⟨h', tk', nw', rfl, F', N', off', hS, hJ'⟩ := hs
    exact ⟨h', tk', nw', rfl, F', N', off', hS, ih (i + 1) (ys ++ [y]) nw' (by omega) hJ'⟩
theorem numbered_toks : ∀ (tk : Nat) (xs : List Str), ∀ p ∈ numbered tk xs, tk ≤ p.2
  | _, [], _, h => nomatch h
  | tk, x :: r, p, h => by
    rcases List.mem_cons.mp h with rfl | h
    · exact Nat.le_refl _
    · exact Nat.le_of_succ_le (numbered_toks (tk + 1) r p h)
theorem split_call {x y : Str} {t u : Tok} {Q : Value → Shared → Prop} (F : Fr h₀ L s.heap m) (N : News h₀ L s.heap news) (hy : (y.length == 0) = false) (hx : x.length ≤ sizeLine)
    (hn : (Builtin.Str.partsBetween x (Builtin.Str.occurrences x y 0 x.length (x.length + 1)) y.length).length ≤ sizeLine)
    (h : ∀ D l c h' tk, l.map (·.1) = Txt.split x y → (l = [(x, t)] ∨ (∀ p ∈ l, s.toks ≤ p.2)) → Fr h₀ L h' m → News h₀ L h' ((D, listOf (strValues l).toArray c) :: news) → (∀ p ∈ news, p.1 < D) → Q (.ref D) { s with heap := h', toks := tk }) :
    wpAny (model prog w) A (call (.builtin "str.split") [.str x t, .str y u]) Q E s := by
  have one : ∀ tk, Txt.split x y = [x] → Q (.ref s.heap.objs.size) { s with toks := tk, heap := s.heap.push { cls := .type "list", data := .seq (strValues [(x, t)]).toArray } } := fun tk e =>
    h _ [(x, t)] _ _ _ e.symm (.inl rfl) (F.push _) (news_pushed F N (fun b o e => Heap.get?_push_of_some _ e) (Heap.get?_push_size _ rfl) rfl) fun p hp => Heap.lt_size (N p hp).1
  cases h1 : (decide (x.length < y.length) || decide (Builtin.Str.strKind x < Builtin.Str.strKind y))
  · cases hf : (Builtin.Str.occurrences x y 0 x.length (x.length + 1)).isEmpty
    · refine call_meets PySem.F.slot_str_split (typeIs_str _ _ _) PySem.F.entry_str_split (PySem.F.args_str_split_2 _ _) (meets_str_split_sep x y t u h1 hy hf hx hn) ?_
      show wants Q E _ { s with toks := _, heap := s.heap.push { cls := .type "list", data := .seq (strsFrom s.toks (Builtin.Str.partsBetween x (Builtin.Str.occurrences x y 0 x.length (x.length + 1)) y.length)).toArray } }
      rw [strsFrom_eq]
      exact h _ (numbered s.toks _) _ _ _ ((numbered_texts _ _).trans ((if_neg (ne_true_of_eq_false h1)).trans (if_neg (ne_true_of_eq_false hf))).symm) (.inr (numbered_toks _ _)) (F.push _) (news_pushed F N (fun b o e => Heap.get?_push_of_some _ e) (Heap.get?_push_size _ rfl) rfl) fun p hp => Heap.lt_size (N p hp).1
    · exact call_meets PySem.F.slot_str_split (typeIs_str _ _ _) PySem.F.entry_str_split (PySem.F.args_str_split_2 _ _) (meets_str_split_not_found x y t u h1 hy hf) (one _ ((if_neg (ne_true_of_eq_false h1)).trans (if_pos hf)))
  · exact call_meets PySem.F.slot_str_split (typeIs_str _ _ _) PySem.F.entry_str_split (PySem.F.args_str_split_2 _ _) (meets_str_split_cannot_occur x y t u h1) (one _ (if_pos h1))
end
theorem pfT_len : ∀ f : Nat, f < 128 → (pfT f).length ≤ 100 := by decide +kernel
theorem pfT_parts (f : Nat) (hf : f < 128) : (Builtin.Str.partsBetween (pfT f) (Builtin.Str.occurrences (pfT f) (Str.ofString ", ") 0 (pfT f).length ((pfT f).length + 1)) (Str.ofString ", ").length).length ≤ 200 := by
  rw [PyProof.Rows.len_partsBetween]
  have h1 := StrLaws.occ_length_le (pfT f) (Str.ofString ", ") 0 (pfT f).length ((pfT f).length + 1)
  have h2 := pfT_len f hf
  omega
theorem pfT_zero : ∀ f : Nat, f < 128 → (pfT f == Str.ofString "0x0") = decide (f = 0) := by decide +kernel
theorem allLt_all {d : Addr} {l : List (Addr × Obj)} (h : AllLt d l) : ∀ p ∈ l, p.1 < d := by
  induction l with
  | nil => intro p hp; cases hp
  | cons q r ih =>
    intro p hp
    rcases List.mem_cons.mp hp with e | hp
    · rw [e]; exact h.1
    · exact ih h.2 p hp
end
section
theorem rs26 : True := by
  w_top off
  exact trivial
noncomputable def cutsOf : Nat → List Str → List Nat
  | _, [] => []
  | _, [_] => []
  | a, p :: q :: r => (a + p.length) :: cutsOf (a + p.length + 2) (q :: r)
theorem by4 {P : Nat → Prop} (a : ∀ k, k < 32 → P k) (b : ∀ k, k < 32 → P (32 + k)) (c : ∀ k, k < 32 → P (64 + k)) (d : ∀ k, k < 32 → P (96 + k)) (f : Nat) (hf : f < 128) : P f := by
  by_cases h1 : f < 32
  · exact a f h1
  by_cases h2 : f < 64
  · have := b (f - 32) (by omega)
    rwa [show 32 + (f - 32) = f by omega] at this
  by_cases h3 : f < 96
  · have := c (f - 64) (by omega)
    rwa [show 64 + (f - 64) = f by omega] at this
  · have := d (f - 96) (by omega)
    rwa [show 96 + (f - 96) = f by omega] at this
theorem occF : ∀ f : Nat, f < 128 → f ≠ 0 → Builtin.Str.occurrences (pfT f) (Str.ofString ", ") 0 (pfT f).length ((pfT f).length + 1) = cutsOf 0 ((pn f 7).map (·.1)) := by
  refine by4 (P := fun f => f ≠ 0 → Builtin.Str.occurrences (pfT f) (Str.ofString ", ") 0 (pfT f).length ((pfT f).length + 1) = cutsOf 0 ((pn f 7).map (·.1))) ?_ ?_ ?_ ?_ <;> decide +kernel
theorem partsF : ∀ f : Nat, f < 128 → f ≠ 0 → Builtin.Str.partsBetween (pfT f) (cutsOf 0 ((pn f 7).map (·.1))) 2 = (pn f 7).map (·.1) := by
  refine by4 (P := fun f => f ≠ 0 → Builtin.Str.partsBetween (pfT f) (cutsOf 0 ((pn f 7).map (·.1))) 2 = (pn f 7).map (·.1)) ?_ ?_ ?_ ?_ <;> decide +kernel
theorem oneF : ∀ f : Nat, f < 128 → f ≠ 0 → (cutsOf 0 ((pn f 7).map (·.1))).isEmpty = true → (pn f 7).map (·.1) = [pfT f] := by decide +kernel
theorem lenF : ∀ f : Nat, f < 128 → f ≠ 0 → 2 ≤ (pfT f).length := by decide +kernel
theorem kind_pos (x : Str) : 1 ≤ Builtin.Str.strKind x := by
  unfold Builtin.Str.strKind
  split
  · exact Nat.le_refl _
  · split <;> decide
theorem splitPf (f : Nat) (hf : f < 128) (h0 : f ≠ 0) : Txt.split (pfT f) (Str.ofString ", ") = (pn f 7).map (·.1) := by
  have hl : (Str.ofString ", ").length = 2 := by decide +kernel
  have hk : Builtin.Str.strKind (Str.ofString ", ") = 1 := by decide +kernel
  have hc : (decide ((pfT f).length < 2) || decide (Builtin.Str.strKind (pfT f) < 1)) = false := by
    rw [decide_eq_false (Nat.not_lt.mpr (lenF f hf h0)), decide_eq_false (Nat.not_lt.mpr (kind_pos _))]; rfl
  unfold Txt.split
  rw [hl, hk, hc, if_neg Bool.false_ne_true, occF f hf h0]
  split
  · rename_i h
    exact (oneF f hf h0 h).symm
  · exact partsF f hf h0
end
section
local macro_rules | `(tactic| walk_at "none here") => `(tactic| skip)
theorem rs27 : True := by
  w_top off
  exact trivial
section
open PySem.Spec
variable {prog : Program} {w : World} {A A₀ : Around} {s : Shared} {K : Frag} {h₀ base : Heap} {L : Addr} {m : Str → Option Value} {news : List (Addr × Obj)} {p : Program} {loose : List Str} {mean : ExcName → Option Value} {mg mb : Str → Option Value}
/-- a def with cells: as the library's rule, with the count of marks known not to fall -/
theorem code_cells_toks {env : Env} {outer : List Env} {R : Result → Shared → Prop} {name qual : Str} {params : Arguments} {body : List Stmt} {scope : Scope} {dV kV doc pm cdv ct oc : Value} {an od : Option Addr} {osl : Array (Option Value)} {f : Addr} {args : Args} {binds : List (Str × Value)}
    (B : Below A₀ base outer h₀) (F : Fr h₀ L s.heap m) (X₀ : K.In h₀) (N : News h₀ L s.heap news) (T : Top p loose mean mg mb h₀) (hA : A.frames = some (env :: outer)) (hf : env.frame = some L) (hke : env.scope.kind = .function)
    (ho : K.lookup f = some ⟨oc, od, .func (fnOf name qual params body scope dV kV doc pm an cdv ct), osl⟩) (hcd : codeIn K cdv qual = true) (hroom : A.depth < recursionLimit)
    (hbind : BindsTo s (fnOf name qual params body scope dV kV doc pm an cdv ct) args binds) (hkind : (binds.all fun y => scope.names.lookup y.1 == some .local || scope.names.lookup y.1 == some .cell) = true)
    (hnd : ((cellsFrom 0 scope.names []).map (·.1)).Nodup)
    (h : ∀ g L' h₁ tk cells, s.toks ≤ tk → Fr h₀ L g m → Fr g L' h₁ (bindL (envOfC qual scope L' f cdv).kindOf binds fun _ => none) → News g L' h₁ (cells ++ news) →
      CellsAre (bindC (envOfC qual scope L' f cdv).kindOf binds fun _ => none) (cellsFrom (L' + 1) scope.names []) cells → Below A base (env :: outer) g → K.In g → Top p loose mean mg mb g → (∀ p ∈ news, p.1 < L') →
      wpAny (model prog w) (A.deeper (envOfC qual scope L' f cdv)) (execs body (envOfC qual scope L' f cdv))
        (fun fl s' => LeaveK h₀ L m g R (match fl with | .ret v => v | _ => .none) s')
        (fun e s' => wpAny (model prog w) (A.deeper (envOfC qual scope L' f cdv)) (leaving (envOfC qual scope L' f cdv) e) (fun _ s'' => R (.error e) s'') (fun e' s'' => R (.error e') s'') s')
        { s with heap := h₁, toks := tk })
    (hco : scope.isCoroutine = false) (hgen : scope.isGenerator = false) (hk : scope.kind = .function) : codeAny (model prog w) A (.call (.ref f) args) R s := by
  obtain ⟨FG, BG, st, lv⟩ := groundX (R := R) B F N hA hf hke
  refine codeAny_call_function hroom ((X₀.keeps F.keep) _ _ ho) rfl hco hgen rfl (codeRec_of (X₀.keeps F.keep) hcd) (hbind _ _ _ _ ?_)
  refine wpAny_with_toks (n := s.toks) (Nat.le_refl _) (wpAny_newFunctionEnv_cells hk (kindsX hkind _) fun env' he s' x hle => ?_)
  subst he
  refine ⟨(T.nolimit.keeps F.keep).keeps x.toInCall.keep, codeAny_func ?_⟩
  obtain ⟨h₁, tk, rfl, _⟩ := x.done
  have up := x.toInCall.keep
  obtain ⟨cells, NC, Y⟩ := Cl.news (h₀ := s.heap) (Nat.le_refl _) fun n c hm => ⟨x.cell n c (lookup_of_mem_nodup (cellsFrom_names scope.names 0 (s.heap.objs.size + 1) [] [] rfl ▸ hnd) hm), x.above n c hm⟩
  have NN : News (hideAll s.heap (news.map (·.1))) s.heap.objs.size h₁ (cells ++ news) := fun q hq => by
    rcases List.mem_append.mp hq with hq | hq
    · obtain ⟨z1, z2, z3⟩ := NC q hq
      refine ⟨z1, z2, Option.eq_none_iff_forall_not_mem.mpr fun o ho' => ?_⟩
      have := of_hideAll _ (Option.mem_def.mp ho')
      rw [z3] at this; cases this
    · exact ⟨up _ _ (N q hq).1, Nat.ne_of_lt (Heap.lt_size (N q hq).1), hideAll_none _ (List.mem_map_of_mem hq)⟩
  have FF : Fr (hideAll s.heap (news.map (·.1))) s.heap.objs.size h₁ _ := ⟨x.toInCall.ns, fun b o e => up b o (of_hideAll _ e), Nat.le_of_eq (hideAll_size _ _)⟩
  exact wpAny_mono (h _ s.heap.objs.size h₁ tk cells hle FG FF NN Y BG (X₀.keeps st) (T.keeps st) fun q hq => Heap.lt_size (N q hq).1) (fun fl s' hl => lv _ _ hl) fun _ _ y => y
end
end
section
local macro_rules | `(tactic| walk_at "none here") => `(tactic| skip)
local macro_rules | `(tactic| walk_at "none here") => `(tactic| skip)
theorem rs28 : True := by
  w_top off
  exact trivial
noncomputable def marksN (f : Nat) : List Nat := (List.range 7).filter (f.testBit ·)
noncomputable def vsN (T : Nat) : List Value := [.str (Str.ofString "OPTIMIZED") T, .str (Str.ofString "NEWLOCALS") (T + 1), .str (Str.ofString "VARARGS") (T + 1 + 1), .str (Str.ofString "VARKEYWORDS") (T + 1 + 1 + 1), .str (Str.ofString "NESTED") (T + 1 + 1 + 1 + 1), .str (Str.ofString "GENERATOR") (T + 1 + 1 + 1 + 1 + 1), .str (Str.ofString "NOFREE") (T + 1 + 1 + 1 + 1 + 1 + 1)]
theorem vsN_get (T : Nat) {j : Nat} (hj : j < 7) : (vsN T)[j]? = some (.str (nm j) (T + j)) := by
  have hc : j = 0 ∨ j = 1 ∨ j = 2 ∨ j = 3 ∨ j = 4 ∨ j = 5 ∨ j = 6 := by omega
  rcases hc with rfl | rfl | rfl | rfl | rfl | rfl | rfl <;> rfl
theorem nm_ne : ∀ k : Nat, k < 7 → ∀ j : Nat, j < k → nm j ≠ nm k := by decide +kernel
theorem tokOk {f T S : Nat} {l : List (Str × Tok)} {x : Str} {t9 : Tok} (hlt : l.map (·.1) = (pn f 7).map (·.1)) (hltok : l = [(x, t9)] ∨ ∀ p ∈ l, S ≤ p.2) (hone : ∀ p, pn f 7 = [p] → t9 = p.2) (hT : 480 ≤ T) (hS : T + 7 ≤ S) :
    ∀ (i : Nat) (p : Str × Tok), l[i]? = some p → ∃ k, (marksN f)[i]? = some k ∧ k < 7 ∧ p.1 = nm k ∧ (∀ j, j < 7 → @Ne Nat (T + j) p.2) ∧ @LT.lt Nat _ 0 p.2 := by
  intro i p hp
  have h1 : (l.map (·.1))[i]? = some p.1 := by rw [List.getElem?_map, hp]; rfl
  rw [hlt] at h1
  unfold pn at h1
  rw [List.map_map, List.getElem?_map] at h1
  cases hk : (marksN f)[i]? with
  | none =>
    have hk' : (List.filter (fun x => f.testBit x) (List.range 7))[i]? = none := hk
    rw [hk'] at h1; cases h1
  | some k =>
    have hk' : (List.filter (fun x => f.testBit x) (List.range 7))[i]? = some k := hk
    rw [hk'] at h1
    have hk7 : k < 7 := List.mem_range.mp ((List.mem_filter.mp (List.mem_of_getElem? hk)).1)
    refine ⟨k, rfl, hk7, (Option.some.inj h1).symm, ?_⟩
    rcases hltok with rfl | h
    · have hlen : ((pn f 7).map (·.1)).length = 1 := by rw [← hlt]; rfl
      rw [List.length_map] at hlen
      obtain ⟨q, hq⟩ := List.length_eq_one_iff.mp hlen
      have ht := hone q hq
      have hqm : q ∈ pn f 7 := by rw [hq]; exact .head _
      unfold pn at hqm
      obtain ⟨k', hk2, rfl⟩ := List.mem_map.mp hqm
      have hk3 : k' < 7 := List.mem_range.mp ((List.mem_filter.mp hk2).1)
      have hi : i = 0 := by
        cases i with
        | zero => rfl
        | succ i => cases hp
      subst hi
      obtain rfl := Option.some.inj hp
      dsimp only at ht ⊢
      have ht' : @Eq Nat t9 (190 + 2 * k') := ht
      exact ⟨fun j hj e => by omega, by omega⟩
    · have : @LE.le Nat _ S p.2 := h p (List.mem_of_getElem? hp)
      exact ⟨fun j hj e => by omega, by omega⟩
theorem newsName {h₀ h : Heap} {L : Addr} {nw : List (Addr × Obj)} {P : Prop} (N : News h₀ L h nw) (k : ∀ nw', nw' = nw → News h₀ L h nw' → P) : P := k nw rfl N
theorem idx_names {w mean mg mb} (news : List (Addr × Obj)) (l : Addr) (T n : Nat) (p : Str × Tok) (k : Nat) (hm : (l, listOf (vsN T).toArray n) ∈ news) (hk7 : k < 7) (hpn : p.1 = nm k) (hT : 0 < T) (hpt : ∀ j, j < 7 → @Ne Nat (T + j) p.2) (hp0 : @LT.lt Nat _ 0 p.2) :
    Con w mean mg mb 120 2 20 0 news [.ref l, .str p.1 p.2] (fun r own => own = [] ∧ ∃ t, r = .int k t) := by
  refine idx_list news l (vsN T) n p.1 p.2 k hm ⟨T + k, by rw [hpn]; exact vsN_get T hk7, Nat.lt_of_lt_of_le hT (Nat.le_add_right ..)⟩ (fun j hj => ⟨nm j, T + j, vsN_get T (Nat.lt_trans hj hk7), ?_, hpt j (Nat.lt_trans hj hk7), Nat.lt_of_lt_of_le hT (Nat.le_add_right ..)⟩) hp0
  rw [hpn]
  exact nm_ne k hk7 j hj
/-- as Con, but what is new is only known apart from what was -/
noncomputable abbrev AnsW (h₀ : Heap) (L : Addr) (m : Str → Option Value) (news : List (Addr × Obj)) (s : Shared) (Q : Value → Shared → Prop) (R : Value → List (Addr × Obj) → Prop) : Prop :=
  ∀ (v : Value) (own : List (Addr × Obj)) (h' : Heap) (tk' : Nat), R v own → Fr h₀ L h' m → News h₀ L h' (own ++ news) → (∀ p ∈ own, ∀ q ∈ news, q.1 ≠ p.1) → Q v { s with heap := h', toks := tk' }
noncomputable def ConW (w : World) (mean : ExcName → Option Value) (mg mb : Str → Option Value) (f : Addr) (fr cu lo : Nat) (news : List (Addr × Obj)) (vs : List Value) (R : Value → List (Addr × Obj) → Prop) : Prop :=
  ∀ (dp un : Nat) (gd : Option (List Code)) (cn : Str) (cs : Scope) (a : Addr) (ccd : Value) (cl : List (Str × Addr)) (outer : List Env) (A₀ : Around) (base h₀ : Heap) (L : Addr) (m : Str → Option Value) (s : Shared) (Q E : Value → Shared → Prop),
    Below A₀ base outer h₀ → Fr h₀ L s.heap m → (KF w).In h₀ → News h₀ L s.heap news → Top pg lo' mean mg mb h₀ → cs.kind = .function → dp + fr < recursionLimit → un + cu < cLine → lo ≤ s.toks → AnsW h₀ L m news s Q R →
      wpAny (model prg w) (ktrTop dp un gd cn cs L a ccd cl outer) (call (.ref f) vs) Q E s
theorem ConW.use {w : World} {mean : ExcName → Option Value} {mg mb : Str → Option Value} {f : Addr} {fr cu lo : Nat} {news : List (Addr × Obj)} {vs : List Value} {R : Value → List (Addr × Obj) → Prop} (C : ConW w mean mg mb f fr cu lo news vs R)
    {dp un : Nat} {gd : Option (List Code)} {cn : Str} {cs : Scope} {a : Addr} {ccd : Value} {cl : List (Str × Addr)} {outer : List Env} {A₀ : Around} {base h₀ : Heap} {L : Addr} {m : Str → Option Value} {s : Shared} {Q E : Value → Shared → Prop}
    (k1 : Below A₀ base outer h₀) (k2 : Fr h₀ L s.heap m) (k3 : (KF w).In h₀) (k4 : News h₀ L s.heap news) (k5 : Top pg lo' mean mg mb h₀) (kK : cs.kind = .function) (kd : dp + fr < recursionLimit) (ku : un + cu < cLine) (kl : lo ≤ s.toks)
    (h : ∀ (v : Value) (own : List (Addr × Obj)) (h' : Heap) (tk' : Nat), R v own → s.toks ≤ tk' → Fr h₀ L h' m → News h₀ L h' (own ++ news) → (∀ p ∈ own, ∀ q ∈ news, q.1 ≠ p.1) → Q v { s with heap := h', toks := tk' }) :
    wpAny (model prg w) (ktrTop dp un gd cn cs L a ccd cl outer) (call (.ref f) vs) Q E s :=
  wpAny_with_toks (n := s.toks) (Nat.le_refl _) (wpAny_mono (C dp un gd cn cs a ccd cl outer A₀ base h₀ L m s (fun v s' => s.toks ≤ s'.toks → Q v s') E k1 k2 k3 k4 k5 kK kd ku kl fun v own h' tk' hR F N hl ht => h v own h' tk' hR ht F N hl) (fun _ _ q => q) fun _ _ e _ => e)
theorem ConW.use2 {w : World} {mean : ExcName → Option Value} {mg mb : Str → Option Value} {f : Addr} {fr cu lo : Nat} {news : List (Addr × Obj)} {vs : List Value} {R : Value → List (Addr × Obj) → Prop} (C : ConW w mean mg mb f fr cu lo news vs R)
    {dp un : Nat} {gd : Option (List Code)} {cn : Str} {cs : Scope} {a : Addr} {ccd : Value} {cl : List (Str × Addr)} {outer : List Env} {A₀ : Around} {base h₀ : Heap} {L : Addr} {m : Str → Option Value} {s : Shared} {Q E : Value → Shared → Prop}
    (S : Side w mean mg mb A₀ base outer h₀ L m s news cs dp fr un cu lo)
    (h : ∀ (v : Value) (own : List (Addr × Obj)) (h' : Heap) (tk' : Nat), R v own → s.toks ≤ tk' → Fr h₀ L h' m → News h₀ L h' (own ++ news) → (∀ p ∈ own, ∀ q ∈ news, q.1 ≠ p.1) → Q v { s with heap := h', toks := tk' }) :
    wpAny (model prg w) (ktrTop dp un gd cn cs L a ccd cl outer) (call (.ref f) vs) Q E s :=
  ConW.use C S.zk1 S.zk2 S.zk3 S.zk4 S.zk5 S.zkK S.zkd S.zku S.zkl h
theorem off1_mem {D : Addr} {l : List (Addr × Obj)} (h : LCg.Off1 D l) : ∀ p ∈ l, p.1 ≠ D := by
  induction l with
  | nil => intro p hp; cases hp
  | cons q r ih =>
    intro p hp
    rcases List.mem_cons.mp hp with e | hp
    · rw [e]; exact h.1
    · exact ih h.2 p hp
end
section
local macro_rules | `(tactic| walk_at "m_conW") => `(tactic| (dsimp only [ConW, KF, prg, pg, lo', AnsW]; k_fill; intros))
local macro_rules | `(tactic| walk_at "m_useW") => `(tactic| (k_dflt (refine' ConW.use2 ?kC ?S ?_; (case kC => first | assumption | apply_assumption); (case S => walk_at "u9"); (intro v9 own9 h9 tk9 hR9 ht9 F9 N9 lt9))))
section
local macro_rules | `(tactic| walk_at "none here") => `(tactic| skip)
theorem rs29 : True := by
  w_top off
  exact trivial
local macro_rules | `(tactic| walk_at "m_enterC") => `(tactic| (refine wpAny_call ?_; (k_dflt (refine' code_cells_toks ?k1 ?k2 ?k3 ?k4 ?k5 ?kA ?kF ?kK ?k6 ?k7 ?k8 ?k9 ?kB ?kD ?_ ?c2 ?c3 ?c4; (case kA => exact rfl); (case kF => exact rfl); (case kK => assumption); (case k1 => k_asm); (case k2 => k_asm); (case k3 => k_asm); (case k4 => k_asm); (case k5 => k_asm); (case k6 => k_is); (case k7 => k_is); (case k8 => k_room); (case k9 => first | exact BindsTo.of_eq rfl | exact binds_K (by k_in) rfl (by k_is) rfl rfl rfl | fail "k_enter: no rule for these arguments"); (case kB => exact rfl); (case kD => decide +kernel); (case c2 => exact rfl); (case c3 => exact rfl); (case c4 => exact rfl); k_whole; intro g' L' h' tk' cells' ht' FG' F' N' Y' B' X' T' l1; k_cells Y'; (try simp only [List.cons_append, List.nil_append] at N'); (try dsimp only); (try k_lift B'); (try k_fold)))))
local macro_rules | `(tactic| walk_at "eval Name") => `(tactic| (k_here; (with_reducible show wpAny _ _ (eval (Expr.Name _ _) (envOfC _ _ _ _ _)) _ _ _); k_dflt (first
  | (refine' nameX_L ?F ?v ?_ ?a ?b; (case F => k_asm); (case a => rfl); (case b => rfl); (case v => first | exact rfl | assumption); k_whole)
  | (refine' nameX_C ?N ?c ?m ?d ?_ ?a ?b; (case a => rfl); (case b => rfl); (case N => k_asm); (case c => rfl); (case m => k_mem); (case d => k_asm); k_whole)
  | (refine' nameX_K ?F ?X ?T ?e ?_ ?a ?b; (case F => k_asm); (case X => k_asm); (case T => k_asm); (case a => rfl); (case b => rfl); (case e => k_is); k_whole)
  | (refine' nameX_B ?F ?X ?T ?e ?v ?n ?_ ?a ?b; (case F => k_asm); (case X => k_asm); (case T => k_asm); (case a => rfl); (case b => rfl); (case e => k_is); (case v => boot_fast); (case n => decide); k_whole))))
theorem c_places {w mean mg mb} (news : List (Addr × Obj)) (f : Nat) (tf : Tok) (hf : f < 128) :
    ConW w mean mg mb 153 8 100 480 news [.int f tf] (fun r own => ∃ l vs c, r = .ref l ∧ own = [(l, listOf (List.toArray vs) c)] ∧ IntsAre vs ((marksN f).map fun k => ((k : Nat) : Int))) := by
  walk_at "m_conW"; rename_i hlo hret
  w_strict (
  walk_at "m_enterC"
  rename ∀ (p : Addr × Obj), p ∈ news → _ => l1
  (repeat ((fail_if_success (with_reducible show wpAny _ _ (storeName _ _ _) _ _ _)); walk_at "m_one"))
  k_dflt (refine' storeX_C (cn := _) (a := _) (ccd := _) ?F ?N ?c ?U ?d ?_ ?a ?b; (case a => rfl); (case b => rfl); (case F => k_asm); (case N => k_asm); (case c => rfl); (case U => exact .tail (Ne.symm (Nat.ne_of_lt (And.left (by assumption)))) (.head fun p hp => Nat.ne_of_lt (Nat.lt_succ_of_lt (l1 p hp)))); (case d => k_asm); k_whole; intro h3 oCell kF kN hCell)
  (try dsimp only at kN)
  (repeat ((fail_if_success (with_reducible show wpAny _ _ (call (Value.ref 22) _ _) _ _ _)); walk_at "m_one"))
  have C9 := fun nw => c_pretty (w := w) (mean := mean) (mg := mg) (mb := mb) nw f tf hf
  walk_at "m_use"
  rename_i hR9 htk9 kF kN _
  clear C9
  obtain ⟨e9, t9, f9, hone⟩ := hR9
  subst e9
  subst f9
  (simp only [List.nil_append] at kN)
  dsimp only at htk9 ⊢
  (repeat ((fail_if_success (with_reducible show wpAny _ _ (exec (Stmt.If _ _ _ _) _) _ _ _)); walk_at "m_one"))
  (repeat ((fail_if_success (with_reducible show wpAny _ _ (execs _ _) _ _ _)); walk_at "m_one"))
  · have hf0 : f = 0 := by
      have h9 := pfT_zero f hf
      rw [‹(pfT f == Str.ofString "0x0") = true›] at h9
      exact of_decide_eq_true h9.symm
    subst hf0
    walk_at "m_go"
    (with_reducible rename News _ _ _ _ => kN9)
    refine hret _ _ _ _ ⟨_, [], 0, rfl, rfl, by rw [show marksN 0 = [] from by decide]; exact .nil⟩ (by k_asm) (cb_drop kN9 ?_) ?_
    · intro p hp
      rcases List.mem_append.mp hp with h | h
      · rw [List.mem_singleton.mp h]; exact .head _
      · exact .tail _ (.tail _ (.tail _ h))
    · intro p hp q hq
      rw [List.mem_singleton.mp hp]
      rename _ ∧ _ ∧ AllLt _ news => hl9
      exact Nat.ne_of_lt (allLt_all hl9.2.2 q hq)
  · have hf0 : f ≠ 0 := by
      have h9 := pfT_zero f hf
      rw [‹(pfT f == Str.ofString "0x0") = false›] at h9
      exact of_decide_eq_false h9.symm
    refine wpAny_execs_nil ?_
    (repeat ((fail_if_success (with_reducible show wpAny _ _ (eval (Expr.ListComp _ _ _ _) _) _ _ _)); walk_at "m_one"))
    k_dflt (refine LCg.ListComp_U (F₀ := by k_asm) (by with_unfolding_all rfl) (by decide) (by rfl) (by decide) (by rfl) ?_)
    (repeat ((fail_if_success (with_reducible show wpAny _ _ (call (Value.builtin "str.split") _ _) _ _ _)); walk_at "m_one"))
    (with_reducible rename Fr _ _ _ _ => kF5)
    (with_reducible rename News _ _ _ _ => kN5)
    refine' split_call kF5 kN5 (by decide +kernel) (Nat.le_trans (pfT_len f hf) (by rw [sizeLine_eq]; decide)) (Nat.le_trans (pfT_parts f hf) (by rw [sizeLine_eq]; decide)) fun D l cD hD tkD hlt hltok kF kN hltD => ?_
    clear kF5 kN5
    rw [splitPf f hf hf0] at hlt
    have hone := hone.resolve_left hf0
    have hok := tokOk hlt hltok hone (T := _) (Nat.le_trans hlo (by assumption)) (Nat.le_trans htk9 (by dsimp only; omega))
    have hll : l.length = (marksN f).length := by
      have := congrArg List.length hlt
      rwa [List.length_map, List.length_map, show (pn f 7).length = (marksN f).length from List.length_map ..] at this
    have hm7 : (marksN f).length ≤ 7 := Nat.le_trans (List.length_filter_le ..) (by rw [List.length_range]; exact Nat.le_refl 7)
    have hvl : (strValues l).toArray.size = l.length := by rw [List.size_toArray]; exact List.length_map ..
    refine newsName kN fun NW hNW kN => ?_
    refine LCg.CompSrc.ledger (by rfl) kF kN (by rw [hNW]; exact .head _) (by rw [hvl, sizeLine_eq]; omega) ?_
    intro g9
    refine comp_ind (fun i ys nw => nw = NW ∧ IntsAre ys (((marksN f).take i).map fun k => ((k : Nat) : Int))) ?turn ?fin _ 0 [] NW (Nat.zero_add _) ⟨rfl, .nil⟩
    case turn =>
      clear kF kN
      rintro i ys nw v I oI C oC D2 m2 h2 tk2 E2 hi ⟨rfl, hys⟩ hv hC hx kF kN hoff hne
      subst hNW
      obtain ⟨p, hp, rfl⟩ : ∃ p, l[i]? = some p ∧ v = .str p.1 p.2 := by
        rw [hvl] at hi
        refine ⟨l[i], List.getElem?_eq_getElem hi, ?_⟩
        have hv' : (strValues l)[i]? = some v := by simpa using hv
        unfold strValues at hv'
        rw [List.getElem?_map, List.getElem?_eq_getElem hi] at hv'
        exact (Option.some.inj hv').symm
      obtain ⟨k, hk, hk7, hpn, hpt, hp0⟩ := hok i p hp
      (repeat ((fail_if_success (with_reducible show wpAny _ _ (call (Value.ref 120) _ _) _ _ _)); walk_at "m_one"))
      k_dflt (refine' Con.use (idx_names _ _ _ 0 p k ?hm hk7 hpn ?hT hpt hp0) ?k1 ?k2 ?k3 ?k4 ?k5 ?kK ?kd ?ku ?kl ?_)
      case k1 => k_asm
      case k2 => k_asm
      case k3 => k_asm
      case k4 => k_asm
      case k5 => k_asm
      case kK => first | exact rfl | assumption
      case kd => k_room
      case ku => ktr_units
      case kl => exact Nat.zero_le _
      case hm => k_mem
      case hT => exact Nat.lt_of_lt_of_le (by decide) (Nat.le_trans hlo (by assumption))
      intro v9 own9 h9 tk9 hR9 ht9 kF kN lt9
      obtain ⟨e9, t9, f9⟩ := hR9
      subst e9
      subst f9
      (simp only [List.nil_append] at kN)
      dsimp only
      walk_at "m_go"
      refine LCg.CompEnd.intro kF kN _ (fun p hp => hp) hoff (.inr ⟨_, .head _, rfl, _, rfl⟩) ⟨rfl, ?_⟩
      rw [List.take_add_one, hk, List.map_append]
      exact IntsAre.append hys (.cons _ _ .nil)
    case fin =>
      clear kF kN
      rintro ys nw ⟨rfl, hys⟩ DR hR tkR kF kN hoff
      rw [hvl, hll, List.take_length] at hys
      have hoffm := off1_mem hoff
      walk_at "m_go"
      (with_reducible rename News _ _ _ _ => kN9)
      refine hret _ _ _ _ ⟨_, ys, ys.length, rfl, rfl, hys⟩ (by k_asm) (cb_drop kN9 ?_) ?_
      · intro p hp
        rcases List.mem_append.mp hp with h | h
        · rw [List.mem_singleton.mp h]; exact .head _
        · subst hNW; exact .tail _ (.tail _ (.tail _ (.tail _ h)))
      · intro p hp q hq
        rw [List.mem_singleton.mp hp]
        exact hoffm q (by subst hNW; exact .tail _ (.tail _ (.tail _ hq))))
end
section
local macro_rules | `(tactic| walk_at "none here") => `(tactic| skip)
local macro_rules | `(tactic| walk_at "none here") => `(tactic| skip)
local macro_rules | `(tactic| walk_at "none here") => `(tactic| skip)
local macro_rules | `(tactic| walk_at "none here") => `(tactic| skip)
theorem rs30 : True := by
  w_top off
  exact trivial
noncomputable def tupO (ws : List Value) : Obj := { cls := .type "tuple", data := .seq ws.toArray }
/-- a list of tuples of ints: its items, their objects, what they hold -/
inductive TupsAre : List Value → List (Addr × Obj) → List (List Int) → Prop
  | nil : TupsAre [] [] []
  | snoc {vs : List Value} {tl : List (Addr × Obj)} {xs : List (List Int)} {T : Addr} {ws : List Value} {ys : List Int} : TupsAre vs tl xs → IntsAre ws ys → TupsAre (vs ++ [.ref T]) ((T, tupO ws) :: tl) (xs ++ [ys])
theorem TupsAre.len {vs tl xs} (h : TupsAre vs tl xs) : vs.length = xs.length := by
  induction h with
  | nil => rfl
  | snoc _ _ ih => rw [List.length_append, List.length_append, ih]; rfl
theorem TupsAre.at {vs tl xs} (h : TupsAre vs tl xs) {i : Nat} {ys : List Int} (hi : xs[i]? = some ys) : ∃ T ws, vs[i]? = some (.ref T) ∧ (T, tupO ws) ∈ tl ∧ IntsAre ws ys := by
  induction h with
  | nil => cases hi
  | @snoc vs tl xs T ws ys' h hw ih =>
    have hl := h.len
    by_cases hlt : i < xs.length
    · rw [List.getElem?_append_left hlt] at hi
      obtain ⟨T', ws', h1, h2, h3⟩ := ih hi
      exact ⟨T', ws', by rw [List.getElem?_append_left (by omega)]; exact h1, .tail _ h2, h3⟩
    · rw [List.getElem?_append_right (by omega)] at hi
      have hz : i - xs.length = 0 := by
        rcases Nat.eq_zero_or_pos (i - xs.length) with h | h
        · exact h
        · rw [List.getElem?_eq_none (by rw [List.length_singleton]; omega)] at hi; cases hi
      rw [hz] at hi
      obtain rfl := Option.some.inj hi
      exact ⟨T, ws, by rw [List.getElem?_append_right (by omega), hl, hz]; rfl, .head _, hw⟩
theorem ints_two {ws : List Value} {a b : Int} (h : IntsAre ws [a, b]) : ∃ t u, ws = [.int a t, .int b u] := by
  cases h with | cons _ t h => cases h with | cons _ u h => cases h; exact ⟨t, u, rfl⟩
theorem news_dup {h₀ h : Heap} {L : Addr} {nw : List (Addr × Obj)} {p : Addr × Obj} (N : News h₀ L h nw) (hp : p ∈ nw) : News h₀ L h (p :: nw) := fun q hq => by
  rcases List.mem_cons.mp hq with rfl | hq
  · exact N _ hp
  · exact N q hq
theorem c_getlist {w mean mg mb} (news : List (Addr × Obj)) (l : Addr) (vs : List Value) (n : Nat) (i : Int) (ti : Tok) (x : Value) (hm : (l, listOf (List.toArray vs) n) ∈ news) (h0 : 0 ≤ i) (hx : vs[i.toNat]? = some x) (hz : vs.length ≤ 100) :
    Con w mean mg mb 113 2 20 0 news [.ref l, .int i ti] (fun r own => own = [] ∧ r = x) := by
  have hlt := (List.getElem?_eq_some_iff.mp hx).1
  walk_at "m_con"; rename_i hlo hret
  w_strict (
  walk_at "m_enter"
  (repeat ((fail_if_success (with_reducible show wpAny _ _ (subscriptTail _ _ _ _) _ _ _)); walk_at "m_one"))
  (with_reducible rename News _ _ _ _ => kN)
  refine item_listL ⟨_, (kN _ hm).1, rfl, _, rfl⟩ h0 (by omega) hx ?_
  walk_at "m_go"
  exact hret _ [] _ _ ⟨rfl, rfl⟩ (by k_asm) (by k_asm) (fun _ h => nomatch h))
theorem c_getneg {w mean mg mb} (news : List (Addr × Obj)) (l : Addr) (vs : List Value) (ns : List Int) (n : Nat) (ti : Tok) (hm : (l, listOf (List.toArray vs) n) ∈ news) (hi : IntsAre vs ns) (h0 : 0 < ns.length) :
    Con w mean mg mb 113 2 20 0 news [.ref l, .int (-1) ti] (fun r own => own = [] ∧ ∃ t, r = .int (ns.getD (-1 + (ns.length : Int)).toNat 0) t) := by
  walk_at "m_con"; rename_i hlo hret
  w_strict (
  walk_at "m_enter"
  (repeat ((fail_if_success (with_reducible show wpAny _ _ (subscriptTail _ _ _ _) _ _ _)); walk_at "m_one"))
  (with_reducible rename News _ _ _ _ => kN)
  refine item_list_ints_neg ⟨_, (kN _ hm).1, rfl, _, rfl⟩ hi (by decide) (by omega) (by decide) (fun t => ?_)
  walk_at "m_go"
  exact hret _ [] _ _ ⟨rfl, _, rfl⟩ (by k_asm) (by k_asm) (fun _ h => nomatch h))
end
section
local macro_rules | `(tactic| walk_at "none here") => `(tactic| skip)
local macro_rules | `(tactic| walk_at "none here") => `(tactic| skip)
local macro_rules | `(tactic| walk_at "none here") => `(tactic| skip)
local macro_rules | `(tactic| walk_at "none here") => `(tactic| skip)
local macro_rules | `(tactic| walk_at "none here") => `(tactic| skip)
theorem rs31 : True := by
  w_top off
  exact trivial
section
open PySem.Spec
variable {prog : Program} {w : World} {A A' : Around} {E : Value → Shared → Prop} {s : Shared} {h₀ : Heap} {L : Addr} {m : Str → Option Value} {news : List (Addr × Obj)}
/-- a for over a list of the ledger, the ledger free -/
theorem forL {R : Result → Shared → Prop} {env : Env} {x : Str} {px : Pos} {body orelse : List Stmt} {lo : Nat} {ax : Addr} {its : Array Value} {k : Nat} (hh : A'.handled = none) (hm : (ax, listOf its k) ∈ news)
    (hlo : lo ≤ s.toks) (F : Fr h₀ env.locals s.heap m) (N : News h₀ env.locals s.heap news) (J : Nat → (Str → Option Value) → List (Addr × Obj) → Prop) (hJ : ∀ i m nw, J i m nw → (ax, listOf its k) ∈ nw) (h0 : J 0 m news)
    (step : ∀ i v m₁ news₁ h tk oI I, i < its.size → its[i]? = some v → J i m₁ news₁ → lo ≤ tk → (∀ p ∈ news₁, p.1 ≠ I) → Fr h₀ env.locals h m₁ → News h₀ env.locals h ((I, oI) :: news₁) →
      wpAny (model prog w) A' (storeName env x v) (fun _ s₂ => wpAny (model prog w) A' (execs body env) (Turn1 h₀ env.locals I oI (fun _ => True) (J (i + 1)) s (fun v s' => R (.ok (.ret v)) s') fun s' => R (.ok .next) s') (notedBy (model prog w) A' env fun e s' => R (.error e) s') s₂) (notedBy (model prog w) A' env fun e s' => R (.error e) s') { s with heap := h, toks := tk })
    (fin : ∀ h' tk m' news', lo ≤ tk → Fr h₀ env.locals h' m' → News h₀ env.locals h' news' → J its.size m' news' →
      wpAny (model prog w) A' (execs orelse env) (fun f s₃ => R (.ok f) s₃) (notedBy (model prog w) A' env fun e s' => R (.error e) s') { s with heap := h', toks := tk }) :
    wpAny (model prog w) A (pyIter (.ref ax)) (fun it s₂ => codeAny (model prog w) A' (.forLoop (.Name x px) it body orelse env) R s₂) E s := by
  have hS : ∀ i m nw, J i m nw → LCg.SrcAt h₀ ax its nw := fun i m nw j => .inr ⟨_, hJ i m nw j, rfl, _, rfl⟩
  have hne : ax ≠ s.heap.objs.size := Nat.ne_of_lt (Heap.lt_size (N _ hm).1)
  refine wpAny_pyIter_list ⟨_, (N _ hm).1, rfl, _, rfl⟩ ?_
  refine loop1 (lo := lo) (S := LCg.SrcAt h₀ ax its) (WI.list hh hne).up (Nat.ne_of_lt F.ns.lt) (next_is_new F) (fun p hp => Nat.ne_of_lt (Heap.lt_size (N p hp).1)) (hS _ _ _ h0) hlo ?_ (F.push _) (N.grown fun _ _ e => Heap.get?_push_of_some _ e) J h0 ?_ ?_
  · exact ⟨⟨_, Heap.get?_push_size _ rfl, rfl, rfl⟩, ⟨_, Heap.get?_push_of_some _ (N _ hm).1, rfl, _, rfl⟩⟩
  · rintro i v m₁ news₁ h tk oI hi hv hj _ htk hoff F1 N1
    refine wpAny_mono (step i v m₁ news₁ h tk oI _ hi hv hj htk hoff F1 N1) (fun _ s₂ h₂ => wpAny_mono h₂ (fun f s₃ h₃ => ?_) fun _ _ e => e) fun _ _ e => e
    cases f with
    | ret v => exact h₃
    | brk => exact h₃
    | cont => obtain ⟨h', tk', m', nw', e, F', N', o', _, j'⟩ := h₃; exact ⟨h', tk', m', nw', e, F', N', o', hS _ _ _ j', j'⟩
    | next => obtain ⟨h', tk', m', nw', e, F', N', o', _, j'⟩ := h₃; exact ⟨h', tk', m', nw', e, F', N', o', hS _ _ _ j', j'⟩
  · intro h' tk m' news' htk F1 N1 _ _ hj
    exact fin h' tk m' news' htk F1 N1 hj
end
section
open PySem.Spec
variable {prog : Program} {w : World} {A : Around} {E : Value → Shared → Prop} {s : Shared}
theorem item_last {value slice : Expr} {l : Addr} {vs : List Value} {u : Tok} {x : Value} {Q : Value → Shared → Prop} (hl : s.heap.IsList l vs.toArray) (hx : vs[vs.length - 1]? = some x) (h : Q x s)
    (hs : subscripted slice false (.ref l) (.int (-1) u) = operate [.ref l, .int (-1) u] (getItem (.ref l) (.int (-1) u)) := by with_unfolding_all rfl) (hg : ∀ r, letTemporaryGo value (.ref l) r = pure () := by intro _; with_unfolding_all rfl) :
    wpAny (model prog w) A (subscriptTail value slice (.ref l) (.int (-1) u)) Q E s := by
  have hlt := (List.getElem?_eq_some_iff.mp hx).1
  refine subscriptTail_builtin hl.typeIs PySem.F.slot_list_getitem.lookup (wpAny_getItem_list_neg hl (by decide) (by rw [List.size_toArray]; omega) (by decide) ?_ h) hs hg
  rw [List.size_toArray, show (-1 + (vs.length : Int)).toNat = vs.length - 1 from by omega]
  simpa using hx
end
noncomputable def sideAt (ss : List Int) (k : Nat) : Int := if k = 0 then ss.getD 5 0 else ss.getD (k - 1) 0
theorem c_getside {w mean mg mb} (news : List (Addr × Obj)) (l : Addr) (vs : List Value) (ss : List Int) (n k : Nat) (ti : Tok) (hm : (l, listOf (List.toArray vs) n) ∈ news) (hi : IntsAre vs ss) (h6 : ss.length = 6) (hk : k < 7) :
    Con w mean mg mb 113 2 20 0 news [.ref l, .int ((k : Int) - 1) ti] (fun r own => own = [] ∧ ∃ t, r = .int (sideAt ss k) t) := by
  have hv6 : vs.length = 6 := by rw [hi.length, h6]
  by_cases h0 : k = 0
  · subst h0
    have C := c_getneg (w := w) (mean := mean) (mg := mg) (mb := mb) news l vs ss n ti hm hi (by omega)
    rw [show (-1 + (ss.length : Int)).toNat = 5 from by omega] at C
    exact C
  · have hlt : k - 1 < ss.length := by omega
    obtain ⟨t, hx⟩ := hi.get (k - 1) (ss[k - 1]) (List.getElem?_eq_getElem hlt)
    have C := c_getlist (w := w) (mean := mean) (mg := mg) (mb := mb) news l vs n ((k : Int) - 1) ti (.int (ss[k - 1]) t) hm (by omega) (by rw [show ((k : Int) - 1).toNat = k - 1 from by omega]; exact hx) (by omega)
    have e : sideAt ss k = ss[k - 1] := by
      unfold sideAt
      rw [if_neg h0, List.getD_eq_getElem?_getD, List.getElem?_eq_getElem hlt]; rfl
    rw [e]
    intro dp un gd cn cs a ccd cl outer A₀ base h₀ L m s Q E k1 k2 k3 k4 k5 kK kd ku kl h
    exact C dp un gd cn cs a ccd cl outer A₀ base h₀ L m s Q E k1 k2 k3 k4 k5 kK kd ku kl fun v own h' tk' ⟨r1, r2⟩ => h v own h' tk' ⟨r1, t, r2⟩
theorem newsTup {h₀ h : Heap} {L a : Addr} {x y : Int} {t u : Tok} {r : List (Addr × Obj)} {P : Prop} (N : News h₀ L h ((a, { cls := .type "tuple", data := .seq #[.int x t, .int y u] }) :: r)) (k : ∀ a' t' u', a' = a → t' = t → u' = u → News h₀ L h ((a', tupO [.int x t', .int y u']) :: r) → P) : P := k a t u rfl rfl rfl N
theorem sideAt_mem {ss : List Int} {k : Nat} (h6 : ss.length = 6) (hk : k < 7) : sideAt ss k ∈ ss := by
  unfold sideAt
  split
  · rw [List.getD_eq_getElem?_getD, List.getElem?_eq_getElem (by omega)]; exact List.getElem_mem _
  · rw [List.getD_eq_getElem?_getD, List.getElem?_eq_getElem (by omega)]; exact List.getElem_mem _
end
section
local macro_rules | `(tactic| walk_at "none here") => `(tactic| skip)
local macro_rules | `(tactic| walk_at "none here") => `(tactic| skip)
local macro_rules | `(tactic| walk_at "none here") => `(tactic| skip)
local macro_rules | `(tactic| walk_at "none here") => `(tactic| skip)
local macro_rules | `(tactic| walk_at "none here") => `(tactic| skip)
local macro_rules | `(tactic| walk_at "none here") => `(tactic| skip)
theorem rs32 : True := by
  w_top off
  exact trivial
local macro_rules | `(tactic| mul_fits) => `(tactic| apply_assumption)
/-- the ends of the steps 2 ^ k -/
noncomputable def endsL (ss : List Int) : Nat → Int × Int
  | 0 => (1, 0)
  | i + 1 => ((endsL ss i).1 - ss.getD i 0 * (endsL ss i).2, (endsL ss i).2 + ss.getD i 0 * (endsL ss i).1)
noncomputable def endsX (ss : List Int) (n : Nat) : List (List Int) := (List.range (n + 1)).map fun k => [(endsL ss k).1, (endsL ss k).2]
theorem endsX_succ (ss : List Int) (n : Nat) : endsX ss (n + 1) = endsX ss n ++ [[(endsL ss (n + 1)).1, (endsL ss (n + 1)).2]] := by
  unfold endsX; rw [List.range_succ, List.map_append]; rfl
noncomputable def ptF (ss : List Int) (acc : Int × Int) (k : Nat) : Int × Int := ((endsL ss k).1 + sideAt ss k * acc.2, (endsL ss k).2 - sideAt ss k * acc.1)
theorem c_point {w mean mg mb} (news : List (Addr × Obj)) (lm ls : Addr) (vm vs : List Value) (ms : List Nat) (ss : List Int) (cm cs : Nat) (hm1 : (lm, listOf (List.toArray vm) cm) ∈ news) (hm2 : (ls, listOf (List.toArray vs) cs) ∈ news) (hi1 : IntsAre vm (ms.map fun k => ((k : Nat) : Int))) (hi2 : IntsAre vs ss) (hs6 : ss.length = 6) (hsb : ∀ z ∈ ss, Builtin.Int.intBits z ≤ 64) (hms : ∀ k ∈ ms, k < 7) :
    ConW w mean mg mb 174 4 60 0 news [.ref lm, .ref ls] (fun r own => ∃ T t u, r = .ref T ∧ own = [(T, tupO [.int (ms.foldl (ptF ss) (0, 0)).1 t, .int (ms.foldl (ptF ss) (0, 0)).2 u])]) := by
  walk_at "m_conW"; rename_i hlo hret
  w_strict (
  walk_at "m_enter"
  (repeat ((fail_if_success (with_reducible show wpAny _ _ (exec (Stmt.For _ _ _ _ _) _) _ _ _)); walk_at "m_one"))
  refine wpAny_For ?_ (by intro _; rfl)
  (repeat ((fail_if_success (with_reducible show wpAny _ _ (pyIter _) _ _ _)); walk_at "m_one"))
  (with_reducible rename Fr _ _ _ _ => kF)
  (with_reducible rename News _ _ _ _ => kN)
  refine newsNamed kN fun EN hEN kN => ?_
  subst hEN
  rename _ ∧ AllLt _ news => hEl
  have l1 := allLt_all hEl.2
  refine forL (lo := 0) (ax := ls) (its := vs.toArray) (k := cs) rfl (.tail _ (.tail _ hm2)) (Nat.zero_le _) kF kN
    (fun i m' nw => ∃ es tl c, nw = (EN, listOf (List.toArray es) c) :: (tl ++ news) ∧ TupsAre es tl (endsX ss i) ∧ (∀ p ∈ tl, p.1 ≠ EN) ∧ m' (Str.ofString "marks") = some (.ref lm) ∧ m' (Str.ofString "sides") = some (.ref ls) ∧ m' (Str.ofString "ends") = some (.ref EN)) ?hJ ?j0 ?step ?fin
  case hJ =>
    rintro i m' nw ⟨es, tl, c, rfl, _⟩
    exact .tail _ (List.mem_append_right _ hm2)
  case j0 =>
    exact ⟨[_], [_], 0, rfl, .snoc .nil (.cons _ _ (.cons _ _ .nil)), fun p hp => by rw [List.mem_singleton.mp hp]; exact Nat.ne_of_lt hEl.1, rfl, rfl, rfl⟩
  case step =>
    clear kF kN
    rintro i v m1 nw1 h1 tk1 oI I hi hv ⟨es, tl, c, rfl, hT, hTn, mm, msd, me⟩ htk hoff kF kN
    (repeat ((fail_if_success (with_reducible show wpAny _ _ (subscriptTail _ _ _ _) _ _ _)); walk_at "m_one"))
    obtain ⟨sd, tsd, rfl, hsd⟩ := hi2.at i v (by simpa using hv)
    have hmo : ∀ y, IntMulOk sd y := fun y => .of_left (hsb sd (List.mem_of_getElem? hsd))
    have hel : es.length = i + 1 := by rw [hT.len]; unfold endsX; rw [List.length_map, List.length_range]
    obtain ⟨T, ws, hx, hTm, hws⟩ := hT.at (i := i) (ys := [(endsL ss i).1, (endsL ss i).2]) (by unfold endsX; rw [List.getElem?_map, List.getElem?_range (by omega)]; rfl)
    obtain ⟨tx, ty, rfl⟩ := ints_two hws
    (with_reducible rename News _ _ _ _ => kN1)
    refine item_last ⟨_, (kN1 _ (.tail _ (.head _))).1, rfl, _, rfl⟩ (by rw [hel]; exact hx) ?_
    have kN2 := news_dup kN1 (.tail _ (.tail _ (List.mem_append_left _ hTm)))
    clear kN1 kN
    unfold tupO at kN2
    (repeat ((fail_if_success (with_reducible show wpAny _ _ (getMethod _ _ _) _ _ _)); walk_at "m_one"))
    (with_reducible rename News _ _ _ _ => kN3)
    refine listMethod_K kN3 (.tail _ (.tail _ (.head _))) PySem.F.slot_list_append PySem.F.type_list_append ?_
    (repeat ((fail_if_success (with_reducible show wpAny _ _ (call (.builtin _) _ _) _ _ _)); walk_at "m_one"))
    (with_reducible rename Fr _ _ _ _ => kF4)
    (with_reducible rename News _ _ _ _ => kN4)
    refine newsTup kN4 fun T2 t2 u2 hT2 ht2 hu2 kN4 => ?_
    subst hT2 ht2 hu2
    rename _ ∧ _ ∧ _ ∧ AllLt _ (tl ++ news) => hlt2
    have hv6 : vs.toArray.size = 6 := by rw [List.size_toArray, hi2.length, hs6]
    have hsz : es.toArray.size ≤ sizeLine := by rw [sizeLine_eq]; simp only [List.size_toArray]; omega
    have hTE : T ≠ EN := hTn _ hTm
    refine append_K kF4 kN4 (.tail (Nat.ne_of_gt hlt2.2.2.1) (.tail hTE (.tail (Ne.symm (hoff _ (.head _))) (.head fun p hp => ?_)))) ?_ hsz
    · rcases List.mem_append.mp hp with h | h
      · exact hTn p h
      · exact Nat.ne_of_lt (l1 p h)
    clear kF4 kN4
    intro h8 kF4 kN4
    rw [List.push_toArray] at kN4
    walk_at "m_go"
    refine ⟨_, _, _, (EN, listOf (List.toArray (es ++ [.ref T2])) (c + 1)) :: (((T2, tupO [.int ((endsL ss i).1 - sd * (endsL ss i).2) t2, .int ((endsL ss i).2 + sd * (endsL ss i).1) u2]) :: tl) ++ news), rfl, kF4, ?N, ?off, trivial, es ++ [.ref T2], (T2, tupO [.int ((endsL ss i).1 - sd * (endsL ss i).2) t2, .int ((endsL ss i).2 + sd * (endsL ss i).1) u2]) :: tl, c + 1, rfl, ?T, ?ne, mm, msd, me⟩
    case N =>
      refine cb_drop kN4 fun p hp => ?_
      rcases List.mem_cons.mp hp with rfl | hp
      · exact .tail _ (.tail _ (.head _))
      rcases List.mem_cons.mp hp with rfl | hp
      · exact .tail _ (.tail _ (.tail _ (.head _)))
      rcases List.mem_cons.mp hp with rfl | hp
      · exact .head _
      · exact .tail _ (.tail _ (.tail _ (.tail _ hp)))
    case off =>
      intro p hp
      rcases List.mem_cons.mp hp with rfl | hp
      · exact hoff (EN, listOf (List.toArray es) c) (.head _)
      rcases List.mem_cons.mp hp with rfl | hp
      · exact Nat.ne_of_gt hlt2.2.1
      · exact hoff p (.tail _ hp)
    case T =>
      have hsd' : ss.getD i 0 = sd := by rw [List.getD_eq_getElem?_getD, hsd]; rfl
      rw [endsX_succ]
      refine .snoc hT ?_
      have e1 : (endsL ss (i + 1)).1 = (endsL ss i).1 - sd * (endsL ss i).2 := by rw [← hsd']; rfl
      have e2 : (endsL ss (i + 1)).2 = (endsL ss i).2 + sd * (endsL ss i).1 := by rw [← hsd']; rfl
      rw [e1, e2]
      exact .cons _ _ (.cons _ _ .nil)
    case ne =>
      intro p hp
      rcases List.mem_cons.mp hp with rfl | hp
      · exact Nat.ne_of_gt hlt2.2.2.1
      · exact hTn p hp
  case fin =>
    clear kF kN
    rintro h1 tk1 m1 nw1 _ kF kN ⟨es, tl, c, rfl, hT, hTn, mm, msd, me⟩
    have hv6 : vs.toArray.size = 6 := by rw [List.size_toArray, hi2.length, hs6]
    rw [hv6] at hT
    have hel : es.length = 7 := by rw [hT.len]; unfold endsX; rw [List.length_map, List.length_range]
    (repeat ((fail_if_success (with_reducible show wpAny _ _ (exec (Stmt.For _ _ _ _ _) _) _ _ _)); walk_at "m_one"))
    refine wpAny_For ?_ (by intro _; rfl)
    (repeat ((fail_if_success (with_reducible show wpAny _ _ (pyIter _) _ _ _)); walk_at "m_one"))
    (with_reducible rename Fr _ _ _ _ => kF2)
    (with_reducible rename News _ _ _ _ => kN2)
    have kN3 := News.right (a := [_]) kN2
    clear kN2
    refine forL (lo := 0) (ax := lm) (its := vm.toArray) (k := cm) rfl (.tail _ (List.mem_append_right _ hm1)) (Nat.zero_le _) kF2 kN3
      (fun i m' nw => nw = (EN, listOf (List.toArray es) c) :: (tl ++ news) ∧ m' (Str.ofString "sides") = some (.ref ls) ∧ m' (Str.ofString "ends") = some (.ref EN) ∧ ∃ e te n tn, m' (Str.ofString "east") = some (.int e te) ∧ m' (Str.ofString "north") = some (.int n tn) ∧ (e, n) = (ms.take i).foldl (ptF ss) (0, 0)) ?hJ2 ?j02 ?step2 ?fin2
    case hJ2 =>
      rintro i m' nw ⟨rfl, _⟩
      exact .tail _ (List.mem_append_right _ hm1)
    case j02 =>
      exact ⟨rfl, msd, me, _, _, _, _, rfl, rfl, rfl⟩
    case step2 =>
      clear kF2 kN3
      rintro i v m2 nw2 h2 tk2 oI I hi hv ⟨rfl, msd, me, e, te, n, tn, mea, mno, hen⟩ htk hoff kF kN
      obtain ⟨k', tk, rfl, hk'⟩ := hi1.at i v (by simpa using hv)
      rw [List.getElem?_map] at hk'
      obtain ⟨k, hk, rfl⟩ := Option.map_eq_some_iff.mp hk'
      have hk7 := hms k (List.mem_of_getElem? hk)
      obtain ⟨T, ws, hx, hTm, hws⟩ := hT.at (i := k) (ys := [(endsL ss k).1, (endsL ss k).2]) (by unfold endsX; rw [List.getElem?_map, List.getElem?_range (by omega)]; rfl)
      obtain ⟨tx, ty, rfl⟩ := ints_two hws
      have kN2 := news_dup kN (.tail _ (.tail _ (List.mem_append_left _ hTm)))
      unfold tupO at kN2
      clear kN
      (repeat ((fail_if_success (with_reducible show wpAny _ _ (call (Value.ref 113) _ _) _ _ _)); walk_at "m_one"))
      have C9 := c_getlist (w := w) (mean := mean) (mg := mg) (mb := mb) ((T, tupO [.int (endsL ss k).1 tx, .int (endsL ss k).2 ty]) :: (I, oI) :: (EN, listOf (List.toArray es) c) :: (tl ++ news)) EN es c k tk (.ref T) (.tail _ (.tail _ (.head _))) (Int.natCast_nonneg _) (by rw [Int.toNat_natCast]; exact hx) (by omega)
      walk_at "m_use"
      rename_i hR9 htk9 kF kN3 _
      clear C9 kN2
      obtain ⟨e9, f9⟩ := hR9
      subst e9
      subst f9
      (simp only [List.nil_append] at kN3)
      unfold tupO at kN3
      dsimp only
      (repeat ((fail_if_success (with_reducible show wpAny _ _ (call (Value.ref 113) _ _) _ _ _)); walk_at "m_one"))
      (with_reducible rename News _ _ _ _ => kN4)
      have C9 := fun t9 => c_getside (w := w) (mean := mean) (mg := mg) (mb := mb) ((T, tupO [.int (endsL ss k).1 tx, .int (endsL ss k).2 ty]) :: (I, oI) :: (EN, listOf (List.toArray es) c) :: (tl ++ news)) ls vs ss cs k t9 (.tail _ (.tail _ (.tail _ (List.mem_append_right _ hm2)))) hi2 hs6 hk7
      walk_at "m_use"
      rename_i hR9 htk9 kF kN3 _
      clear C9 kN4
      obtain ⟨e9, t9, f9⟩ := hR9
      subst e9
      subst f9
      (simp only [List.nil_append] at kN3)
      unfold tupO at kN3
      dsimp only
      have hmo : ∀ y, IntMulOk (sideAt ss k) y := fun y => .of_left (hsb _ (sideAt_mem hs6 hk7))
      walk_at "m_go"
      (with_reducible rename Fr _ _ _ _ => kF5)
      (with_reducible rename News _ _ _ _ => kN5)
      exact ⟨_, _, _, _, rfl, kF5, cb_drop kN5 (fun p hp => .tail _ (.tail _ hp)), hoff, trivial, rfl, msd, me, _, _, _, _, rfl, rfl, by rw [List.take_add_one, hk, List.foldl_append, ← hen]; rfl⟩
    case fin2 =>
      clear kF2 kN3
      rintro h2 tk2 m2 nw2 _ kF kN ⟨rfl, msd, me, e, te, n, tn, mea, mno, hen⟩
      rw [List.size_toArray, hi1.length, List.length_map, List.take_length] at hen
      walk_at "m_go"
      (with_reducible rename News _ _ _ _ => kN9)
      rename _ ∧ AllLt _ (tl ++ news) => hl9
      rw [← hen] at hret
      refine hret _ _ _ _ ⟨_, te, tn, rfl, rfl⟩ (by k_asm) (cb_drop kN9 ?_) ?_
      · intro p hp
        rcases List.mem_append.mp hp with h | h
        · rw [List.mem_singleton.mp h]; exact .head _
        · exact .tail _ (.tail _ (List.mem_append_right _ h))
      · intro p hp q hq
        rw [List.mem_singleton.mp hp]
        exact Nat.ne_of_lt (allLt_all hl9.2 q (List.mem_append_right _ hq)))
end
section
theorem rs33 : True := by
  w_top off
  exact trivial
noncomputable def grayN (c : Nat) : Nat := c ^^^ (c / 2)
noncomputable def stepR (ss : List Int) (ms : List Nat) : Int := ms.foldl (fun a k => a * ss.getD k 0) 1
noncomputable def rotN : Nat → Int × Int → Int × Int
  | 0, p => p
  | n + 1, p => (-(rotN n p).2, (rotN n p).1)
noncomputable def stF (ss : List Int) (c : Nat) : Int × Int := rotN (dif (wordOf (c : Nat)) (wordOf ((c / 2 : Nat) : Int))) (stepR ss (marksN (grayN c)), 0)
theorem gray_xor : ∀ c : Nat, c < 64 → Builtin.bitXor (c : Int) ((c / 2 : Nat) : Int) = ((grayN c : Nat) : Int) ∧ grayN c < 64 := by decide +kernel
theorem word_wd : ∀ c : Nat, c < 64 → (wordOf (c : Int)).cps.size = 6 ∧ ∀ i : Nat, i < 6 → ((wordOf (c : Int)).cps[i]? = some (65 + i) ∨ (wordOf (c : Int)).cps[i]? = some (97 + i)) := by decide +kernel
theorem marks_lt {f k : Nat} (h : k ∈ marksN f) : k < 7 := List.mem_range.mp (List.mem_filter.mp h).1
theorem marks_lt6 {f k : Nat} (hf : f < 64) (h : k ∈ marksN f) : k < 6 := by
  have h1 := List.mem_filter.mp h
  have h2 := List.mem_range.mp h1.1
  rcases Nat.lt_or_ge k 6 with h3 | h3
  · exact h3
  · have h4 := h1.2
    rw [Nat.testBit_lt_two_pow (Nat.lt_of_lt_of_le (show f < 2 ^ 6 from hf) (Nat.pow_le_pow_right (Nat.succ_pos 1) h3))] at h4
    cases h4
end
section
local macro_rules | `(tactic| walk_at "none here") => `(tactic| skip)
theorem rs34 : True := by
  w_top off
  exact trivial
local macro_rules | `(tactic| mul_fits) => `(tactic| apply_assumption)
theorem c_step {w mean mg mb} (news : List (Addr × Obj)) (c : Nat) (tc : Tok) (ls : Addr) (vs : List Value) (ss : List Int) (cs : Nat) (hc : c < 64) (hm2 : (ls, listOf (List.toArray vs) cs) ∈ news) (hi2 : IntsAre vs ss) (hs6 : ss.length = 6) (hsb : ∀ z ∈ ss, Builtin.Int.intBits z ≤ 64) :
    ConW w mean mg mb 186 12 140 480 news [.int (c : Nat) tc, .ref ls] (fun r own => ∃ T t u, r = .ref T ∧ own = [(T, tupO [.int (stF ss c).1 t, .int (stF ss c).2 u])]) := by
  have hg := gray_xor c hc
  have hh : Int.fdiv (c : Int) (2 ^ (1 : Int).toNat) = ((c / 2 : Nat) : Int) := by
    rw [Int.fdiv_eq_ediv_of_nonneg _ (by decide)]; rfl
  walk_at "m_conW"; rename_i hlo hret
  w_strict (
  walk_at "m_enter"
  (repeat ((fail_if_success (with_reducible show wpAny _ _ (call (Value.ref 85) _ _) _ _ _)); walk_at "m_one"))
  have C9 := fun nw t u => c_rshift (w := w) (mean := mean) (mg := mg) (mb := mb) nw (c : Nat) 1 t u (by decide) (by decide)
  walk_at "m_use"
  rename_i hR9 htk9 kF kN _
  clear C9
  obtain ⟨e9, t9, f9⟩ := hR9
  subst e9
  subst f9
  (simp only [List.nil_append] at kN)
  dsimp only at htk9 ⊢
  rw [hh]
  (repeat ((fail_if_success (with_reducible show wpAny _ _ (exec (Stmt.For _ _ _ _ _) _) _ _ _)); walk_at "m_one"))
  refine wpAny_For ?_ (by intro _; rfl)
  (repeat ((fail_if_success (with_reducible show wpAny _ _ (call (Value.ref 99) _ _) _ _ _)); walk_at "m_one"))
  have C9 := fun nw t u => c_xor (w := w) (mean := mean) (mg := mg) (mb := mb) nw (c : Nat) ((c / 2 : Nat) : Int) t u
  walk_at "m_use"
  rename_i hR9 htk9' kF1 kN1 _
  clear C9
  obtain ⟨e9, t9, f9⟩ := hR9
  subst e9
  subst f9
  (simp only [List.nil_append] at kN1)
  dsimp only at htk9' ⊢
  rw [hg.1]
  (repeat ((fail_if_success (with_reducible show wpAny _ _ (call (Value.ref 153) _ _) _ _ _)); walk_at "m_one"))
  have C9 := fun nw t => c_places (w := w) (mean := mean) (mg := mg) (mb := mb) nw (grayN c) t (Nat.lt_trans hg.2 (by decide))
  walk_at "m_useW"
  rename_i hR9 htk9 kF kN hpn
  clear C9
  obtain ⟨lp, vp, cp, e9, f9, hip⟩ := hR9
  subst e9
  subst f9
  dsimp only
  have kN2 : News _ _ _ ((lp, listOf (List.toArray vp) cp) :: news) := cb_drop kN fun p hp => by
    rcases List.mem_cons.mp hp with rfl | hp
    · exact .head _
    · exact .tail _ (.tail _ hp)
  refine forL (lo := 0) (ax := lp) (its := vp.toArray) (k := cp) rfl (.head _) (Nat.zero_le _) kF kN2
    (fun i m' nw => nw = (lp, listOf (List.toArray vp) cp) :: news ∧ m' (Str.ofString "sides") = some (.ref ls) ∧ m' (Str.ofString "count") = some (.int (c : Nat) tc) ∧ (∃ t, m' (Str.ofString "half") = some (.int ((c / 2 : Nat) : Int) t)) ∧ (∃ t, m' (Str.ofString "up") = some (.int 0 t)) ∧ ∃ v t, m' (Str.ofString "right") = some (.int v t) ∧ v = stepR ss ((marksN (grayN c)).take i)) ?hJ ?j0 ?step ?fin
  case hJ =>
    rintro i m' nw ⟨rfl, _⟩
    exact .head _
  case j0 => exact ⟨rfl, rfl, rfl, ⟨_, rfl⟩, ⟨_, rfl⟩, _, _, rfl, rfl⟩
  case step =>
    clear kF kN kN2
    rintro i v m2 nw2 h2 tk2 oI I hi hv ⟨rfl, msd, mc, ⟨th, mh⟩, ⟨tu, mu⟩, r, tr, mr, hr⟩ htk hoff kF kN
    obtain ⟨k', tk, rfl, hk'⟩ := hip.at i v (by simpa using hv)
    rw [List.getElem?_map] at hk'
    obtain ⟨k, hk, rfl⟩ := Option.map_eq_some_iff.mp hk'
    have hk6 := marks_lt6 hg.2 (List.mem_of_getElem? hk)
    have hlt : k < ss.length := by omega
    obtain ⟨ts, hx⟩ := hi2.get k (ss[k]) (List.getElem?_eq_getElem hlt)
    have hvl : vs.length = 6 := by rw [hi2.length, hs6]
    have hmo : ∀ y, IntMulOk y (ss[k]) := fun y => .of_right (hsb _ (List.getElem_mem hlt))
    (repeat ((fail_if_success (with_reducible show wpAny _ _ (call (Value.ref 113) _ _) _ _ _)); walk_at "m_one"))
    have C9 := fun t => c_getlist (w := w) (mean := mean) (mg := mg) (mb := mb) ((I, oI) :: (lp, listOf (List.toArray vp) cp) :: news) ls vs cs k t (.int (ss[k]) ts) (.tail _ (.tail _ hm2)) (Int.natCast_nonneg _) (by rw [Int.toNat_natCast]; exact hx) (by omega)
    walk_at "m_use"
    rename_i hR9 htk9 kF3 kN3 _
    clear C9
    obtain ⟨e9, f9⟩ := hR9
    subst e9
    subst f9
    (simp only [List.nil_append] at kN3)
    dsimp only
    walk_at "m_go"
    (with_reducible rename Fr _ _ _ _ => kF5)
    (with_reducible rename News _ _ _ _ => kN5)
    exact ⟨_, _, _, _, rfl, kF5, kN5, hoff, trivial, rfl, msd, mc, ⟨th, mh⟩, ⟨tu, mu⟩, _, _, rfl, by rw [List.take_add_one, hk]; unfold stepR at hr ⊢; rw [List.foldl_append, ← hr]; show r * ss[k] = r * ss.getD k 0; rw [List.getD_eq_getElem?_getD, List.getElem?_eq_getElem hlt]; rfl⟩
  case fin =>
    clear kF kN kN2
    rintro h2 tk2 m2 nw2 _ kF kN ⟨rfl, msd, mc, ⟨th, mh⟩, ⟨tu, mu⟩, r, tr, mr, hr⟩
    rw [List.size_toArray, hip.length, List.length_map, List.take_length] at hr
    (repeat ((fail_if_success (with_reducible show wpAny _ _ (exec (Stmt.For _ _ _ _ _) _) _ _ _)); walk_at "m_one"))
    refine wpAny_For ?_ (by intro _; rfl)
    (repeat ((fail_if_success (with_reducible show wpAny _ _ (call (Value.ref 179) _ _) _ _ _)); walk_at "m_one"))
    have C9 := fun nw t => c_word (w := w) (mean := mean) (mg := mg) (mb := mb) nw (c : Nat) t (Int.natCast_nonneg _) (by omega)
    walk_at "m_use"
    rename_i hR9 htk9 kF3 kN3 _
    clear C9
    obtain ⟨e9, t9, f9⟩ := hR9
    subst e9
    subst f9
    (simp only [List.nil_append] at kN3)
    dsimp only
    (repeat ((fail_if_success (with_reducible show wpAny _ _ (call (Value.ref 179) _ _) _ _ _)); walk_at "m_one"))
    have C9 := fun nw t => c_word (w := w) (mean := mean) (mg := mg) (mb := mb) nw ((c / 2 : Nat) : Int) t (Int.natCast_nonneg _) (by omega)
    walk_at "m_use"
    rename_i hR9 htk9 kF3 kN3 _
    clear C9
    obtain ⟨e9, t9, f9⟩ := hR9
    subst e9
    subst f9
    (simp only [List.nil_append] at kN3)
    dsimp only
    (repeat ((fail_if_success (with_reducible show wpAny _ _ (call (Value.ref 134) _ _) _ _ _)); walk_at "m_one"))
    have C9 := fun nw t u t' => c_lev (w := w) (mean := mean) (mg := mg) (mb := mb) nw (wordOf (c : Nat)) (wordOf ((c / 2 : Nat) : Int)) t u t' (word_wd c hc) (word_wd (c / 2) (by omega))
    walk_at "m_use"
    rename_i hR9 htk9 kF3 kN3 _
    clear C9
    obtain ⟨e9, t9, f9⟩ := hR9
    subst e9
    subst f9
    (simp only [List.nil_append] at kN3)
    dsimp only
    have hd6 : dif (wordOf (c : Nat)) (wordOf ((c / 2 : Nat) : Int)) ≤ 6 := dS_le _ (dAt_le _ _) 0 6
    have hST : stF ss c = rotN (dif (wordOf (c : Nat)) (wordOf ((c / 2 : Nat) : Int))) (stepR ss (marksN (grayN c)), 0) := rfl
    generalize dif (wordOf (c : Nat)) (wordOf ((c / 2 : Nat) : Int)) = n at hd6 hST ⊢
    (repeat ((fail_if_success (with_reducible show wpAny _ _ (pyIter _) _ _ _)); walk_at "m_one"))
    (with_reducible rename Fr _ _ _ _ => kF4)
    (with_reducible rename News _ _ _ _ => kN4)
    (with_reducible rename IsRange _ _ _ _ _ _ _ _ => rgX)
    refine forR (n := n) (lo := 0) rfl rfl rgX rfl (by omega) (Nat.zero_le _) kF4 kN4
      (fun i m' nw => nw = (lp, listOf (List.toArray vp) cp) :: news ∧ ∃ r tr u tu, m' (Str.ofString "right") = some (.int r tr) ∧ m' (Str.ofString "up") = some (.int u tu) ∧ (r, u) = rotN i (stepR ss (marksN (grayN c)), 0)) ?j02 ?step2 ?fin2
    case j02 => exact ⟨rfl, _, _, _, _, mr, mu, by rw [hr]; rfl⟩
    case step2 =>
      clear kF4 kN4
      rintro i ti m3 nw3 h3 tk3 oI I hi ⟨rfl, r, tr, u, tu, mr, mu, hru⟩ htk hoff kF kN
      walk_at "m_go"
      (with_reducible rename Fr _ _ _ _ => kF5)
      (with_reducible rename News _ _ _ _ => kN5)
      exact ⟨_, _, _, _, rfl, kF5, News.right (a := [_]) kN5, hoff, trivial, rfl, _, _, _, _, rfl, rfl, by rw [rotN, ← hru]⟩
    case fin2 =>
      clear kF4 kN4
      rintro h3 tk3 m3 nw3 _ kF kN ⟨rfl, r, tr, u, tu, mr, mu, hru⟩
      rw [← hST] at hru
      walk_at "m_go"
      (with_reducible rename News _ _ _ _ => kN9)
      rename _ ∧ AllLt _ news => hl9
      rw [← hru] at hret
      refine hret _ _ _ _ ⟨_, tr, tu, rfl, rfl⟩ (by k_asm) (cb_drop kN9 ?_) ?_
      · intro p hp
        rcases List.mem_append.mp hp with h | h
        · rw [List.mem_singleton.mp h]; exact .head _
        · exact .tail _ (.tail _ h)
      · intro p hp q hq
        rw [List.mem_singleton.mp hp]
        exact Nat.ne_of_lt (allLt_all hl9.2 q hq))
end
section
local macro_rules | `(tactic| walk_at "none here") => `(tactic| skip)
local macro_rules | `(tactic| walk_at "none here") => `(tactic| skip)
local macro_rules | `(tactic| walk_at "none here") => `(tactic| skip)
theorem rs35 : True := by
  w_top off
  exact trivial
theorem newsVals {h₀ h : Heap} {L a : Addr} {vs : List Value} {c : Nat} {r : List (Addr × Obj)} {P : Prop} (N : News h₀ L h ((a, listOf (List.toArray vs) c) :: r)) (k : ∀ vs', vs' = vs → News h₀ L h ((a, listOf (List.toArray vs') c) :: r) → P) : P := k vs rfl N
section
open PySem.Spec
variable {prog : Program} {w : World} {A : Around} {E : Value → Shared → Prop} {s : Shared} {h₀ : Heap} {L : Addr} {m : Str → Option Value} {news : List (Addr × Obj)}
theorem add_named {l b : Addr} {vs ws : List Value} {n1 n2 : Nat} {Q : Value → Shared → Prop} (F : Fr h₀ L s.heap m) (N : News h₀ L s.heap news) (h1 : (l, listOf vs.toArray n1) ∈ news) (h2 : (b, listOf ws.toArray n2) ∈ news) (hsz : vs.length + ws.length ≤ sizeLine)
    (h : ∀ D h', Fr h₀ L h' m → News h₀ L h' ((D, listOf (List.toArray (vs ++ ws)) 0) :: news) → (∀ p ∈ news, p.1 < D) → Q (.ref D) { s with heap := h' }) : wpAny (model prog w) A (binaryOp .Add (.ref l) (.ref b)) Q E s :=
  add_lists (hsz := hsz) F N ⟨_, (N _ h1).1, rfl, _, rfl⟩ ⟨_, (N _ h2).1, rfl, _, rfl⟩ fun h' F' N' => h _ h' F' N' fun p hp => Heap.lt_size (N p hp).1
end
/-- the octets of n, the first k + 1 of them from the end -/
noncomputable def octs (n : Nat) : Nat → List Int
  | 0 => [((n % 64 : Nat) : Int)]
  | k + 1 => ((64 + n / 64 ^ (k + 1) % 64 : Nat) : Int) :: octs n k
theorem octs_len (n : Nat) : ∀ k, (octs n k).length = k + 1
  | 0 => rfl
  | k + 1 => by unfold octs; rw [List.length_cons, octs_len n k]
theorem c_octets {w mean mg mb} (news : List (Addr × Obj)) (n : Nat) (tn : Tok) (hn : n < 2 ^ 42) :
    ConW w mean mg mb 141 2 40 0 news [.int (n : Nat) tn] (fun r own => ∃ l vs c k, r = .ref l ∧ own = [(l, listOf (List.toArray vs) c)] ∧ IntsAre vs (octs n k) ∧ k < 7 ∧ n / 64 ^ k < 64) := by
  walk_at "m_conW"; rename_i hlo hret
  w_strict (
  walk_at "m_enter"
  (repeat ((fail_if_success (with_reducible show wpAny _ _ (exec (Stmt.While _ _ _ _) _) _ _ _)); walk_at "m_one"))
  refine wpAny_While ?_
  (with_reducible rename Fr _ _ _ _ => kF)
  (with_reducible rename News _ _ _ _ => kN)
  refine newsNamed kN fun D0 hD0 kN => ?_
  subst hD0
  rename ∀ (p : Addr × Obj), p ∈ news → _ => l1
  refine whileR (lo := 0) (Nat.zero_le _) kF kN (fun q m' nw => ∃ D vs c k, q = 8 - k ∧ nw = (D, listOf (List.toArray vs) c) :: news ∧ (∀ p ∈ news, p.1 ≠ D) ∧ IntsAre vs (octs n k) ∧ k < 7 ∧ m' (Str.ofString "digits") = some (.ref D) ∧ ∃ v t, m' (Str.ofString "number") = some (.int v t) ∧ v = ((n / 64 ^ k : Nat) : Int)) 8 ?j0 ?turn
  case j0 =>
    refine ⟨D0, _, _, 0, rfl, rfl, fun p hp => Nat.ne_of_lt (l1 p hp), ?_, by decide, rfl, _, _, rfl, by rw [Nat.pow_zero, Nat.div_one]⟩
    rw [Int.fmod_eq_emod_of_nonneg _ (by decide)]
    exact .cons _ _ .nil
  case turn =>
    clear kF kN
    rintro q m1 nw h tk ⟨D, vs, c, k, hq, rfl, hDn, hvs, hk, md, v, tv, mn, hv⟩ _ kF kN
    (repeat ((fail_if_success (with_reducible show wpAny _ _ (execs _ _) _ _ _)); walk_at "m_one"))
    · have hgt : (63 : Int) < v := by omega
      (repeat ((fail_if_success (with_reducible show wpAny _ _ (binaryOp Operator.Add (Value.ref _) _) _ _ _)); walk_at "m_one"))
      (with_reducible rename Fr _ _ _ _ => kF3)
      (with_reducible rename News _ _ _ _ => kN3)
      rename _ ∧ AllLt _ news => hlx
      have hvl := hvs.length
      rw [octs_len] at hvl
      refine' add_named (vs := [_]) kF3 kN3 (.head _) (.tail _ (.head _)) ?sz fun D2 h8 kF4 kN4 hlt2 => ?_
      case sz => rw [sizeLine_eq, hvl, List.length_singleton]; omega
      clear kF3 kN3
      refine newsVals kN4 fun W hW kN4 => ?_
      walk_at "m_go"
      dsimp only [TurnW]
      (with_reducible rename Fr _ _ _ _ => kF5)
      (with_reducible rename News _ _ _ _ => kN5)
      have hk6 : k < 6 := by
        rcases Nat.lt_or_ge k 6 with h | h
        · exact h
        · exfalso
          have e6 : k = 6 := by omega
          have : n / 64 ^ 6 ≤ 63 := Nat.le_of_lt_succ (Nat.div_lt_of_lt_mul (by rw [show (64 : Nat) ^ 6 * Nat.succ 63 = 2 ^ 42 from by decide]; exact hn))
          rw [e6] at hv
          omega
      have hdv : Int.fdiv v 64 = ((n / 64 ^ (k + 1) : Nat) : Int) := by
        rw [hv, Int.fdiv_eq_ediv_of_nonneg _ (by decide), Nat.pow_succ, ← Nat.div_div_eq_div_mul]; rfl
      refine ⟨_, _, _, _, q - 1, by omega, rfl, kF5, cb_drop (news := (D2, listOf (List.toArray W) 0) :: news) kN5 ?sub, D2, W, 0, k + 1, by omega, rfl, fun p hp => Nat.ne_of_lt (hlt2 p (List.mem_cons_of_mem _ (List.mem_cons_of_mem _ hp))), ?dgs, by omega, rfl, _, _, rfl, hdv⟩
      case sub =>
        intro p hp
        rcases List.mem_cons.mp hp with rfl | hp
        · exact .head _
        · exact .tail _ (.tail _ (.tail _ hp))
      case dgs =>
        rw [hW]
        rw [hdv, Int.fmod_eq_emod_of_nonneg _ (by decide)]
        exact .cons _ _ hvs
    · have hle : v ≤ 63 := by omega
      walk_at "m_go"
      (with_reducible rename News _ _ _ _ => kN9)
      refine hret _ _ _ _ ⟨_, vs, c, k, rfl, rfl, hvs, hk, by omega⟩ (by k_asm) (by k_asm) ?_
      intro p hp q hq
      rw [List.mem_singleton.mp hp]
      exact hDn q hq)
end
section
local macro_rules | `(tactic| walk_at "none here") => `(tactic| skip)
local macro_rules | `(tactic| walk_at "none here") => `(tactic| skip)
local macro_rules | `(tactic| walk_at "none here") => `(tactic| skip)
local macro_rules | `(tactic| walk_at "none here") => `(tactic| skip)
theorem rs36 : True := by
  w_top off
  exact trivial
noncomputable def ItO (o : Obj) (ax : Addr) (i : Nat) : Prop := o.cls = .type "list_iterator" ∧ o.data = .fields #[.ref ax, .int (i : Nat) 0]
section
open PySem.Spec
variable {prog : Program} {w : World} {A : Around} {E : Value → Shared → Prop} {s : Shared} {h₀ : Heap} {L : Addr} {m : Str → Option Value} {news : List (Addr × Obj)}
/-- next(it), the iterator of a list at the head of the ledger -/
theorem call_next {I ax : Addr} {oI : Obj} {i k : Nat} {its : Array Value} {x : Value} {Q : Value → Shared → Prop} (F : Fr h₀ L s.heap m) (N : News h₀ L s.heap ((I, oI) :: news)) (off : ∀ p ∈ news, p.1 ≠ I) (hI : ItO oI ax i) (hm : (ax, listOf its k) ∈ news) (hx : its[i]? = some x)
    (h : ∀ h' o', ItO o' ax (i + 1) → Fr h₀ L h' m → News h₀ L h' ((I, o') :: news) → Q x { s with heap := h' }) : wpAny (model prog w) A (call (.builtin "next") [.ref I]) Q E s := by
  have e0 := N _ (.head _)
  have el := N _ (.tail _ hm)
  have hit : s.heap.IsListIter I ax i := ⟨oI, e0.1, hI.1, hI.2⟩
  refine call_function_entry (by decide +kernel) (by decide +kernel) kdk_entry_next (kdk_args_next _) ?_
  unfold Builtin.«next»
  refine wpAny_bind (m := someArgs "next" 1 2 _) (wpAny_of_eq (a := [Value.ref I]) (by first | rfl | kernel_rfl!) ?_)
  dsimp only
  refine wpAny_bind (wpAny_specialOf (name := Str.ofString "__next__") hit.typeIs slot_listiter_next.lookup ?_)
  refine wpAny_ite_split (fun hab => absurd hab (by decide)) (fun _ => ?_)
  refine wpAny_bind (wpAny_callSpecial?_slot (name := Str.ofString "__next__") hit.typeIs slot_listiter_next (wpAny_call_entry slot_listiter_next hit.typeIs entry_listiter_next ?_ (args_listiter_next _)))
  show wpAny _ _ (field (.ref I) 0 >>= _) _ _ s
  refine wpAny_bind (wpAny_field e0.1 hI.2 (x := .ref ax) rfl ?_)
  show wpAny _ _ (if (Value.ref ax == Value.none) = true then _ else _) _ _ s
  rw [if_neg (show ¬ ((Value.ref ax == Value.none) = true) from Bool.false_ne_true)]
  show wpAny _ _ (field (.ref I) 1 >>= _) _ _ s
  refine wpAny_bind (wpAny_field e0.1 hI.2 (x := .int i 0) rfl ?_)
  show wpAny _ _ (seqItems? (.ref ax) >>= _) _ _ s
  refine wpAny_bind (wpAny_seqItems (n := k) el.1 rfl ?_)
  simp only [Int.toNat_natCast, hx]
  refine wpAny_bind (wpAny_setField e0.1 hI.2 (by simp) (wpAny_pure ⟨x, rfl, wpAny_pure ⟨_, rfl, ?_⟩⟩))
  have ho' : (s.heap.update I (Obj.mapFields (·.setIfInBounds 1 (rawInt ((i : Int) + 1))))).get? I = some _ := Heap.get?_update_self _ e0.1 (Obj.isFreed_of_fields (Obj.data_mapFields hI.2 _))
  exact h _ _ ⟨(Obj.cls_mapFields ..).trans hI.1, by rw [Obj.data_mapFields hI.2]; simp [rawInt]⟩ (F.change (Heap.SameBut.update ..) e0.2.1 e0.2.2) (news_set (pre := []) N (fun _ h => nomatch h) off (Heap.SameBut.update ..) ho')
end
end
section
theorem rs37 : True := by
  w_top off
  exact trivial
noncomputable def dgt (n k j : Nat) : Nat := if j < k then 64 + n / 64 ^ (k - j) % 64 else n % 64
theorem octs_at (n : Nat) : ∀ k j, j ≤ k → (octs n k)[j]? = some ((dgt n k j : Nat) : Int)
  | 0, 0, _ => rfl
  | k + 1, 0, _ => by unfold octs dgt; rw [if_pos (Nat.succ_pos k)]; rfl
  | k + 1, j + 1, h => by
    unfold octs
    rw [List.getElem?_cons_succ, octs_at n k j (Nat.le_of_succ_le_succ h)]
    unfold dgt
    by_cases hj : j < k
    · rw [if_pos hj, if_pos (Nat.succ_lt_succ hj), Nat.succ_sub_succ]
    · rw [if_neg hj, if_neg (fun h => hj (Nat.lt_of_succ_lt_succ h))]
theorem and63 : ∀ d : Nat, d < 128 → Builtin.bitAnd (d : Int) 63 = ((d % 64 : Nat) : Int) := by decide +kernel
theorem and64 : ∀ d : Nat, d < 128 → (Builtin.bitAnd (d : Int) 64 ≠ 0 ↔ 64 ≤ d) := by decide +kernel
theorem dgt_lt (n k j : Nat) : dgt n k j < 128 := by unfold dgt; split <;> omega
theorem dgt_mod (n k j : Nat) (h : j ≤ k) : dgt n k j % 64 = n / 64 ^ (k - j) % 64 := by
  unfold dgt
  split
  · omega
  · have : k - j = 0 := by omega
    rw [this, Nat.pow_zero, Nat.div_one, Nat.mod_mod]
theorem dgt_top (n k j : Nat) : 64 ≤ dgt n k j ↔ j < k := by unfold dgt; split <;> omega
theorem and_zero (v d : Nat) (hd : d < 64) : (v * 64) &&& d = 0 := by
  apply Nat.eq_of_testBit_eq
  intro i
  rw [Nat.testBit_and, Nat.zero_testBit, show v * 64 = v * 2 ^ 6 from rfl, Nat.testBit_mul_two_pow]
  by_cases h : 6 ≤ i
  · rw [Nat.testBit_lt_two_pow (Nat.lt_of_lt_of_le (show d < 2 ^ 6 from hd) (Nat.pow_le_pow_right (Nat.succ_pos 1) h)), Bool.and_false]
  · simp [h]
theorem or_add (v d : Nat) (hd : d < 64) : Builtin.bitOr ((v * 64 : Nat) : Int) (d : Int) = ((v * 64 + d : Nat) : Int) := by
  have e : Builtin.bitAnd ((v * 64 : Nat) : Int) (d : Int) = 0 := by
    unfold Builtin.bitAnd
    rw [decide_eq_true (Int.natCast_nonneg _), decide_eq_true (Int.natCast_nonneg _)]
    show ((((v * 64 : Nat) : Int).toNat &&& (d : Int).toNat : Nat) : Int) = 0
    rw [Int.toNat_natCast, Int.toNat_natCast, and_zero v d hd]; rfl
  rw [bitOr_and, e]
  omega
theorem div_step (n k j : Nat) (h : j < k) : n / 64 ^ (k - j) * 64 + n / 64 ^ (k - (j + 1)) % 64 = n / 64 ^ (k - (j + 1)) := by
  have e : k - j = (k - (j + 1)) + 1 := by omega
  rw [e, Nat.pow_succ, ← Nat.div_div_eq_div_mul]
  omega
end
section
local macro_rules | `(tactic| walk_at "none here") => `(tactic| skip)
theorem rs38 : True := by
  w_top off
  exact trivial
/-- the contract of `_parse_varint`: the iterator in the ledger goes on -/
noncomputable def ConV (w : World) (mean : ExcName → Option Value) (mg mb : Str → Option Value) (I ax : Addr) (news : List (Addr × Obj)) (p n k : Nat) : Prop :=
  ∀ (oI : Obj) (dp un : Nat) (gd : Option (List Code)) (cn : Str) (cs : Scope) (a : Addr) (ccd : Value) (cl : List (Str × Addr)) (outer : List Env) (A₀ : Around) (base h₀ : Heap) (L : Addr) (m : Str → Option Value) (s : Shared) (Q E : Value → Shared → Prop),
    Below A₀ base outer h₀ → Fr h₀ L s.heap m → (KF w).In h₀ → News h₀ L s.heap ((I, oI) :: news) → Top pg lo' mean mg mb h₀ → cs.kind = .function → dp + 4 < recursionLimit → un + 60 < cLine → ItO oI ax p →
      (∀ t o' h' tk', ItO o' ax (p + k + 1) → Fr h₀ L h' m → News h₀ L h' ((I, o') :: news) → Q (.int (n : Nat) t) { s with heap := h', toks := tk' }) →
      wpAny (model prg w) (ktrTop dp un gd cn cs L a ccd cl outer) (call (.ref 29) [.ref I]) Q E s
theorem c_varint {w mean mg mb} (I ax : Addr) (news : List (Addr × Obj)) (vs : List Value) (ns : List Int) (c p n k : Nat) (hm : (ax, listOf (List.toArray vs) c) ∈ news) (hi : IntsAre vs ns) (off : ∀ q ∈ news, q.1 ≠ I) (hd : ∀ j, j ≤ k → ns[p + j]? = (octs n k)[j]?) (hk : k < 7) (hn : n / 64 ^ k < 64) (hn42 : n < 2 ^ 42) :
    ConV w mean mg mb I ax news p n k := by
  have at' : ∀ j, j ≤ k → ∃ t, vs[p + j]? = some (.int ((dgt n k j : Nat) : Int) t) := fun j hj => hi.get (p + j) _ (by rw [hd j hj, octs_at n k j hj])
  dsimp only [ConV, KF, prg, pg, lo']
  intro oI
  k_fill
  intros
  rename_i hIt hret
  w_strict (
  walk_at "m_enter"
  (repeat ((fail_if_success (with_reducible show wpAny _ _ (call (.builtin "next") _ _) _ _ _)); walk_at "m_one"))
  (with_reducible rename Fr _ _ _ _ => kF)
  (with_reducible rename News _ _ _ _ => kN)
  obtain ⟨t0, hx0⟩ := at' 0 (Nat.zero_le _)
  refine call_next kF kN off hIt hm (by simpa using hx0) fun h1 o1 hIt1 kF1 kN1 => ?_
  clear kF kN
  (repeat ((fail_if_success (with_reducible show wpAny _ _ (exec (Stmt.While _ _ _ _) _) _ _ _)); walk_at "m_one"))
  refine wpAny_While ?_
  (with_reducible rename Fr _ _ _ _ => kF)
  (with_reducible rename News _ _ _ _ => kN)
  refine whileR (lo := 0) (Nat.zero_le _) kF kN (fun q m' nw => ∃ o j, q = 7 - j ∧ j ≤ k ∧ nw = (I, o) :: news ∧ ItO o ax (p + j + 1) ∧ m' (Str.ofString "iterator") = some (.ref I) ∧ (∃ t, m' (Str.ofString "b") = some (.int ((dgt n k j : Nat) : Int) t)) ∧ ∃ v t, m' (Str.ofString "val") = some (.int v t) ∧ v = ((n / 64 ^ (k - j) : Nat) : Int)) 7 ?j0 ?turn
  case j0 => exact ⟨o1, 0, rfl, Nat.zero_le _, rfl, hIt1, rfl, ⟨_, rfl⟩, _, _, rfl, by rw [and63 _ (dgt_lt n k 0), dgt_mod n k 0 (Nat.zero_le _), Nat.sub_zero, Nat.mod_eq_of_lt hn]⟩
  case turn =>
    clear kF kN
    rintro q m1 nw h tk ⟨o, j, hq, hj, rfl, hIt2, mi, ⟨tb, mb'⟩, v, tv, mv, hv⟩ _ kF kN
    have h64 := and64 _ (dgt_lt n k j)
    rw [dgt_top] at h64
    (repeat ((fail_if_success (with_reducible show wpAny _ _ (execs _ _) _ _ _)); walk_at "m_one"))
    · have hjk : j < k := h64.mp ‹_›
      (repeat ((fail_if_success (with_reducible first | show wpAny _ _ (call (.builtin "next") _ _) _ _ _ | show wpAny _ _ (inplaceOp _ _ _) _ _ _)); walk_at "m_one"))
      have hvle : n / 64 ^ (k - j) ≤ n := Nat.div_le_self _ _
      refine ilshift_int_small (by decide) (by decide) (by rw [hv, Int.natAbs_natCast]; omega) ?_
      (repeat ((fail_if_success (with_reducible show wpAny _ _ (call (.builtin "next") _ _) _ _ _)); walk_at "m_one"))
      (with_reducible rename Fr _ _ _ _ => kF2)
      (with_reducible rename News _ _ _ _ => kN2)
      obtain ⟨t1, hx1⟩ := at' (j + 1) hjk
      refine call_next kF2 kN2 off hIt2 hm (by rw [Nat.add_assoc]; simpa using hx1) fun h3 o3 hIt3 kF3 kN3 => ?_
      clear kF2 kN2
      walk_at "m_go"
      dsimp only [TurnW]
      (with_reducible rename Fr _ _ _ _ => kF5)
      (with_reducible rename News _ _ _ _ => kN5)
      refine ⟨_, _, _, _, q - 1, by omega, rfl, kF5, kN5, o3, j + 1, by omega, hjk, rfl, hIt3, mi, ⟨_, rfl⟩, _, _, rfl, ?_⟩
      have e1 : v * 2 ^ Int.toNat 6 = ((n / 64 ^ (k - j) * 64 : Nat) : Int) := by rw [hv]; rfl
      rw [e1, and63 _ (dgt_lt n k (j + 1)), dgt_mod n k (j + 1) hjk, or_add _ _ (Nat.mod_lt _ (by decide)), div_step n k j hjk]
    · have hjk : ¬ j < k := fun h => absurd ‹Builtin.bitAnd _ _ = 0› (h64.mpr h)
      have hj' : j = k := by omega
      subst hj'
      rw [Nat.sub_self, Nat.pow_zero, Nat.div_one] at hv
      subst hv
      walk1
      (repeat ((fail_if_success (with_reducible show wpAny _ _ (eval (Expr.Name _ _) _) _ _ _)); walk_at "m_one"))
      walk1
      dsimp only
      walk1
      exact hret _ o _ _ hIt2 (by k_asm) (by k_asm))
end
section
local macro_rules | `(tactic| walk_at "none here") => `(tactic| skip)
local macro_rules | `(tactic| walk_at "none here") => `(tactic| skip)
theorem rs39 : True := by
  w_top off
  exact trivial
theorem ints_kf {vs : List Value} {ns : List Int} (h : IntsAre vs ns) : kf_ints vs = true := by
  induction h with
  | nil => rfl
  | cons n t _ ih => exact ih
theorem rem_list {vs : List Value} {ns : List Int} (h : IntsAre vs ns) (k : Int) (hk : ns.any (· == k) = true) : ∃ j q, kf_at k vs = some j ∧ ki_delL vs j = some q ∧ IntsAre q (ns.erase k) := by
  induction h with
  | nil => cases hk
  | @cons n t vs ns h ih =>
    by_cases hn : n = k
    · subst hn
      refine ⟨0, vs, ?_, rfl, ?_⟩
      · unfold kf_at
        have : isInt n (.int n t) = true := by simp [isInt]
        rw [this]; rfl
      · rw [List.erase_cons_head]; exact h
    · rw [List.any_cons, show (n == k) = false from by simpa using hn, Bool.false_or] at hk
      obtain ⟨j, q, h1, h2, h3⟩ := ih hk
      refine ⟨j + 1, .int n t :: q, ?_, ?_, ?_⟩
      · unfold kf_at
        have : isInt k (.int n t) = false := by simp [isInt, hn]
        rw [this, h1]; rfl
      · unfold ki_delL; rw [h2]
      · rw [List.erase_cons_tail (by simpa using hn)]; exact .cons n t h3
/-- the folds, as they are laid -/
noncomputable def foldsN : Nat → List Nat
  | 0 => []
  | i + 1 => foldsN i ++ [i] ++ foldsN i
structure WSt where
  e : Int
  n : Int
  r : Int
  u : Int
  bent : List Int
noncomputable def wStep (ss : List Int) (a : WSt) (f : Nat) : WSt :=
  if a.bent.any (· == (f : Int)) = true then ⟨a.e + a.r, a.n + a.u, Int.fdiv a.u (ss.getD f 0), Int.fdiv (-a.r) (ss.getD f 0), a.bent.erase (f : Int)⟩
  else ⟨a.e + a.r, a.n + a.u, -ss.getD f 0 * a.u, ss.getD f 0 * a.r, a.bent ++ [(f : Int)]⟩
noncomputable def wAt (ss : List Int) (i : Nat) : WSt := ((foldsN 6).take i).foldl (wStep ss) ⟨0, 0, 1, 0, []⟩
noncomputable def rowsX (ss : List Int) (i : Nat) : List (List Int) := (List.range (i + 1)).map fun k => [(wAt ss k).e, (wAt ss k).n, (wAt ss k).r, (wAt ss k).u]
theorem rowsX_succ (ss : List Int) (n : Nat) : rowsX ss (n + 1) = rowsX ss n ++ [[(wAt ss (n + 1)).e, (wAt ss (n + 1)).n, (wAt ss (n + 1)).r, (wAt ss (n + 1)).u]] := by
  unfold rowsX; rw [List.range_succ, List.map_append]; rfl
theorem wAt_succ (ss : List Int) {i f : Nat} (hf : (foldsN 6)[i]? = some f) : wAt ss (i + 1) = wStep ss (wAt ss i) f := by
  unfold wAt; rw [List.take_add_one, hf, Option.toList_some, List.foldl_append]; rfl
theorem folds_lt : ∀ f ∈ foldsN 6, f < 6 := by decide
theorem folds_len : (foldsN 6).length = 63 := by decide
theorem foldsN_len : ∀ i : Nat, i ≤ 6 → (foldsN i).length ≤ 63 := by decide
end
section
local macro_rules | `(tactic| walk_at "none here") => `(tactic| skip)
local macro_rules | `(tactic| walk_at "none here") => `(tactic| skip)
local macro_rules | `(tactic| walk_at "none here") => `(tactic| skip)
theorem rs40 : True := by
  w_top off
  exact trivial
local macro_rules | `(tactic| mul_fits) => `(tactic| apply_assumption)
theorem newsTup4 {h₀ h : Heap} {L a : Addr} {x1 x2 x3 x4 : Int} {t1 t2 t3 t4 : Tok} {r : List (Addr × Obj)} {P : Prop} (N : News h₀ L h ((a, { cls := .type "tuple", data := .seq #[.int x1 t1, .int x2 t2, .int x3 t3, .int x4 t4] }) :: r))
    (k : ∀ a' t1' t2' t3' t4', a' = a → News h₀ L h ((a', tupO [.int x1 t1', .int x2 t2', .int x3 t3', .int x4 t4']) :: r) → P) : P := k a t1 t2 t3 t4 rfl N
theorem walkNames {h₀ h : Heap} {L a b c d : Addr} {o1 : Obj} {n1 n2 : Nat} {x1 x2 x3 x4 : Int} {t1 t2 t3 t4 : Tok} {r : List (Addr × Obj)} {P : Prop} (N : News h₀ L h ((a, o1) :: (b, listOf #[.ref c] n1) :: (c, { cls := .type "tuple", data := .seq #[.int x1 t1, .int x2 t2, .int x3 t3, .int x4 t4] }) :: (d, listOf #[] n2) :: r))
    (k : ∀ a' b' c' d' t1' t2' t3' t4', a' = a → b' = b → c' = c → d' = d → News h₀ L h ((a', o1) :: (b', listOf #[.ref c'] n1) :: (c', tupO [.int x1 t1', .int x2 t2', .int x3 t3', .int x4 t4']) :: (d', listOf #[] n2) :: r) → P) : P := k a b c d t1 t2 t3 t4 rfl rfl rfl rfl N
theorem small_pylong {x z : Int} (h : Builtin.Int.intBits z ≤ 64) : Builtin.divisionGoesByPylong x z = false := by
  refine PyProof.noPylong_of_log2 ?_
  by_cases hz : z = 0
  · subst hz; decide +kernel
  · unfold Builtin.Int.intBits at h
    rw [if_neg (by simpa using hz)] at h
    omega
theorem c_walk {w mean mg mb} (news : List (Addr × Obj)) (ls : Addr) (vs : List Value) (ss : List Int) (cs mo : Nat) (tm : Tok) (hm2 : (ls, listOf (List.toArray vs) cs) ∈ news) (hi2 : IntsAre vs ss) (hs6 : ss.length = 6) (hsb : ∀ z ∈ ss, Builtin.Int.intBits z ≤ 64 ∧ Builtin.Int.intBits (-z) ≤ 64) (hs0 : ∀ z ∈ ss, z ≠ 0) (hmo : mo ≤ 63) :
    ConW w mean mg mb 148 4 60 0 news [.ref ls, .int (mo : Nat) tm] (fun r own => ∃ R es tl c, r = .ref R ∧ own = (R, listOf (List.toArray es) c) :: tl ∧ TupsAre es tl (rowsX ss mo)) := by
  walk_at "m_conW"; rename_i hlo hret
  w_strict (
  walk_at "m_enter"
  (repeat ((fail_if_success (with_reducible show wpAny _ _ (exec (Stmt.For _ _ _ _ _) _) _ _ _)); walk_at "m_one"))
  refine wpAny_For ?_ (by intro _; rfl)
  (repeat ((fail_if_success (with_reducible show wpAny _ _ (pyIter _) _ _ _)); walk_at "m_one"))
  (with_reducible rename Fr _ _ _ _ => kF)
  (with_reducible rename News _ _ _ _ => kN)
  (with_reducible rename IsRange _ _ _ _ _ _ _ _ => rgX)
  refine newsNamed kN fun F0 hF0 kN => ?_
  subst hF0
  have l1 : ∀ p ∈ news, p.1 < F0 := by assumption
  refine forR (n := 6) (lo := 0) rfl rfl rgX rfl (by decide) (Nat.zero_le _) kF kN
    (fun i m' nw => ∃ D fv c, nw = (D, listOf (List.toArray fv) c) :: news ∧ (∀ p ∈ news, p.1 ≠ D) ∧ IntsAre fv ((foldsN i).map fun k => ((k : Nat) : Int)) ∧ m' (Str.ofString "sides") = some (.ref ls) ∧ m' (Str.ofString "most") = some (.int (mo : Nat) tm) ∧ m' (Str.ofString "folds") = some (.ref D)) ?j0 ?step ?fin
  case j0 => exact ⟨F0, [], 0, rfl, fun p hp => Nat.ne_of_lt (l1 p hp), .nil, rfl, rfl, rfl⟩
  case step =>
    clear kF kN
    rintro i ti m1 nw1 h1 tk1 oI I hi ⟨D, fv, c, rfl, hDn, hfv, msd, mmo, mf⟩ htk hoff kF kN
    have hfl := foldsN_len i (by omega)
    have hfvl := hfv.length
    rw [List.length_map] at hfvl
    (repeat ((fail_if_success (with_reducible show wpAny _ _ (binaryOp Operator.Add (Value.ref _) _) _ _ _)); walk_at "m_one"))
    (with_reducible rename Fr _ _ _ _ => kF2)
    (with_reducible rename News _ _ _ _ => kN2)
    refine' add_named (ws := [_]) kF2 kN2 (.tail _ (.tail _ (.head _))) (.head _) ?sz fun D3 h3 kF3 kN3 hlt3 => ?_
    case sz => rw [sizeLine_eq, hfvl, List.length_singleton]; omega
    clear kF2 kN2
    refine newsVals kN3 fun W hW kN3 => ?_
    (repeat ((fail_if_success (with_reducible show wpAny _ _ (binaryOp Operator.Add (Value.ref _) _) _ _ _)); walk_at "m_one"))
    refine' add_named kF3 kN3 (.head _) (.tail _ (.tail _ (.tail _ (.head _)))) ?sz2 fun D4 h4 kF4 kN4 hlt4 => ?_
    case sz2 => rw [sizeLine_eq, hW, List.length_append, hfvl, List.length_singleton]; omega
    clear kF3 kN3
    walk_at "m_go"
    (with_reducible rename Fr _ _ _ _ => kF5)
    (with_reducible rename News _ _ _ _ => kN5)
    refine ⟨_, _, _, (D4, listOf (List.toArray (W ++ fv)) 0) :: news, rfl, kF5, cb_drop (news := (I, oI) :: (D4, listOf (List.toArray (W ++ fv)) 0) :: news) kN5 ?sub, ?off, trivial, D4, W ++ fv, 0, rfl, fun p hp => Nat.ne_of_lt (hlt4 p (List.mem_cons_of_mem _ (List.mem_cons_of_mem _ (List.mem_cons_of_mem _ (List.mem_cons_of_mem _ hp))))), ?vals, msd, mmo, rfl⟩
    case sub =>
      intro p hp
      rcases List.mem_cons.mp hp with rfl | hp
      · exact .tail _ (.tail _ (.tail _ (.head _)))
      rcases List.mem_cons.mp hp with rfl | hp
      · exact .head _
      · exact .tail _ (.tail _ (.tail _ (.tail _ (.tail _ hp))))
    case off =>
      intro p hp
      rcases List.mem_cons.mp hp with rfl | hp
      · exact Nat.ne_of_gt (hlt4 (I, oI) (.tail _ (.tail _ (.head _))))
      · exact hoff p (.tail _ hp)
    case vals =>
      rw [hW]
      show IntsAre _ ((foldsN i ++ [i] ++ foldsN i).map fun k => ((k : Nat) : Int))
      rw [List.map_append, List.map_append]
      exact IntsAre.append (IntsAre.append hfv (.cons _ _ .nil)) hfv
  case fin =>
    clear kF kN
    rintro h1 tk1 m1 nw1 _ kF kN ⟨D, fv, c, rfl, hDn, hfv, msd, mmo, mf⟩
    (repeat ((fail_if_success (with_reducible show wpAny _ _ (exec (Stmt.For _ _ _ _ _) _) _ _ _)); walk_at "m_one"))
    refine wpAny_For ?_ (by intro _; rfl)
    (repeat ((fail_if_success (with_reducible show wpAny _ _ (pyIter _) _ _ _)); walk_at "m_one"))
    (with_reducible rename Fr _ _ _ _ => kF)
    (with_reducible rename News _ _ _ _ => kN)
    rename IntsAre _ (List.take _ _) => hsrc
    rename _ ∧ _ ∧ _ ∧ _ ∧ _ ∧ AllLt _ news => hlx
    rename _ ∧ _ ∧ _ ∧ _ ∧ AllLt _ news => hRL
    rename _ ∧ _ ∧ _ ∧ AllLt _ news => hRT
    rename _ ∧ _ ∧ AllLt _ news => hBL
    refine newsVals kN fun SV hSV kN => ?_
    rw [← hSV] at hsrc
    refine walkNames kN fun SL RL RT BL t1 t2 t3 t4 e1 e2 e3 e4 kNN => ?_
    subst e1 e2 e3 e4
    have hsl : SV.length = mo := by
      rw [hsrc.length, List.length_take, List.length_map, folds_len, Int.toNat_natCast]; omega
    have kN2 : News _ _ _ ((SL, listOf (List.toArray SV) 0) :: (RL, listOf (List.toArray [.ref RT]) 0) :: (BL, listOf (List.toArray []) 0) :: ([(RT, tupO [.int 0 t1, .int 0 t2, .int 1 t3, .int 0 t4])] ++ news)) := cb_drop kNN (by
      intro p hp
      rcases List.mem_cons.mp hp with rfl | hp
      · exact .head _
      rcases List.mem_cons.mp hp with rfl | hp
      · exact .tail _ (.head _)
      rcases List.mem_cons.mp hp with rfl | hp
      · exact .tail _ (.tail _ (.tail _ (.head _)))
      rcases List.mem_cons.mp hp with rfl | hp
      · exact .tail _ (.tail _ (.head _))
      · exact .tail _ (.tail _ (.tail _ (.tail _ (.tail _ (.tail _ hp))))))
    clear kN kNN
    refine forL (lo := 0) (ax := SL) (its := SV.toArray) (k := 0) rfl (.head _) (Nat.zero_le _) kF kN2
      (fun i m' nw => ∃ es tl c bv cb, nw = (SL, listOf (List.toArray SV) 0) :: (RL, listOf (List.toArray es) c) :: (BL, listOf (List.toArray bv) cb) :: (tl ++ news) ∧ TupsAre es tl (rowsX ss i) ∧ (∀ p ∈ tl, p.1 ≠ RL ∧ p.1 ≠ BL ∧ ∀ q ∈ news, q.1 ≠ p.1) ∧ IntsAre bv (wAt ss i).bent ∧ bv.length ≤ i ∧
        m' (Str.ofString "sides") = some (.ref ls) ∧ m' (Str.ofString "bent") = some (.ref BL) ∧ m' (Str.ofString "rows") = some (.ref RL) ∧
        (∃ v t, m' (Str.ofString "east") = some (.int v t) ∧ v = (wAt ss i).e) ∧ (∃ v t, m' (Str.ofString "north") = some (.int v t) ∧ v = (wAt ss i).n) ∧ (∃ v t, m' (Str.ofString "right") = some (.int v t) ∧ v = (wAt ss i).r) ∧ (∃ v t, m' (Str.ofString "up") = some (.int v t) ∧ v = (wAt ss i).u)) ?hJ ?j0 ?step ?fin
    case hJ =>
      rintro i m' nw ⟨es, tl, c, bv, cb, rfl, _⟩
      exact .head _
    case j0 =>
      refine ⟨[_], [_], 0, [], 0, rfl, .snoc .nil (.cons _ _ (.cons _ _ (.cons _ _ (.cons _ _ .nil)))), ?_, .nil, Nat.le_refl _, msd, rfl, rfl, ⟨_, _, rfl, rfl⟩, ⟨_, _, rfl, rfl⟩, ⟨_, _, rfl, rfl⟩, ⟨_, _, rfl, rfl⟩⟩
      intro p hp
      rw [List.mem_singleton.mp hp]
      exact ⟨Nat.ne_of_lt hRL.1, Nat.ne_of_gt hRT.1, fun q hq => Nat.ne_of_lt (allLt_all hRT.2.2.2 q hq)⟩
    case step =>
      clear kF kN2
      rintro i v m2 nw2 h2 tk2 oI I hi hv ⟨es, tl, c, bv, cb, rfl, hT, hTn, hbv, hbl, msd, mbe, mro, ⟨ve, te, me, hve⟩, ⟨vn, tn, mn, hvn⟩, ⟨vr, tr, mr, hvr⟩, ⟨vu, tu, mu, hvu⟩⟩ htk hoff kF kN
      obtain ⟨f', tf, rfl, hf'⟩ := hsrc.at i v (by simpa using hv)
      rw [List.getElem?_take, Int.toNat_natCast] at hf'
      have him : i < mo := by
        rcases Nat.lt_or_ge i mo with h | h
        · exact h
        · rw [if_neg (Nat.not_lt.mpr h)] at hf'; cases hf'
      rw [if_pos him, List.getElem?_map] at hf'
      obtain ⟨f, hf, rfl⟩ := Option.map_eq_some_iff.mp hf'
      have hf6 := folds_lt f (List.mem_of_getElem? hf)
      have hlt : f < ss.length := by omega
      obtain ⟨ts, hx⟩ := hi2.get f (ss[f]) (List.getElem?_eq_getElem hlt)
      have hsd : ss.getD f 0 = ss[f] := by rw [List.getD_eq_getElem?_getD, List.getElem?_eq_getElem hlt]; rfl
      have hs0 : ss[f] ≠ 0 := hs0 _ (List.getElem_mem hlt)
      have hmo1 : ∀ y, IntMulOk (ss[f]) y := fun y => .of_left (hsb _ (List.getElem_mem hlt)).1
      have hmo2 : ∀ y, IntMulOk (-ss[f]) y := fun y => .of_left (hsb _ (List.getElem_mem hlt)).2
      have hpl : ∀ x, Builtin.divisionGoesByPylong x (ss[f]) = false := fun x => small_pylong (hsb _ (List.getElem_mem hlt)).1
      have hst := wAt_succ ss hf
      unfold wStep at hst
      rw [hsd] at hst
      (repeat ((fail_if_success (with_reducible show wpAny _ _ (compareOp _ _ _) _ _ _)); walk_at "m_one"))
      (with_reducible rename News _ _ _ _ => kN1)
      refine in_list_ints ⟨_, (kN1 (BL, listOf (List.toArray bv) cb) (by k_mem)).1, rfl, _, rfl⟩ hbv ?_
      have hm2' : (ls, listOf (List.toArray vs) cs) ∈ tl ++ news := List.mem_append_right _ hm2
      have hvl : vs.length = 6 := by rw [hi2.length, hs6]
      have offB : ∀ p ∈ (I, oI) :: (SL, listOf (List.toArray SV) 0) :: (RL, listOf (List.toArray es) c) :: (tl ++ news), p.1 ≠ BL := by
        intro p hp
        rcases List.mem_cons.mp hp with rfl | hp
        · exact Ne.symm (hoff (BL, listOf (List.toArray bv) cb) (.tail _ (.tail _ (.head _))))
        rcases List.mem_cons.mp hp with rfl | hp
        · exact Nat.ne_of_gt hlx.2.2.1
        rcases List.mem_cons.mp hp with rfl | hp
        · exact Nat.ne_of_gt hRL.2.1
        rcases List.mem_append.mp hp with h | h
        · exact (hTn p h).2.1
        · exact Nat.ne_of_lt (allLt_all hBL.2.2 p h)
      have offR : ∀ bv2 : List Value, ∀ p ∈ (BL, listOf (List.toArray bv2) (cb + 1)) :: (I, oI) :: (SL, listOf (List.toArray SV) 0) :: (tl ++ news), p.1 ≠ RL := by
        intro bv2 p hp
        rcases List.mem_cons.mp hp with rfl | hp
        · exact Nat.ne_of_lt hRL.2.1
        rcases List.mem_cons.mp hp with rfl | hp
        · exact Ne.symm (hoff (RL, listOf (List.toArray es) c) (.tail _ (.head _)))
        rcases List.mem_cons.mp hp with rfl | hp
        · exact Nat.ne_of_gt hlx.1
        rcases List.mem_append.mp hp with h | h
        · exact (hTn p h).1
        · exact Nat.ne_of_lt (allLt_all hRL.2.2.2.2 p h)
      have hel : es.length = i + 1 := by rw [hT.len]; unfold rowsX; rw [List.length_map, List.length_range]
      cases hb : List.any (WSt.bent (wAt ss i)) fun x => x == ↑f
      · rw [hb, if_neg Bool.false_ne_true] at hst
        (repeat ((fail_if_success (with_reducible show wpAny _ _ (subscriptTail _ _ _ _) _ _ _)); walk_at "m_one"))
        (with_reducible rename News _ _ _ _ => kN2)
        refine item_listL ⟨_, (kN2 (ls, listOf (List.toArray vs) cs) (by repeat (first | exact hm2' | apply List.mem_cons_of_mem))).1, rfl, _, rfl⟩ (Int.natCast_nonneg _) (by omega) (by rw [Int.toNat_natCast]; exact hx) ?_
        (repeat ((fail_if_success (with_reducible show wpAny _ _ (subscriptTail _ _ _ _) _ _ _)); walk_at "m_one"))
        (with_reducible rename News _ _ _ _ => kN2)
        refine item_listL ⟨_, (kN2 (ls, listOf (List.toArray vs) cs) (by repeat (first | exact hm2' | apply List.mem_cons_of_mem))).1, rfl, _, rfl⟩ (Int.natCast_nonneg _) (by omega) (by rw [Int.toNat_natCast]; exact hx) ?_
        (repeat ((fail_if_success (with_reducible show wpAny _ _ (getMethod _ _ _) _ _ _)); walk_at "m_one"))
        (with_reducible rename News _ _ _ _ => kN3)
        refine listMethod_K kN3 (by repeat (first | exact List.Mem.head _ | apply List.Mem.tail)) PySem.F.slot_list_append PySem.F.type_list_append ?_
        (repeat ((fail_if_success (with_reducible show wpAny _ _ (call (.builtin _) _ _) _ _ _)); walk_at "m_one"))
        (with_reducible rename Fr _ _ _ _ => kF4)
        (with_reducible rename News _ _ _ _ => kN4)
        have kN5 : News _ _ _ ((BL, listOf (List.toArray bv) cb) :: (I, oI) :: (SL, listOf (List.toArray SV) 0) :: (RL, listOf (List.toArray es) c) :: (tl ++ news)) := cb_drop kN4 (by
          intro p hp
          rcases List.mem_cons.mp hp with rfl | hp
          · repeat (first | exact List.Mem.head _ | apply List.Mem.tail)
          rcases List.mem_cons.mp hp with rfl | hp
          · repeat (first | exact List.Mem.head _ | apply List.Mem.tail)
          rcases List.mem_cons.mp hp with rfl | hp
          · repeat (first | exact List.Mem.head _ | apply List.Mem.tail)
          rcases List.mem_cons.mp hp with rfl | hp
          · repeat (first | exact List.Mem.head _ | apply List.Mem.tail)
          · repeat (first | exact hp | apply List.mem_cons_of_mem))
        clear kN4
        refine append_K kF4 kN5 (.head offB) ?_ (by rw [sizeLine_eq]; simp only [List.size_toArray]; omega)
        clear kF4 kN5
        intro h8 kF8 kN8
        rw [List.push_toArray] at kN8
        have hbv2 : IntsAre (bv ++ [.int (f : Nat) tf]) ((wAt ss i).bent ++ [(f : Int)]) := IntsAre.append hbv (.cons _ _ .nil)
        have hbl2 : (bv ++ [Value.int (f : Nat) tf]).length ≤ i + 1 := by rw [List.length_append, List.length_singleton]; omega
        (repeat ((fail_if_success (with_reducible show wpAny _ _ (getMethod _ _ _) _ _ _)); walk_at "m_one"))
        (with_reducible rename News _ _ _ _ => kN9)
        refine listMethod_K (D := RL) kN9 (by repeat (first | exact List.Mem.head _ | apply List.Mem.tail)) PySem.F.slot_list_append PySem.F.type_list_append ?_
        (repeat ((fail_if_success (with_reducible show wpAny _ _ (call (.builtin _) _ _) _ _ _)); walk_at "m_one"))
        (with_reducible rename Fr _ _ _ _ => kF4)
        (with_reducible rename News _ _ _ _ => kN4)
        rename BL < _ ∧ _ => hlT
        refine newsTup4 kN4 fun T2 t1 t2 t3 t4 e1 kN5 => ?_
        subst e1
        have kN6 : News _ _ _ ((RL, listOf (List.toArray es) c) :: (T2, _) :: (BL, listOf (List.toArray (bv ++ [Value.int (f : Nat) tf])) (cb + 1)) :: (I, oI) :: (SL, listOf (List.toArray SV) 0) :: (tl ++ news)) := cb_drop kN5 (by
          intro p hp
          rcases List.mem_cons.mp hp with rfl | hp
          · repeat (first | exact List.Mem.head _ | apply List.Mem.tail)
          rcases List.mem_cons.mp hp with rfl | hp
          · repeat (first | exact List.Mem.head _ | apply List.Mem.tail)
          rcases List.mem_cons.mp hp with rfl | hp
          · repeat (first | exact List.Mem.head _ | apply List.Mem.tail)
          rcases List.mem_cons.mp hp with rfl | hp
          · repeat (first | exact List.Mem.head _ | apply List.Mem.tail)
          rcases List.mem_cons.mp hp with rfl | hp
          · repeat (first | exact List.Mem.head _ | apply List.Mem.tail)
          · repeat (first | exact hp | apply List.mem_cons_of_mem))
        clear kN4 kN5
        refine append_K kF4 kN6 (.head (by
          intro p hp
          rcases List.mem_cons.mp hp with rfl | hp
          · exact Nat.ne_of_gt hlT.2.2.2.1
          · exact offR _ p hp)) ?_ (by rw [sizeLine_eq]; simp only [List.size_toArray]; omega)
        clear kF4 kN6
        intro h9 kF9 kN9
        rw [List.push_toArray] at kN9
        walk_at "m_go"
        refine ⟨_, _, _, (SL, listOf (List.toArray SV) 0) :: (RL, listOf (List.toArray (es ++ [.ref T2])) (c + 1)) :: (BL, listOf (List.toArray (bv ++ [Value.int (f : Nat) tf])) (cb + 1)) :: (((T2, tupO [.int (ve + vr) t1, .int (vn + vu) t2, .int (-ss[f] * vu) t3, .int (ss[f] * vr) t4]) :: tl) ++ news), rfl, kF9, ?N, ?off, trivial, es ++ [.ref T2], (T2, tupO [.int (ve + vr) t1, .int (vn + vu) t2, .int (-ss[f] * vu) t3, .int (ss[f] * vr) t4]) :: tl, c + 1, (bv ++ [Value.int (f : Nat) tf]), cb + 1, rfl, ?T, ?ne, by rw [hst]; exact hbv2, hbl2, msd, mbe, mro, ⟨_, _, rfl, by rw [hst, hve, hvr]⟩, ⟨_, _, rfl, by rw [hst, hvn, hvu]⟩, ⟨_, _, rfl, by rw [hst, hvu]⟩, ⟨_, _, rfl, by rw [hst, hvr]⟩⟩
        case N =>
          refine cb_drop kN9 fun p hp => ?_
          rcases List.mem_cons.mp hp with rfl | hp
          · repeat (first | exact List.Mem.head _ | apply List.Mem.tail)
          rcases List.mem_cons.mp hp with rfl | hp
          · repeat (first | exact List.Mem.head _ | apply List.Mem.tail)
          rcases List.mem_cons.mp hp with rfl | hp
          · repeat (first | exact List.Mem.head _ | apply List.Mem.tail)
          rcases List.mem_cons.mp hp with rfl | hp
          · repeat (first | exact List.Mem.head _ | apply List.Mem.tail)
          rcases List.mem_cons.mp hp with rfl | hp
          · repeat (first | exact List.Mem.head _ | apply List.Mem.tail)
          · repeat (first | exact hp | apply List.mem_cons_of_mem)
        case off =>
          intro p hp
          rcases List.mem_cons.mp hp with rfl | hp
          · exact hoff (SL, listOf (List.toArray SV) 0) (.head _)
          rcases List.mem_cons.mp hp with rfl | hp
          · exact hoff (RL, listOf (List.toArray es) c) (.tail _ (.head _))
          rcases List.mem_cons.mp hp with rfl | hp
          · exact hoff (BL, listOf (List.toArray bv) cb) (.tail _ (.tail _ (.head _)))
          rcases List.mem_cons.mp hp with rfl | hp
          · exact Nat.ne_of_gt hlT.2.1
          · exact hoff p (.tail _ (.tail _ (.tail _ hp)))
        case T =>
          rw [rowsX_succ, hst]
          refine .snoc hT ?_
          rw [← hve, ← hvn, ← hvr, ← hvu]
          exact .cons _ _ (.cons _ _ (.cons _ _ (.cons _ _ .nil)))
        case ne =>
          intro p hp
          rcases List.mem_cons.mp hp with rfl | hp
          · exact ⟨Nat.ne_of_gt hlT.2.2.2.1, Nat.ne_of_gt hlT.1, fun q hq => Nat.ne_of_lt (allLt_all hlT.2.2.2.2 q (List.mem_append_right _ hq))⟩
          · exact hTn p hp
      · rw [hb, if_pos rfl] at hst
        (repeat ((fail_if_success (with_reducible show wpAny _ _ (subscriptTail _ _ _ _) _ _ _)); walk_at "m_one"))
        (with_reducible rename News _ _ _ _ => kN2)
        refine item_listL ⟨_, (kN2 (ls, listOf (List.toArray vs) cs) (by repeat (first | exact hm2' | apply List.mem_cons_of_mem))).1, rfl, _, rfl⟩ (Int.natCast_nonneg _) (by omega) (by rw [Int.toNat_natCast]; exact hx) ?_
        (repeat ((fail_if_success (with_reducible show wpAny _ _ (binaryOp Operator.FloorDiv _ _) _ _ _)); walk_at "m_one"))
        refine floordiv_int hs0 ?_ (Or.inl (hpl _))
        (repeat ((fail_if_success (with_reducible show wpAny _ _ (subscriptTail _ _ _ _) _ _ _)); walk_at "m_one"))
        (with_reducible rename News _ _ _ _ => kN2)
        refine item_listL ⟨_, (kN2 (ls, listOf (List.toArray vs) cs) (by repeat (first | exact hm2' | apply List.mem_cons_of_mem))).1, rfl, _, rfl⟩ (Int.natCast_nonneg _) (by omega) (by rw [Int.toNat_natCast]; exact hx) ?_
        (repeat ((fail_if_success (with_reducible show wpAny _ _ (binaryOp Operator.FloorDiv _ _) _ _ _)); walk_at "m_one"))
        refine floordiv_int hs0 ?_ (Or.inl (hpl _))
        (repeat ((fail_if_success (with_reducible show wpAny _ _ (getMethod _ _ _) _ _ _)); walk_at "m_one"))
        (with_reducible rename News _ _ _ _ => kN3)
        refine kf_method kN3 (D := BL) (its := bv.toArray) (n := cb) (by repeat (first | exact List.Mem.head _ | apply List.Mem.tail)) PySem.F.slot_list_remove PySem.F.type_list_remove ?_
        (repeat ((fail_if_success (with_reducible show wpAny _ _ (call (.builtin _) _ _) _ _ _)); walk_at "m_one"))
        (with_reducible rename Fr _ _ _ _ => kF4)
        (with_reducible rename News _ _ _ _ => kN4)
        have kN5 : News _ _ _ ((BL, listOf (List.toArray bv) cb) :: (I, oI) :: (SL, listOf (List.toArray SV) 0) :: (RL, listOf (List.toArray es) c) :: (tl ++ news)) := cb_drop kN4 (by
          intro p hp
          rcases List.mem_cons.mp hp with rfl | hp
          · repeat (first | exact List.Mem.head _ | apply List.Mem.tail)
          rcases List.mem_cons.mp hp with rfl | hp
          · repeat (first | exact List.Mem.head _ | apply List.Mem.tail)
          rcases List.mem_cons.mp hp with rfl | hp
          · repeat (first | exact List.Mem.head _ | apply List.Mem.tail)
          rcases List.mem_cons.mp hp with rfl | hp
          · repeat (first | exact List.Mem.head _ | apply List.Mem.tail)
          · repeat (first | exact hp | apply List.mem_cons_of_mem))
        clear kN4
        obtain ⟨jj, bq, ek1, ek2, hbv2⟩ := rem_list hbv (f : Int) hb
        have hbl2 : bq.length ≤ i + 1 := by
          have := (ki_delL_spec ek2).2
          omega
        refine kf_remove kF4 kN5 (ints_kf hbv) ek1 ek2 (.head offB) (by rw [sizeLine_eq]; show bv.length ≤ _; omega) ?_
        clear kF4 kN5
        intro h8 kF8 kN8
        (repeat ((fail_if_success (with_reducible show wpAny _ _ (getMethod _ _ _) _ _ _)); walk_at "m_one"))
        (with_reducible rename News _ _ _ _ => kN9)
        refine listMethod_K (D := RL) kN9 (by repeat (first | exact List.Mem.head _ | apply List.Mem.tail)) PySem.F.slot_list_append PySem.F.type_list_append ?_
        (repeat ((fail_if_success (with_reducible show wpAny _ _ (call (.builtin _) _ _) _ _ _)); walk_at "m_one"))
        (with_reducible rename Fr _ _ _ _ => kF4)
        (with_reducible rename News _ _ _ _ => kN4)
        rename BL < _ ∧ _ => hlT
        refine newsTup4 kN4 fun T2 t1 t2 t3 t4 e1 kN5 => ?_
        subst e1
        have kN6 : News _ _ _ ((RL, listOf (List.toArray es) c) :: (T2, _) :: (BL, listOf (List.toArray bq) (cb + 1)) :: (I, oI) :: (SL, listOf (List.toArray SV) 0) :: (tl ++ news)) := cb_drop kN5 (by
          intro p hp
          rcases List.mem_cons.mp hp with rfl | hp
          · repeat (first | exact List.Mem.head _ | apply List.Mem.tail)
          rcases List.mem_cons.mp hp with rfl | hp
          · repeat (first | exact List.Mem.head _ | apply List.Mem.tail)
          rcases List.mem_cons.mp hp with rfl | hp
          · repeat (first | exact List.Mem.head _ | apply List.Mem.tail)
          rcases List.mem_cons.mp hp with rfl | hp
          · repeat (first | exact List.Mem.head _ | apply List.Mem.tail)
          rcases List.mem_cons.mp hp with rfl | hp
          · repeat (first | exact List.Mem.head _ | apply List.Mem.tail)
          · repeat (first | exact hp | apply List.mem_cons_of_mem))
        clear kN4 kN5
        refine append_K kF4 kN6 (.head (by
          intro p hp
          rcases List.mem_cons.mp hp with rfl | hp
          · exact Nat.ne_of_gt hlT.2.2.2.1
          · exact offR _ p hp)) ?_ (by rw [sizeLine_eq]; simp only [List.size_toArray]; omega)
        clear kF4 kN6
        intro h9 kF9 kN9
        rw [List.push_toArray] at kN9
        walk_at "m_go"
        refine ⟨_, _, _, (SL, listOf (List.toArray SV) 0) :: (RL, listOf (List.toArray (es ++ [.ref T2])) (c + 1)) :: (BL, listOf (List.toArray bq) (cb + 1)) :: (((T2, tupO [.int (ve + vr) t1, .int (vn + vu) t2, .int (Int.fdiv vu ss[f]) t3, .int (Int.fdiv (-vr) ss[f]) t4]) :: tl) ++ news), rfl, kF9, ?N, ?off, trivial, es ++ [.ref T2], (T2, tupO [.int (ve + vr) t1, .int (vn + vu) t2, .int (Int.fdiv vu ss[f]) t3, .int (Int.fdiv (-vr) ss[f]) t4]) :: tl, c + 1, bq, cb + 1, rfl, ?T, ?ne, by rw [hst]; exact hbv2, hbl2, msd, mbe, mro, ⟨_, _, rfl, by rw [hst, hve, hvr]⟩, ⟨_, _, rfl, by rw [hst, hvn, hvu]⟩, ⟨_, _, rfl, by rw [hst, hvu]⟩, ⟨_, _, rfl, by rw [hst, hvr]⟩⟩
        case N =>
          refine cb_drop kN9 fun p hp => ?_
          rcases List.mem_cons.mp hp with rfl | hp
          · repeat (first | exact List.Mem.head _ | apply List.Mem.tail)
          rcases List.mem_cons.mp hp with rfl | hp
          · repeat (first | exact List.Mem.head _ | apply List.Mem.tail)
          rcases List.mem_cons.mp hp with rfl | hp
          · repeat (first | exact List.Mem.head _ | apply List.Mem.tail)
          rcases List.mem_cons.mp hp with rfl | hp
          · repeat (first | exact List.Mem.head _ | apply List.Mem.tail)
          rcases List.mem_cons.mp hp with rfl | hp
          · repeat (first | exact List.Mem.head _ | apply List.Mem.tail)
          · repeat (first | exact hp | apply List.mem_cons_of_mem)
        case off =>
          intro p hp
          rcases List.mem_cons.mp hp with rfl | hp
          · exact hoff (SL, listOf (List.toArray SV) 0) (.head _)
          rcases List.mem_cons.mp hp with rfl | hp
          · exact hoff (RL, listOf (List.toArray es) c) (.tail _ (.head _))
          rcases List.mem_cons.mp hp with rfl | hp
          · exact hoff (BL, listOf (List.toArray bv) cb) (.tail _ (.tail _ (.head _)))
          rcases List.mem_cons.mp hp with rfl | hp
          · exact Nat.ne_of_gt hlT.2.1
          · exact hoff p (.tail _ (.tail _ (.tail _ hp)))
        case T =>
          rw [rowsX_succ, hst]
          refine .snoc hT ?_
          rw [← hve, ← hvn, ← hvr, ← hvu]
          exact .cons _ _ (.cons _ _ (.cons _ _ (.cons _ _ .nil)))
        case ne =>
          intro p hp
          rcases List.mem_cons.mp hp with rfl | hp
          · exact ⟨Nat.ne_of_gt hlT.2.2.2.1, Nat.ne_of_gt hlT.1, fun q hq => Nat.ne_of_lt (allLt_all hlT.2.2.2.2 q (List.mem_append_right _ hq))⟩
          · exact hTn p hp
    case fin =>
      clear kF kN2
      rintro h2 tk2 m2 nw2 _ kF kN ⟨es, tl, c, bv, cb, rfl, hT, hTn, hbv, hbl, msd, mbe, mro, ⟨ve, te, me, hve⟩, ⟨vn, tn, mn, hvn⟩, ⟨vr, tr, mr, hvr⟩, ⟨vu, tu, mu, hvu⟩⟩
      rw [List.size_toArray, hsl] at hT
      walk_at "m_go"
      (with_reducible rename News _ _ _ _ => kN9)
      refine hret _ _ _ _ ⟨_, es, tl, c, rfl, rfl, hT⟩ (by k_asm) (cb_drop kN9 ?_) ?_
      · intro p hp
        rcases List.mem_append.mp hp with h | h
        · rcases List.mem_cons.mp h with rfl | h
          · repeat (first | exact List.Mem.head _ | apply List.Mem.tail)
          · have := List.mem_append_left news h
            repeat (first | exact this | apply List.mem_cons_of_mem)
        · have := List.mem_append_right tl h
          repeat (first | exact this | apply List.mem_cons_of_mem)
      · intro p hp q hq
        rcases List.mem_cons.mp hp with rfl | h
        · exact Nat.ne_of_lt (allLt_all hRL.2.2.2.2 q hq)
        · exact (hTn p h).2.2 q hq)
end
section
theorem rs41 : True := by
  w_top off
  exact trivial
/-- the plain law -/
noncomputable def mulI (s : Int) (p : Int × Int) : Int × Int := (-s * p.2, s * p.1)
theorem mulI_comm (s t : Int) (p : Int × Int) : mulI s (mulI t p) = mulI t (mulI s p) := by
  unfold mulI
  refine Prod.ext ?_ ?_
  · show -s * (t * p.1) = -t * (s * p.1)
    rw [Int.neg_mul, Int.neg_mul, ← Int.mul_assoc, ← Int.mul_assoc, Int.mul_comm s t]
  · show s * (-t * p.2) = t * (-s * p.2)
    rw [Int.neg_mul, Int.neg_mul, Int.mul_neg, Int.mul_neg, ← Int.mul_assoc, ← Int.mul_assoc, Int.mul_comm s t]
noncomputable def Dr (ss : List Int) (g : Nat) : Nat → Int × Int
  | 0 => (1, 0)
  | n + 1 => if g.testBit n = true then mulI (ss.getD n 0) (Dr ss g n) else Dr ss g n
theorem Dr_same (ss : List Int) {g g' : Nat} : ∀ n, (∀ j, j < n → g'.testBit j = g.testBit j) → Dr ss g' n = Dr ss g n
  | 0, _ => rfl
  | n + 1, h => by
    unfold Dr
    rw [h n (Nat.lt_succ_self n), Dr_same ss n fun j hj => h j (Nat.lt_succ_of_lt hj)]
theorem Dr_on (ss : List Int) {g g' v : Nat} (h0 : g.testBit v = false) (h1 : g'.testBit v = true) : ∀ n, v < n → (∀ j, j < n → j ≠ v → g'.testBit j = g.testBit j) → Dr ss g' n = mulI (ss.getD v 0) (Dr ss g n)
  | 0, h, _ => nomatch h
  | n + 1, h, hs => by
    by_cases hv : v = n
    · subst hv
      unfold Dr
      rw [h0, h1, if_pos rfl, if_neg Bool.false_ne_true, Dr_same ss v fun j hj => hs j (Nat.lt_succ_of_lt hj) (Nat.ne_of_lt hj)]
    · have ih := Dr_on ss h0 h1 n (by omega) fun j hj => hs j (Nat.lt_succ_of_lt hj)
      unfold Dr
      rw [hs n (Nat.lt_succ_self n) (fun e => hv e.symm), ih]
      split
      · exact mulI_comm _ _ _
      · rfl
noncomputable def Zp (ss : List Int) : Nat → Int × Int
  | 0 => (0, 0)
  | c + 1 => ((Zp ss c).1 + (Dr ss (grayN c) 6).1, (Zp ss c).2 + (Dr ss (grayN c) 6).2)
noncomputable def bStep (b : List Int) (f : Nat) : List Int := if b.any (· == (f : Int)) = true then b.erase (f : Int) else b ++ [(f : Int)]
noncomputable def bentAt (i : Nat) : List Int := ((foldsN 6).take i).foldl bStep []
theorem bent_fold (ss : List Int) : ∀ (l : List Nat) (a : WSt), (l.foldl (wStep ss) a).bent = l.foldl bStep a.bent
  | [], _ => rfl
  | f :: l, a => by
    rw [List.foldl_cons, List.foldl_cons, bent_fold ss l]
    congr 1
    unfold wStep bStep
    split <;> rfl
theorem bent_at (ss : List Int) (i : Nat) : (wAt ss i).bent = bentAt i := bent_fold ss _ _
theorem bent_gray : ∀ i : Nat, i < 63 → (bentAt i).any (· == (((foldsN 6).getD i 0 : Nat) : Int)) = (grayN i).testBit ((foldsN 6).getD i 0) ∧ (foldsN 6).getD i 0 < 6 := by decide +kernel
theorem gray_flip : ∀ i : Nat, i < 63 → ∀ j : Nat, j < 6 → (grayN (i + 1)).testBit j = if j = (foldsN 6).getD i 0 then !(grayN i).testBit j else (grayN i).testBit j := by decide +kernel
theorem gray_rev : ∀ m : Nat, m < 6 → ∀ c : Nat, c < 2 ^ m → (grayN c).testBit m = false ∧ ∀ j : Nat, j < 6 → (grayN (2 ^ (m + 1) - (c + 1))).testBit j = if j = m then true else (grayN c).testBit j := by decide +kernel
theorem w_dir (ss : List Int) (h6 : ss.length = 6) (h0 : ∀ z ∈ ss, z ≠ 0) : ∀ i : Nat, i ≤ 63 → ((wAt ss i).e, (wAt ss i).n) = Zp ss i ∧ ((wAt ss i).r, (wAt ss i).u) = Dr ss (grayN i) 6
  | 0, _ => ⟨rfl, rfl⟩
  | i + 1, hi => by
    obtain ⟨ih1, ih2⟩ := w_dir ss h6 h0 i (by omega)
    obtain ⟨hb, hf6⟩ := bent_gray i (by omega)
    have hfl := gray_flip i (by omega)
    have hget : (foldsN 6)[i]? = some ((foldsN 6).getD i 0) := by
      rw [List.getD_eq_getElem?_getD, List.getElem?_eq_getElem (by rw [folds_len]; omega)]; rfl
    rw [wAt_succ ss hget]
    generalize (foldsN 6).getD i 0 = f at hb hf6 hfl ⊢
    have hs0 : ss.getD f 0 ≠ 0 := by
      rw [List.getD_eq_getElem?_getD, List.getElem?_eq_getElem (by omega)]; exact h0 _ (List.getElem_mem _)
    have hff := hfl f hf6
    rw [if_pos rfl] at hff
    have e1 : (Zp ss i).1 = (wAt ss i).e := by rw [← ih1]
    have e2 : (Zp ss i).2 = (wAt ss i).n := by rw [← ih1]
    have e3 : (Dr ss (grayN i) 6).1 = (wAt ss i).r := by rw [← ih2]
    have e4 : (Dr ss (grayN i) 6).2 = (wAt ss i).u := by rw [← ih2]
    have hz : Zp ss (i + 1) = ((wAt ss i).e + (wAt ss i).r, (wAt ss i).n + (wAt ss i).u) := by
      show ((Zp ss i).1 + (Dr ss (grayN i) 6).1, (Zp ss i).2 + (Dr ss (grayN i) 6).2) = _
      rw [e1, e2, e3, e4]
    unfold wStep
    rw [bent_at, hb]
    rw [hz]
    cases hg : (grayN i).testBit f
    · rw [hg] at hff
      have hd := Dr_on ss hg hff 6 hf6 fun j hj hne => by rw [hfl j hj, if_neg hne]
      rw [if_neg Bool.false_ne_true]
      refine ⟨rfl, ?_⟩
      rw [hd, ← ih2]; rfl
    · rw [hg] at hff
      have hd := Dr_on ss hff hg 6 hf6 fun j hj hne => by rw [hfl j hj, if_neg hne]
      rw [if_pos rfl]
      refine ⟨rfl, ?_⟩
      rw [hd] at e3 e4
      show (Int.fdiv (wAt ss i).u (ss.getD f 0), Int.fdiv (-(wAt ss i).r) (ss.getD f 0)) = _
      rw [← e3, ← e4]
      unfold mulI
      rw [Int.neg_mul, Int.neg_neg, Int.mul_fdiv_cancel_left _ hs0, Int.mul_fdiv_cancel_left _ hs0]
theorem zp_rev (ss : List Int) (m : Nat) (hm : m < 6) : ∀ c : Nat, c ≤ 2 ^ m → Zp ss (2 ^ (m + 1) - c) = ((Zp ss (2 ^ (m + 1))).1 - (mulI (ss.getD m 0) (Zp ss c)).1, (Zp ss (2 ^ (m + 1))).2 - (mulI (ss.getD m 0) (Zp ss c)).2)
  | 0, _ => by
    rw [Nat.sub_zero]
    show Zp ss (2 ^ (m + 1)) = ((Zp ss (2 ^ (m + 1))).1 - (-ss.getD m 0 * 0), (Zp ss (2 ^ (m + 1))).2 - (ss.getD m 0 * 0))
    rw [Int.mul_zero, Int.mul_zero, Int.sub_zero, Int.sub_zero]
  | c + 1, hc => by
    have ih := zp_rev ss m hm c (by omega)
    obtain ⟨g0, gj⟩ := gray_rev m hm c (by omega)
    have hd := Dr_on ss (g' := grayN (2 ^ (m + 1) - (c + 1))) g0 (by rw [gj m hm, if_pos rfl]) 6 hm fun j hj hne => by rw [gj j hj, if_neg hne]
    have hp : 2 ^ (m + 1) = 2 * 2 ^ m := by rw [Nat.pow_succ, Nat.mul_comm]
    have e : 2 ^ (m + 1) - c = (2 ^ (m + 1) - (c + 1)) + 1 := by omega
    rw [e] at ih
    have z : Zp ss ((2 ^ (m + 1) - (c + 1)) + 1) = ((Zp ss (2 ^ (m + 1) - (c + 1))).1 + (Dr ss (grayN (2 ^ (m + 1) - (c + 1))) 6).1, (Zp ss (2 ^ (m + 1) - (c + 1))).2 + (Dr ss (grayN (2 ^ (m + 1) - (c + 1))) 6).2) := rfl
    rw [z, hd] at ih
    have i1 := congrArg Prod.fst ih
    have i2 := congrArg Prod.snd ih
    unfold mulI at i1 i2 ⊢
    dsimp only at i1 i2
    refine Prod.ext ?_ ?_
    · show _ = (Zp ss (2 ^ (m + 1))).1 - -ss.getD m 0 * ((Zp ss c).2 + (Dr ss (grayN c) 6).2)
      rw [Int.mul_add]; omega
    · show _ = (Zp ss (2 ^ (m + 1))).2 - ss.getD m 0 * ((Zp ss c).1 + (Dr ss (grayN c) 6).1)
      rw [Int.mul_add]; omega
theorem ends_zp (ss : List Int) : ∀ m : Nat, m ≤ 6 → endsL ss m = Zp ss (2 ^ m)
  | 0, _ => rfl
  | m + 1, h => by
    have ih := ends_zp ss m (by omega)
    have hr := zp_rev ss m (by omega) (2 ^ m) (Nat.le_refl _)
    have hp : 2 ^ (m + 1) = 2 * 2 ^ m := by rw [Nat.pow_succ, Nat.mul_comm]
    rw [show 2 ^ (m + 1) - 2 ^ m = 2 ^ m from by omega] at hr
    have i1 := congrArg Prod.fst hr
    have i2 := congrArg Prod.snd hr
    unfold mulI at i1 i2
    dsimp only at i1 i2
    unfold endsL
    rw [ih]
    refine Prod.ext ?_ ?_
    · show (Zp ss (2 ^ m)).1 - ss.getD m 0 * (Zp ss (2 ^ m)).2 = _
      rw [Int.neg_mul] at i1; omega
    · show (Zp ss (2 ^ m)).2 + ss.getD m 0 * (Zp ss (2 ^ m)).1 = _
      omega
noncomputable def okM : Nat → List Nat → Bool
  | _, [] => true
  | v, k :: ms => (decide (k < 7) && (if k = 0 then decide (v = 0) else decide (v ≤ 2 ^ (k - 1)))) && okM (2 ^ k - v) ms
theorem pt_step (ss : List Int) {v k : Nat} (hk : k < 7) (h : if k = 0 then v = 0 else v ≤ 2 ^ (k - 1)) : ptF ss (Zp ss v) k = Zp ss (2 ^ k - v) := by
  unfold ptF
  rw [ends_zp ss k (by omega)]
  cases k with
  | zero =>
    rw [if_pos rfl] at h
    subst h
    show ((Zp ss (2 ^ 0)).1 + sideAt ss 0 * 0, (Zp ss (2 ^ 0)).2 - sideAt ss 0 * 0) = _
    rw [Int.mul_zero, Int.add_zero, Int.sub_zero]
  | succ m =>
    rw [if_neg (Nat.succ_ne_zero m), Nat.add_sub_cancel] at h
    rw [zp_rev ss m (by omega) v h]
    unfold mulI sideAt
    rw [if_neg (Nat.succ_ne_zero m), Nat.add_sub_cancel]
    refine Prod.ext ?_ ?_
    · dsimp only
      rw [Int.neg_mul]; omega
    · rfl
theorem pt_fold (ss : List Int) : ∀ (ms : List Nat) (v : Nat), okM v ms = true → ms.foldl (ptF ss) (Zp ss v) = Zp ss (ms.foldl (fun v k => 2 ^ k - v) v)
  | [], _, _ => rfl
  | k :: ms, v, h => by
    unfold okM at h
    rw [Bool.and_eq_true, Bool.and_eq_true] at h
    rw [List.foldl_cons, List.foldl_cons, pt_step ss (of_decide_eq_true h.1.1) (by
      have := h.1.2
      split at this
      · rename_i hk; rw [if_pos hk]; exact of_decide_eq_true this
      · rename_i hk; rw [if_neg hk]; exact of_decide_eq_true this)]
    exact pt_fold ss ms _ h.2
noncomputable def fold2 (c : Nat) : Nat := c ^^^ (2 * c)
theorem marks_ok : ∀ c : Nat, c < 64 → okM 0 (marksN (fold2 c)) = true ∧ (marksN (fold2 c)).foldl (fun v k => 2 ^ k - v) 0 = c := by decide +kernel
theorem law_pt (ss : List Int) (c : Nat) (hc : c < 64) : (marksN (fold2 c)).foldl (ptF ss) (0, 0) = Zp ss c := by
  have h := marks_ok c hc
  have := pt_fold ss (marksN (fold2 c)) 0 h.1
  rw [h.2] at this
  exact this
theorem rot_mul (s : Int) : ∀ (n : Nat) (x y : Int), rotN n (x * s, y * s) = ((rotN n (x, y)).1 * s, (rotN n (x, y)).2 * s)
  | 0, _, _ => rfl
  | n + 1, x, y => by unfold rotN; rw [rot_mul s n x y]; dsimp only; rw [Int.neg_mul]
theorem step_dr (ss : List Int) (g : Nat) : ∀ n : Nat, rotN ((List.range n).filter (g.testBit ·)).length (stepR ss ((List.range n).filter (g.testBit ·)), 0) = Dr ss g n
  | 0 => rfl
  | n + 1 => by
    have ih := step_dr ss g n
    rw [List.range_succ, List.filter_append]
    unfold Dr
    cases hg : g.testBit n
    · rw [if_neg Bool.false_ne_true, ← ih]
      simp [hg]
    · rw [if_pos rfl, ← ih]
      have e : [n].filter (g.testBit ·) = [n] := by simp [hg]
      rw [e, List.length_append]
      generalize (List.range n).filter (g.testBit ·) = ms
      have e2 : stepR ss (ms ++ [n]) = stepR ss ms * ss.getD n 0 := by unfold stepR; rw [List.foldl_append]; rfl
      have e3 := rot_mul (ss.getD n 0) ms.length (stepR ss ms) 0
      rw [Int.zero_mul] at e3
      show (-(rotN ms.length (stepR ss (ms ++ [n]), 0)).2, (rotN ms.length (stepR ss (ms ++ [n]), 0)).1) = (-ss.getD n 0 * (rotN ms.length (stepR ss ms, 0)).2, ss.getD n 0 * (rotN ms.length (stepR ss ms, 0)).1)
      rw [e2, e3]
      refine Prod.ext ?_ ?_
      · show -(_ * _) = -_ * _
        rw [Int.neg_mul, Int.mul_comm]
      · exact Int.mul_comm _ _
theorem dif_gray : ∀ c : Nat, c < 64 → dif (wordOf (c : Int)) (wordOf ((c / 2 : Nat) : Int)) = ((List.range 6).filter ((grayN c).testBit ·)).length ∧ marksN (grayN c) = (List.range 6).filter ((grayN c).testBit ·) := by decide +kernel
theorem law_st (ss : List Int) (c : Nat) (hc : c < 64) : stF ss c = Dr ss (grayN c) 6 := by
  obtain ⟨h1, h2⟩ := dif_gray c hc
  unfold stF
  rw [h1, h2]
  exact step_dr ss (grayN c) 6
theorem law_row (ss : List Int) (h6 : ss.length = 6) (h0 : ∀ z ∈ ss, z ≠ 0) (c : Nat) (hc : c < 64) :
    (marksN (fold2 c)).foldl (ptF ss) (0, 0) = ((wAt ss c).e, (wAt ss c).n) ∧ stF ss c = ((wAt ss c).r, (wAt ss c).u) := by
  obtain ⟨h1, h2⟩ := w_dir ss h6 h0 c (by omega)
  exact ⟨(law_pt ss c hc).trans h1.symm, (law_st ss c hc).trans h2.symm⟩
end
section
local macro_rules | `(tactic| walk_at "none here") => `(tactic| skip)
theorem rs42 : True := by
  w_top off
  exact trivial
theorem cs_of (sd : List Int) (h8 : sd.length = 8) : ∃ c1 c2 : Nat, c1 < 64 ∧ c2 < 64 ∧ List.map (fun k' => Int.fmod k' 64) (List.take 2 sd) = [(c1 : Int), (c2 : Int)] := by
  match sd, h8 with
  | a :: b :: r, _ =>
    have e : ∀ a : Int, Int.fmod a 64 = ((Int.toNat (a % 64) : Nat) : Int) := fun a => by
      rw [Int.fmod_eq_emod_of_nonneg _ (by decide)]; omega
    exact ⟨Int.toNat (a % 64), Int.toNat (b % 64), by omega, by omega, by show [Int.fmod a 64, Int.fmod b 64] = _; rw [e a, e b]⟩
theorem ss_of (sd : List Int) (h8 : sd.length = 8) : (List.map (fun k' => if 0 ≤ k' then Int.fmod k' (10 ^ Int.toNat 12) + 1 else -Int.fmod (-k') (10 ^ Int.toNat 12) - 1) (List.drop 2 sd)).length = 6 ∧
    ∀ z ∈ List.map (fun k' => if 0 ≤ k' then Int.fmod k' (10 ^ Int.toNat 12) + 1 else -Int.fmod (-k') (10 ^ Int.toNat 12) - 1) (List.drop 2 sd), z ≠ 0 ∧ -1000000000000 ≤ z ∧ z ≤ 1000000000000 := by
  refine ⟨by rw [List.length_map, List.length_drop, h8], fun z hz => ?_⟩
  obtain ⟨k, _, rfl⟩ := List.mem_map.mp hz
  have e : (10 : Int) ^ Int.toNat 12 = 1000000000000 := by decide
  rw [e, Int.fmod_eq_emod_of_nonneg _ (by decide), Int.fmod_eq_emod_of_nonneg _ (by decide)]
  split <;> omega
theorem bits_of {z : Int} (h : -1000000000000 ≤ z ∧ z ≤ 1000000000000) : Builtin.Int.intBits z ≤ 64 := by
  by_cases hz : z = 0
  · subst hz; decide +kernel
  · unfold Builtin.Int.intBits
    rw [if_neg (by simpa using hz)]
    have : z.natAbs.log2 < 41 := (Nat.log2_lt (by omega)).mpr (by have : (2 : Nat) ^ 41 = 2199023255552 := by decide
                                                                  omega)
    omega
/-- the numbers that are written -/
noncomputable def enc (z : Int) : Nat := if 0 < z then (2 * z).toNat else (1 - 2 * z).toNat
noncomputable def numsOf (c1 c2 : Nat) (ss : List Int) : List Nat := fold2 c1 :: fold2 c2 :: ss.map enc
noncomputable def octL (ks : List (Nat × Nat)) : List Int := ks.flatMap fun p => octs p.1 p.2
noncomputable def OkK (ks : List (Nat × Nat)) : Prop := ∀ p ∈ ks, p.2 < 7 ∧ p.1 / 64 ^ p.2 < 64 ∧ p.1 < 2 ^ 42
theorem octL_snoc (ks : List (Nat × Nat)) (n k : Nat) : octL (ks ++ [(n, k)]) = octL ks ++ octs n k := by
  unfold octL; rw [List.flatMap_append]; simp
theorem okK_snoc {ks : List (Nat × Nat)} {n k : Nat} (h : OkK ks) (h1 : k < 7) (h2 : n / 64 ^ k < 64) (h3 : n < 2 ^ 42) : OkK (ks ++ [(n, k)]) := fun p hp => by
  rcases List.mem_append.mp hp with hp | hp
  · exact h p hp
  · rw [List.mem_singleton.mp hp]; exact ⟨h1, h2, h3⟩
theorem octL_len {ks : List (Nat × Nat)} (h : OkK ks) : (octL ks).length ≤ 7 * ks.length := by
  induction ks with
  | nil => exact Nat.le_refl _
  | cons p r ih =>
    have h1 := (h p (.head _)).1
    have h2 := ih fun q hq => h q (.tail _ hq)
    unfold octL at h2 ⊢
    rw [List.flatMap_cons, List.length_append, octs_len, List.length_cons]
    omega
noncomputable def posK (ks : List (Nat × Nat)) (j : Nat) : Nat := (octL (ks.take j)).length
theorem posK_succ {ks : List (Nat × Nat)} {j : Nat} {p : Nat × Nat} (h : ks[j]? = some p) : posK ks (j + 1) = posK ks j + p.2 + 1 := by
  unfold posK
  rw [List.take_add_one, h, Option.toList_some]
  rw [show p = (p.1, p.2) from rfl, octL_snoc, List.length_append, octs_len]; rfl
theorem octL_at {ks : List (Nat × Nat)} {j : Nat} {p : Nat × Nat} (h : ks[j]? = some p) {i : Nat} (hi : i ≤ p.2) : (octL ks)[posK ks j + i]? = (octs p.1 p.2)[i]? := by
  have hlt := (List.getElem?_eq_some_iff.mp h).1
  have e : ks = ks.take j ++ p :: ks.drop (j + 1) := by
    have hp := (List.getElem?_eq_some_iff.mp h).2
    conv => lhs; rw [← List.take_append_drop j ks, List.drop_eq_getElem_cons hlt, hp]
  have e2 : octL ks = octL (ks.take j) ++ (octs p.1 p.2 ++ octL (ks.drop (j + 1))) := by
    conv => lhs; rw [e]
    unfold octL; rw [List.flatMap_append, List.flatMap_cons]
  rw [e2]
  unfold posK
  rw [List.getElem?_append_right (by omega), Nat.add_sub_cancel_left, List.getElem?_append_left (by rw [octs_len]; omega)]
theorem posK_end (ks : List (Nat × Nat)) : posK ks ks.length = (octL ks).length := by unfold posK; rw [List.take_length]
theorem fold2_lt : ∀ c : Nat, c < 64 → fold2 c < 128 := by decide +kernel
theorem fold2_xor : ∀ c : Nat, c < 64 → Builtin.bitXor (c : Int) (2 * (c : Int)) = ((fold2 c : Nat) : Int) := by decide +kernel
theorem enc_lt {z : Int} (h : z ≠ 0 ∧ -1000000000000 ≤ z ∧ z ≤ 1000000000000) : enc z < 2 ^ 42 := by
  have : (2 : Nat) ^ 42 = 4398046511104 := by decide
  unfold enc
  split <;> omega
theorem enc_pos {z : Int} (h : 0 < z) : 2 * z = ((enc z : Nat) : Int) := by unfold enc; rw [if_pos h]; omega
theorem enc_neg {z : Int} (h : ¬ 0 < z) : 1 - 2 * z = ((enc z : Nat) : Int) := by unfold enc; rw [if_neg h]; omega
theorem and_one (n : Nat) : Builtin.bitAnd (n : Int) 1 = ((n % 2 : Nat) : Int) := by
  unfold Builtin.bitAnd
  rw [decide_eq_true (Int.natCast_nonneg _)]
  show (((n : Int).toNat &&& 1 : Nat) : Int) = _
  rw [Int.toNat_natCast, Nat.and_one_is_mod]
theorem shr_one (n : Nat) : Int.fdiv (n : Int) (2 ^ (1 : Int).toNat) = ((n / 2 : Nat) : Int) := by
  rw [Int.fdiv_eq_ediv_of_nonneg _ (by decide)]; rfl
theorem dec_neg {z : Int} (h : z ≠ 0) (h1 : enc z % 2 ≠ 0) : -((enc z / 2 : Nat) : Int) = z := by
  unfold enc at *
  split at h1 <;> rename_i hz
  · omega
  · rw [if_neg hz]; omega
theorem dec_pos {z : Int} (h : z ≠ 0) (h1 : enc z % 2 = 0) : ((enc z / 2 : Nat) : Int) = z := by
  unfold enc at *
  split at h1 <;> rename_i hz
  · rw [if_pos hz]; omega
  · omega
end
section
local macro_rules | `(tactic| walk_at "none here") => `(tactic| skip)
local macro_rules | `(tactic| walk_at "none here") => `(tactic| skip)
theorem rs43 : True := by
  w_top off
  exact trivial
theorem drop3 {h₀ h : Heap} {L : Addr} {a b c d : Addr × Obj} {r : List (Addr × Obj)} (N : News h₀ L h (a :: b :: c :: d :: r)) : News h₀ L h (a :: r) := fun p hp => by
  rcases List.mem_cons.mp hp with rfl | hp
  · exact N _ (.head _)
  · exact N _ (.tail _ (.tail _ (.tail _ (.tail _ hp))))
theorem lawNames {h₀ h : Heap} {L o c2 c1 s x1 c x2 x3 : Addr} {s' c' : List Value} {n : Nat} {b1 b2 b3 oF oC : Obj} {P : Prop} (N : News h₀ L h [(o, listOf #[] n), (s, LCg.lst s'), (x1, b1), (c, LCg.lst c'), (x2, b2), (x3, b3), (c2, oF), (c1, oC)])
    (k : ∀ o' s'' c'' sv cv oF' oC', o' = o → s'' = s → c'' = c → sv = s' → cv = c' → oF' = oF → oC' = oC → News h₀ L h [(o', listOf (List.toArray []) n), (c2, oF'), (c1, oC'), (c'', listOf (List.toArray cv) cv.length), (s'', listOf (List.toArray sv) sv.length)] → P) : P :=
  k o s c s' c' oF oC rfl rfl rfl rfl rfl rfl rfl fun p hp => by
    rcases List.mem_cons.mp hp with rfl | hp
    · exact N _ (.head _)
    rcases List.mem_cons.mp hp with rfl | hp
    · exact N _ (.tail _ (.tail _ (.tail _ (.tail _ (.tail _ (.tail _ (.head _)))))))
    rcases List.mem_cons.mp hp with rfl | hp
    · exact N _ (.tail _ (.tail _ (.tail _ (.tail _ (.tail _ (.tail _ (.tail _ (.head _))))))))
    rcases List.mem_cons.mp hp with rfl | hp
    · exact N _ (.tail _ (.tail _ (.tail _ (.head _))))
    · rw [List.mem_singleton.mp hp]
      exact N _ (.tail _ (.head _))
theorem min8 (n : Nat) : min 8 n + (8 - n) = 8 := by omega
theorem le8 : 8 ≤ sizeLine := by rw [sizeLine_eq]; decide
theorem le16 : 8 + 8 ≤ sizeLine := by rw [sizeLine_eq]; decide
theorem offC1 {c a b : Addr} {x y : Obj} (h1 : a ≠ c) (h2 : b ≠ c) : ∀ p ∈ [(a, x), (b, y)], p.1 ≠ c := fun p hp => by
  rcases List.mem_cons.mp hp with rfl | hp
  · exact h1
  · rw [List.mem_singleton.mp hp]; exact h2
theorem octs_fit {n m : Nat} (h : n ≤ m) (hm : 7 * (m + 1) ≤ sizeLine := by rw [sizeLine_eq]; decide) {a : Nat × Nat} {ks : List (Nat × Nat)} (e : ks.length = n := by rfl) : 7 * (ks ++ [a]).length ≤ sizeLine := by
  rw [List.length_append, List.length_singleton]
  exact Nat.le_trans (Nat.mul_le_mul_left 7 (by omega)) hm
theorem loopN {h₀ h : Heap} {L : Addr} {d l i o : Addr × Obj} {r : List (Addr × Obj)} (N : News h₀ L h (d :: l :: i :: o :: r)) : News h₀ L h (i :: d :: r) := fun p hp => by
  rcases List.mem_cons.mp hp with rfl | hp
  · exact N _ (.tail _ (.tail _ (.head _)))
  rcases List.mem_cons.mp hp with rfl | hp
  · exact N _ (.head _)
  · exact N _ (.tail _ (.tail _ (.tail _ (.tail _ hp))))
theorem loopOff {d I a c2 c1 : Addr} {x o y z z' : Obj} {r : List (Addr × Obj)} (h : I < d) (off : ∀ p ∈ (a, o) :: (c2, y) :: (c1, z) :: r, p.1 ≠ I) : ∀ p ∈ (d, x) :: (c2, y) :: (c1, z') :: r, p.1 ≠ I := fun p hp => by
  rcases List.mem_cons.mp hp with rfl | hp
  · exact Nat.ne_of_gt h
  rcases List.mem_cons.mp hp with rfl | hp
  · exact off (c2, y) (.tail _ (.head _))
  rcases List.mem_cons.mp hp with rfl | hp
  · exact off (c1, z) (.tail _ (.tail _ (.head _)))
  · exact off p (.tail _ (.tail _ (.tail _ hp)))
section
open PySem.Spec
variable {prog : Program} {w : World} {A : Around} {E : Value → Shared → Prop} {s : Shared} {h₀ : Heap} {L : Addr} {m : Str → Option Value} {news : List (Addr × Obj)}
theorem call_iter {l : Addr} {its : Array Value} {k : Nat} {Q : Value → Shared → Prop} (F : Fr h₀ L s.heap m) (N : News h₀ L s.heap news) (hm : (l, listOf its k) ∈ news)
    (h : ∀ (I : Addr) h' oI, Fr h₀ L h' m → News h₀ L h' ((I, oI) :: news) → (∀ p ∈ news, p.1 < I) → ItO oI l 0 → Q (.ref I) { s with heap := h' }) :
    wpAny (model prog w) A (call (.builtin "iter") [.ref l]) Q E s := by
  have hl : s.heap.IsList l its := ⟨_, (N _ hm).1, rfl, _, rfl⟩
  refine call_function_entry (by decide +kernel) (by decide +kernel) kdk_entry_iter (kdk_args_iter _) ?_
  unfold Builtin.«iter»
  refine wpAny_bind (m := someArgs "iter" 1 2 _) (wpAny_of_eq (a := [Value.ref l]) (by first | rfl | kernel_rfl!) ?_)
  show wpAny _ _ (pyIter (.ref l) >>= _) _ _ _
  refine wpAny_bind (wpAny_pyIter_list hl ?_)
  exact wpAny_pure ⟨_, rfl, h _ _ _ (F.push _) (News.push F N _ rfl) (fun q hq => Heap.lt_size (N q hq).1) ⟨rfl, rfl⟩⟩
end
theorem offC2 {c a b : Nat} {x y z : Obj} (h1 : a ≠ c + 1) (h2 : b ≠ c + 1) : ∀ p ∈ [((c : Addr), z), (a, x), (b, y)], p.1 ≠ c + 1 := fun p hp => by
  rcases List.mem_cons.mp hp with rfl | hp
  · exact Nat.ne_of_lt (Nat.lt_succ_self _)
  rcases List.mem_cons.mp hp with rfl | hp
  · exact h1
  · rw [List.mem_singleton.mp hp]; exact h2
section
open PySem.Spec
/-- the entry of a def with cells, a lower end of the marks kept -/
theorem call_cellsT {prog : Program} {w : World} {A : Around} {R : Result → Shared → Prop} {s : Shared} {name : Str} {params : Arguments} {body : List Stmt} {scope : Scope}
    {pm cd doc : Value} {a : Addr} {o : Obj} {args : List Value} {binds : List (Str × Value)} {lo : Nat}
    (hroom : A.depth < recursionLimit) (ho : s.heap.get? a = some o) (hdata : o.data = .func (Calls.docDef name params body scope pm cd doc)) (hlim : s.heap.NoLimit) (hcd : s.heap.CodeRec cd name)
    (hbind : BindsTo s (Calls.docDef name params body scope pm cd doc) ⟨args, []⟩ binds)
    (hkind : ∀ x ∈ binds, scope.names.lookup x.1 = some .local ∨ (scope.names.lookup x.1 = some .cell ∧ ((cellsFrom (s.heap.objs.size + 1) scope.names []).lookup x.1).isSome = true))
    (hnd : ((cellsFrom 0 scope.names []).map (·.1)).Nodup) (hlo : lo ≤ s.toks)
    (h : ∀ h₁ tk cells, lo ≤ tk → Fr s.heap s.heap.objs.size h₁ (bindL (envOfC name scope s.heap.objs.size a cd).kindOf binds fun _ => none) → News s.heap s.heap.objs.size h₁ cells →
      CellsAre (bindC (envOfC name scope s.heap.objs.size a cd).kindOf binds fun _ => none) (cellsFrom (s.heap.objs.size + 1) scope.names []) cells →
      wpAny (model prog w) (A.deeper (envOfC name scope s.heap.objs.size a cd)) (execs body (envOfC name scope s.heap.objs.size a cd))
        (fun f s' => R (.ok (.ret (match f with | .ret v => v | _ => .none))) s')
        (fun e s' => wpAny (model prog w) (A.deeper (envOfC name scope s.heap.objs.size a cd)) (leaving (envOfC name scope s.heap.objs.size a cd) e)
          (fun _ s'' => R (.error e) s'') (fun e' s'' => R (.error e') s'') s')
        { s with heap := h₁, toks := tk })
    (hco : scope.isCoroutine = false) (hgen : scope.isGenerator = false) (hk : scope.kind = .function) : codeAny (model prog w) A (.call (.ref a) ⟨args, []⟩) R s := by
  refine codeAny_call_function hroom ho hdata hco hgen rfl hcd (hbind _ _ _ _ ?_)
  refine wpAny_with_toks (n := lo) hlo (wpAny_newFunctionEnv_cells hk hkind fun env' he s' x hle => ?_)
  subst he
  refine ⟨hlim.keeps x.toInCall.keep, codeAny_func ?_⟩
  obtain ⟨h₁, tk, rfl, _⟩ := x.done
  have up := x.toInCall.keep
  obtain ⟨cells, NC, Y⟩ := Cl.news (h₀ := s.heap) (Nat.le_refl _) fun n c hm => ⟨x.cell n c (lookup_of_mem_nodup (cellsFrom_names scope.names 0 (s.heap.objs.size + 1) [] [] rfl ▸ hnd) hm), x.above n c hm⟩
  exact h h₁ tk cells hle ⟨x.toInCall.ns, up, Nat.le_refl _⟩ NC Y
end
theorem toks_up {n t k : Nat} (h : n ≤ t) (e : t ≤ k) : n ≤ k := Nat.le_trans h e
theorem ConV.use {w : World} {mean : ExcName → Option Value} {mg mb : Str → Option Value} {I ax : Addr} {news : List (Addr × Obj)} {p n k : Nat} (C : ConV w mean mg mb I ax news p n k)
    {oI : Obj} {dp un : Nat} {gd : Option (List Code)} {cn : Str} {cs : Scope} {a : Addr} {ccd : Value} {cl : List (Str × Addr)} {outer : List Env} {A₀ : Around} {base h₀ : Heap} {L : Addr} {m : Str → Option Value} {s : Shared} {Q E : Value → Shared → Prop}
    (k1 : Below A₀ base outer h₀) (k2 : Fr h₀ L s.heap m) (k3 : (KF w).In h₀) (k4 : News h₀ L s.heap ((I, oI) :: news)) (k5 : Top pg lo' mean mg mb h₀) (kK : cs.kind = .function) (kd : dp + 4 < recursionLimit) (ku : un + 60 < cLine) (kI : ItO oI ax p)
    (h : ∀ t o' h' tk', ItO o' ax (p + k + 1) → Fr h₀ L h' m → News h₀ L h' ((I, o') :: news) → Q (.int (n : Nat) t) { s with heap := h', toks := tk' }) :
    wpAny (model prg w) (ktrTop dp un gd cn cs L a ccd cl outer) (call (.ref 29) [.ref I]) Q E s := C oI dp un gd cn cs a ccd cl outer A₀ base h₀ L m s Q E k1 k2 k3 k4 k5 kK kd ku kI h
theorem rotFI {h₀ h : Heap} {L : Addr} {a b c d : Addr × Obj} {r : List (Addr × Obj)} (N : News h₀ L h (a :: b :: c :: d :: r)) : News h₀ L h (d :: a :: b :: c :: r) := fun p hp => by
  rcases List.mem_cons.mp hp with rfl | hp
  · exact N _ (.tail _ (.tail _ (.tail _ (.head _))))
  rcases List.mem_cons.mp hp with rfl | hp
  · exact N _ (.head _)
  rcases List.mem_cons.mp hp with rfl | hp
  · exact N _ (.tail _ (.head _))
  rcases List.mem_cons.mp hp with rfl | hp
  · exact N _ (.tail _ (.tail _ (.head _)))
  · exact N _ (.tail _ (.tail _ (.tail _ (.tail _ hp))))
theorem rotIF {h₀ h : Heap} {L : Addr} {a b c d : Addr × Obj} {r : List (Addr × Obj)} (N : News h₀ L h (d :: a :: b :: c :: r)) : News h₀ L h (a :: b :: c :: d :: r) := fun p hp => by
  rcases List.mem_cons.mp hp with rfl | hp
  · exact N _ (.tail _ (.head _))
  rcases List.mem_cons.mp hp with rfl | hp
  · exact N _ (.tail _ (.tail _ (.head _)))
  rcases List.mem_cons.mp hp with rfl | hp
  · exact N _ (.tail _ (.tail _ (.tail _ (.head _))))
  rcases List.mem_cons.mp hp with rfl | hp
  · exact N _ (.head _)
  · exact N _ (.tail _ (.tail _ (.tail _ (.tail _ hp))))
theorem off4 {I C D f : Addr} {x y z o : Obj} {r : List (Addr × Obj)} (h : LCg.Off3 I C D ((f, o) :: r)) (hr : ∀ q ∈ r, q.1 ≠ f) : ∀ q ∈ (I, x) :: (C, y) :: (D, z) :: r, q.1 ≠ f := fun q hq => by
  rcases List.mem_cons.mp hq with rfl | hq
  · exact Ne.symm h.1.1
  rcases List.mem_cons.mp hq with rfl | hq
  · exact Ne.symm h.1.2.1
  rcases List.mem_cons.mp hq with rfl | hq
  · exact Ne.symm h.1.2.2
  · exact hr q hq
theorem off3_head {I C D f : Addr} {o o' : Obj} {r : List (Addr × Obj)} (h : LCg.Off3 I C D ((f, o) :: r)) : LCg.Off3 I C D ((f, o') :: r) := h
theorem max_nat {M : Int} {c1 c2 : Nat} (h : M = (c1 : Int) ∨ M = (c2 : Int)) (h2 : (c1 : Int) ≤ M ∧ (c2 : Int) ≤ M) (h3 : c1 < 64) (h4 : c2 < 64) : ∃ mo : Nat, M = (mo : Int) ∧ mo ≤ 63 ∧ c1 ≤ mo ∧ c2 ≤ mo := by
  rcases h with rfl | rfl
  · exact ⟨c1, rfl, by omega, by omega, by omega⟩
  · exact ⟨c2, rfl, by omega, by omega, by omega⟩
theorem signed_of (c1 c2 : Nat) (ss : List Int) (hss : ∀ z ∈ ss, z ≠ 0 ∧ -1000000000000 ≤ z ∧ z ≤ 1000000000000) :
    List.map (fun k' => if ¬Builtin.bitAnd k' 1 = 0 then -Int.fdiv k' (2 ^ Int.toNat 1) else Int.fdiv k' (2 ^ Int.toNat 1)) (List.drop 2 (List.map (fun (k : Nat) => ((k : Nat) : Int)) (numsOf c1 c2 ss))) = ss := by
  show List.map _ (List.map (fun (k : Nat) => ((k : Nat) : Int)) (ss.map enc)) = ss
  rw [List.map_map, List.map_map]
  conv => rhs; rw [← List.map_id ss]
  refine List.map_congr_left fun z hz => ?_
  have hb := hss z hz
  show (if ¬Builtin.bitAnd ((enc z : Nat) : Int) 1 = 0 then -Int.fdiv ((enc z : Nat) : Int) (2 ^ Int.toNat 1) else Int.fdiv ((enc z : Nat) : Int) (2 ^ Int.toNat 1)) = z
  rw [and_one, shr_one]
  by_cases h : enc z % 2 = 0
  · rw [if_neg (by rw [h]; exact fun q => q rfl)]
    exact dec_pos hb.1 h
  · rw [if_pos (by omega)]
    exact dec_neg hb.1 h
theorem lawNames2 {h₀ h : Heap} {L s x1 x2 x3 r o c2 c1 cn si : Addr} {gv' rv' cv sv : List Value} {n1 n2 : Nat} {b1 b2 b3 b4 oF oC : Obj} {P : Prop}
    (N : News h₀ L h [(s, LCg.lst gv'), (x1, b1), (x2, b2), (x3, b3), (r, LCg.lst rv'), (o, b4), (c2, oF), (c1, oC), (cn, listOf (List.toArray cv) n1), (si, listOf (List.toArray sv) n2)])
    (k : ∀ sg gv rv, sg = s → gv = gv' → rv = rv' → News h₀ L h [(c1, oC), (cn, listOf (List.toArray cv) n1), (r, listOf (List.toArray rv) rv.length), (sg, listOf (List.toArray gv) gv.length), (si, listOf (List.toArray sv) n2)] → P) : P :=
  k s gv' rv' rfl rfl rfl fun p hp => by
    rcases List.mem_cons.mp hp with rfl | hp
    · exact N _ (.tail _ (.tail _ (.tail _ (.tail _ (.tail _ (.tail _ (.tail _ (.head _))))))))
    rcases List.mem_cons.mp hp with rfl | hp
    · exact N _ (.tail _ (.tail _ (.tail _ (.tail _ (.tail _ (.tail _ (.tail _ (.tail _ (.head _)))))))))
    rcases List.mem_cons.mp hp with rfl | hp
    · exact N _ (.tail _ (.tail _ (.tail _ (.tail _ (.head _)))))
    rcases List.mem_cons.mp hp with rfl | hp
    · exact N _ (.head _)
    · rw [List.mem_singleton.mp hp]
      exact N _ (.tail _ (.tail _ (.tail _ (.tail _ (.tail _ (.tail _ (.tail _ (.tail _ (.tail _ (.head _))))))))))
end
section
local macro_rules | `(tactic| walk_at "none here") => `(tactic| skip)
local macro_rules | `(tactic| walk_at "none here") => `(tactic| skip)
local macro_rules | `(tactic| walk_at "none here") => `(tactic| skip)
theorem rs44 : True := by
  w_top off
  exact trivial
section
open PySem.Spec
variable {prog : Program} {w : World} {A : Around} {E : Value → Shared → Prop} {s : Shared} {h₀ : Heap} {L : Addr} {m : Str → Option Value} {news : List (Addr × Obj)}
/-- an iterator of a list at its end, as a source of nothing -/
theorem endWalk {it ax : Addr} {its : Array Value} (hh : A.handled = none) : Walks prog w A it [it, ax] [it] 0 (fun _ _ => True) (fun _ h => h.IsListIter it ax its.size ∧ h.IsList ax its) where
  sub := fun b hb => by rw [List.mem_singleton.mp hb]; exact .head _
  frame := fun _ h h' st k => by
    obtain ⟨⟨o, e, r⟩, ⟨o2, e2, r2⟩⟩ := st
    exact ⟨⟨o, k it (.head _) o e, r⟩, ⟨o2, k ax (.tail _ (.head _)) o2 e2, r2⟩⟩
  item := fun i s Q E hi => absurd hi (Nat.not_lt_zero i)
  done := fun s Q E st hQ => wpAny_pyNext_list_end hh st.1 st.2 (by simp) fun h' he' => hQ h' s.toks fun b o hb e => he' b o (by simpa using hb) e
  self := fun i s Q E st hQ => wpAny_pyIter_listiter st.1 hQ
theorem extend_end {R : Result → Shared → Prop} {it ax : Addr} {its : Array Value} (hh : A.handled = none) (S : Addr) (res : Value) (c₀ : Nat) (hit : s.heap.IsListIter it ax its.size) (hl : s.heap.IsList ax its)
    (hSI : S ≠ it) (hSa : S ≠ ax) (hS : s.heap.get? S = some { cls := .type "list", data := .seq #[] c₀ })
    (hR : ∀ h' tk c', (∀ b o, b ≠ S → b ≠ it → s.heap.get? b = some o → h'.get? b = some o) → h'.get? S = some { cls := .type "list", dict := none, data := .seq #[] c', slots := #[] } → R (.ok (.ret res)) { s with heap := h', toks := tk }) :
    wpAny (model prog w) A.in1 (Builtin.List.listExtendWith (.ref S) (.ref it) res)
      (fun fin s' => match fin with | .done f => R (.ok f) s' | .again c' => c'.quiet = true ∧ codeAny (model prog w) A c' R s') (fun e s' => R (.error e) s') s := by
  have W := (endWalk (prog := prog) (w := w) (A := A.in1) (it := it) (ax := ax) (its := its) hh).toS
  have hSf : S ∉ [it, ax] := fun hm => by
    rcases List.mem_cons.mp hm with e | hm
    · exact hSI e
    · exact hSa (List.mem_singleton.mp hm)
  unfold Builtin.List.listExtendWith
  refine wpAny_bind (wpAny_typeOf hit.typeIs ?_)
  have h1 : Builtin.List.listSameRef (.ref S) (.ref it) = false := by simp [Builtin.List.listSameRef, hSI]
  have h2 : (Value.type "list_iterator" == Value.type "list") = false := by decide
  have h3 : (Value.type "list_iterator" == Value.type "tuple") = false := by decide
  simp only [h1, h2, h3, Bool.or_false, Bool.false_eq_true, if_false]
  refine wpAny_bind (wpAny_pyIter_listiter hit ?_)
  refine wpAny_bind (wpAny_holding ?_)
  unfold Builtin.List.listLengthHint
  refine wpAny_bind (wpAny_specialOf hit.typeIs PySem.F.nolen_li ?_)
  show wpAny _ A.in1 (specialOf (Value.ref it) (Str.ofString "__length_hint__") >>= _) _ _ _
  refine wpAny_bind (wpAny_specialOf hit.typeIs PySem.F.hint_li ?_)
  generalize hid : ("list_iterator.__length_hint__" : String) = id0
  wp_delta
  rw [show splitId id0 = some ("list_iterator", "__length_hint__") from by subst hid; decide +kernel]
  subst hid
  refine wpAny_bind (wpAny_isInstance (b := true) hit.typeIs (by rw [isSubtype_type]; kernel_rfl) ?_)
  refine wpAny_pure ?_
  rw [if_neg (by decide)]
  refine wpAny_pure ⟨plainId_quiet PySem.F.plain_extend_loop _, codeAny_extend_loopS W (Nat.zero_le _) _ hSf res 0 0 _ #[] c₀ rfl (Nat.zero_le _) ⟨hit, hl⟩ hS (ItemsOf.nil _) fun s' acc' c' hm hS' hacc => ?_⟩
  rw [Moved.eq_with hm]
  have e0 : acc' = #[] := Array.eq_empty_of_size_eq_zero hacc.1
  subst e0
  refine hR s'.heap s'.toks c' (fun b o hb hi e => hm.heap b o (fun hmem => ?_) e) hS'
  rcases List.mem_cons.mp hmem with e' | hmem
  · exact hb e'
  · exact hi (List.mem_singleton.mp hmem)
/-- list(it) of an iterator that has come to its end -/
theorem call_list_end {it ax : Addr} {oI : Obj} {its : Array Value} {k : Nat} {Q : Value → Shared → Prop} (hh : A.handled = none) (F : Fr h₀ L s.heap m) (N : News h₀ L s.heap ((it, oI) :: news)) (off : ∀ p ∈ news, p.1 ≠ it) (hI : ItO oI ax its.size) (hm : (ax, listOf its k) ∈ news)
    (h : ∀ (D : Addr) h' tk c, Fr h₀ L h' m → News h₀ L h' ((D, listOf #[] c) :: news) → (∀ p ∈ news, p.1 < D) → Q (.ref D) { s with heap := h', toks := tk }) :
    wpAny (model prog w) A (call (.type "list") [.ref it]) Q E s := by
  have e0 := N _ (.head _)
  have el := N _ (.tail _ hm)
  have hit : s.heap.IsListIter it ax its.size := ⟨oI, e0.1, hI.1, hI.2⟩
  have hl : s.heap.IsList ax its := ⟨_, el.1, rfl, _, rfl⟩
  have hitlt : it < s.heap.objs.size := Heap.lt_size e0.1
  have haxlt : ax < s.heap.objs.size := Heap.lt_size el.1
  refine callType_codes (Q₁ := fun obj s₁ => obj = .ref s.heap.objs.size ∧ s₁ = { s with heap := s.heap.push { cls := .type "list", data := .seq #[] } }) PySem.F.called_list (PySem.F.typeCall_list_1 _) PySem.F.entry_list_init
    (code_list_new _ ⟨rfl, rfl⟩) fun obj s₁ h₁ => ?_
  obtain ⟨rfl, rfl⟩ := h₁
  have hS : (s.heap.push { cls := .type "list", data := .seq #[] }).get? s.heap.objs.size = some { cls := .type "list", data := .seq #[] } := Heap.get?_push_size _ rfl
  refine ⟨⟨_, hS, rfl⟩, PySem.F.args_list_init_2 _ _, ?_⟩
  show wpAny _ _ (do let old ← Builtin.List.listItems (.ref s.heap.objs.size); Builtin.List.listUpdate (.ref s.heap.objs.size) (fun _ => #[]); letGo old.toList.reverse; Builtin.List.listExtendWith (.ref s.heap.objs.size) (.ref it) .none) _ _ _
  refine wpAny_bind ?_
  unfold Builtin.List.listItems
  refine wpAny_bind (wpAny_seqItems hS rfl (wpAny_pure ?_))
  show wpAny _ _ (updateSeq s.heap.objs.size (fun _ => #[]) >>= fun _ => letGo (#[] : Array Value).toList.reverse >>= fun _ => Builtin.List.listExtendWith (.ref s.heap.objs.size) (.ref it) .none) _ _ _
  refine wpAny_bind (wpAny_updateSeq hS rfl ?_)
  have hS₂ := Heap.get?_update_self (Obj.mapSeq (fun _ => (#[] : Array Value))) hS rfl
  have oth : ∀ b o, b ≠ s.heap.objs.size → s.heap.get? b = some o → ((s.heap.push { cls := .type "list", data := .seq #[] }).update s.heap.objs.size (Obj.mapSeq (fun _ => (#[] : Array Value)))).get? b = some o :=
    fun b o hb e => (Heap.get?_update_other _ _ (Ne.symm hb)).trans (Heap.get?_push_of_some _ e)
  refine wpAny_bind (wpAny_letGo ?_)
  have hit2 : ((s.heap.push { cls := .type "list", data := .seq #[] }).update s.heap.objs.size (Obj.mapSeq (fun _ => (#[] : Array Value)))).IsListIter it ax its.size := ⟨oI, oth _ _ (Nat.ne_of_lt hitlt) e0.1, hI.1, hI.2⟩
  have hl2 : ((s.heap.push { cls := .type "list", data := .seq #[] }).update s.heap.objs.size (Obj.mapSeq (fun _ => (#[] : Array Value)))).IsList ax its := ⟨_, oth _ _ (Nat.ne_of_lt haxlt) el.1, rfl, _, rfl⟩
  refine' extend_end (A := A.in1) (it := it) (ax := ax) (its := its) hh _ .none _ ?g1 ?g2 (Nat.ne_of_gt hitlt) (Nat.ne_of_gt haxlt) ?g3 fun h' tk c' hk hS' => ?_
  case g1 => exact hit2
  case g2 => exact hl2
  case g3 => exact hS₂
  have up : ∀ b o, b ≠ it → s.heap.get? b = some o → h'.get? b = some o := fun b o hb e => hk b o (Nat.ne_of_lt (Heap.lt_size e)) hb (oth b o (Nat.ne_of_lt (Heap.lt_size e)) e)
  refine ⟨rfl, h _ h' tk c' ⟨F.ns.at' fun o e => up _ o (Ne.symm e0.2.1) e, fun b o e => up b o (fun q => by rw [q, e0.2.2] at e; cases e) (F.keep b o e), F.above⟩ (fun p hp => ?_) fun p hp => Heap.lt_size (N p (.tail _ hp)).1⟩
  rcases List.mem_cons.mp hp with rfl | hp
  · refine ⟨hS', ?_, ?_⟩
    · exact Nat.ne_of_gt F.ns.lt
    · exact next_is_new F
  · exact ⟨up _ _ (off p hp) (N p (.tail _ hp)).1, (N p (.tail _ hp)).2⟩
end
theorem news_swap {h₀ h : Heap} {L : Addr} {a b : Addr × Obj} {r : List (Addr × Obj)} (N : News h₀ L h (a :: b :: r)) : News h₀ L h (b :: a :: r) := fun p hp => by
  rcases List.mem_cons.mp hp with rfl | hp
  · exact N _ (.tail _ (.head _))
  rcases List.mem_cons.mp hp with rfl | hp
  · exact N _ (.head _)
  · exact N _ (.tail _ (.tail _ hp))
theorem off_cons {f a : Addr} {x : Obj} {r : List (Addr × Obj)} (h : a ≠ f) (hr : ∀ q ∈ r, q.1 ≠ f) : ∀ q ∈ (a, x) :: r, q.1 ≠ f := fun q hq => by
  rcases List.mem_cons.mp hq with rfl | hq
  · exact h
  · exact hr q hq
end
section
theorem rs45 : True := by
  w_top off
  exact trivial
section
open PySem.Spec
variable {prog : Program} {w : World} {A : Around} {E : Value → Shared → Prop} {s : Shared} {h₀ : Heap} {L : Addr} {m : Str → Option Value} {news : List (Addr × Obj)}
/-- the end of a turn, generators may have come and gone -/
noncomputable def TurnZ (h₀ : Heap) (L : Addr) (own : List (Addr × Obj)) (J : (Str → Option Value) → List (Addr × Obj) → Prop) (s₁ : Shared) (Qr : Value → Shared → Prop) (Qb : Shared → Prop) (f : Flow) (s₂ : Shared) : Prop :=
  match f with
  | .ret v => Qr v s₂
  | .brk => Qb s₂
  | _ => ∃ h' tk g m' news', s₂ = { s₁ with heap := h', gens := g, toks := tk } ∧ AllBare g ∧ Fr h₀ L h' m' ∧ News h₀ L h' (own ++ news') ∧ J m' news'
theorem loopZ {R : Result → Shared → Prop} {env : Env} {xi xc : Str} {pk pv pt : Pos} {x1 : Nat} {body : List Stmt} {I : Addr} {fp wr : List Addr} {n lo : Nat} {P Md : Nat → Value → Heap → Prop} {St : Nat → Heap → Prop} {PV : Nat → Value → Value → Prop}
    (hh : A.handled = none) (W : KTurns prog w A (.Tuple [.Name xi pk, .Name xc pv] x1 pt) I fp wr n P Md St) (hP : ∀ i v h, P i v h → ∃ T x y, v = .ref T ∧ PV i x y ∧ h.IsTuple T #[x, y])
    (hLf : env.locals ∉ fp) (hwr : ∀ b ∈ wr, h₀.get? b = none) (hlo : lo ≤ s.toks) (hg : AllBare s.gens) (hst : St 0 s.heap) (F : Fr h₀ env.locals s.heap m) (N : News h₀ env.locals s.heap news)
    (J : Nat → (Str → Option Value) → List (Addr × Obj) → Prop) (hJ : ∀ i m nw, J i m nw → ∀ p ∈ nw, p.1 ∉ wr) (h0 : J 0 m news)
    (step : ∀ i x y m₁ news₁ h tk g own, i < n → PV i x y → J i m₁ news₁ → lo ≤ tk → AllBare g → (∀ p ∈ own, p.1 ∈ fp) → Fr h₀ env.locals h m₁ → News h₀ env.locals h (own ++ news₁) →
      wpAny (model prog w) A (storeName env xi x) (fun _ s₂ => wpAny (model prog w) A (storeName env xc y) (fun _ s₃ => wpAny (model prog w) A (execs body env) (TurnZ h₀ env.locals own (J (i + 1)) s (fun v s' => R (.ok (.ret v)) s') fun s' => R (.ok .next) s') (notedBy (model prog w) A env fun e s' => R (.error e) s') s₃)
        (notedBy (model prog w) A env fun e s' => R (.error e) s') s₂) (notedBy (model prog w) A env fun e s' => R (.error e) s') { s with heap := h, gens := g, toks := tk })
    (fin : ∀ h' tk g m' news', AllBare g → Fr h₀ env.locals h' m' → News h₀ env.locals h' news' → J n m' news' → R (.ok .next) { s with heap := h', gens := g, toks := tk }) :
    codeAny (model prog w) A (.forLoop (.Tuple [.Name xi pk, .Name xc pv] x1 pt) (.ref I) body [] env) R s := by
  have hLw : env.locals ∉ wr := fun h => hLf (W.sub _ h)
  have old : ∀ b o, h₀.get? b = some o → b ∉ wr := fun b o e hb => by rw [hwr b hb] at e; cases e
  refine codeAny_forLoop_any
    (fun k s' => ∃ h' tk g m' news' i, s' = { s with heap := h', gens := g, toks := tk } ∧ lo ≤ tk ∧ AllBare g ∧ St i h' ∧ Fr h₀ env.locals h' m' ∧ News h₀ env.locals h' news' ∧ J i m' news' ∧ i ≤ n ∧ k = n + 1 - i) ?_ (n + 1)
    ⟨s.heap, s.toks, s.gens, m, news, 0, rfl, hlo, hg, hst, F, N, h0, Nat.zero_le _, rfl⟩
  rintro k s' ⟨H, tk, g, m', news', i, rfl, hlo', hg', hst', F', N', hJ', hi, rfl⟩
  have hnw := hJ i m' news' hJ'
  have next : ∀ h₁ : Heap, (∀ b o, b ∉ wr → H.get? b = some o → h₁.get? b = some o) → Fr h₀ env.locals h₁ m' ∧ News h₀ env.locals h₁ news' := fun h₁ hk₁ =>
    ⟨⟨F'.ns.at' fun o e => hk₁ _ o hLw e, fun b o e => hk₁ b o (old b o e) (F'.keep b o e), F'.above⟩, fun p hp => ⟨hk₁ _ _ (hnw p hp) (N' p hp).1, (N' p hp).2⟩⟩
  by_cases hlt : i < n
  · refine wpAny_with_toks (n := lo) hlo' ?_
    refine W.item i _ _ _ hlt hst' fun v h₁ tk₁ hMd hk₁ hlo₁ => ?_
    dsimp only at hlo₁
    refine W.go i v _ _ _ hMd fun h₂ hPv hst₂ hk₂ => ?_
    obtain ⟨T, x, y, rfl, hxy, ht₂⟩ := hP i v h₂ hPv
    refine wpAny_assign_Tuple hh ht₂ rfl rfl fun h₃ hx₃ => ?_
    replace hx₃ : Heap.ExtBut h₂.objs.size h₂ h₃ := hx₃
    have up₃ : ∀ b o, h₂.get? b = some o → h₃.get? b = some o := fun b o x => hx₃ b o (Nat.ne_of_lt (Heap.lt_size x)) x
    obtain ⟨F₃, N₃⟩ := next h₃ fun b o hb x => up₃ b o (hk₂ b o hb (hk₁ b o hb x))
    have hst₃ : St (i + 1) h₃ := W.frame _ _ _ hst₂ fun b _ o e => up₃ b o e
    show wpAny _ A (do holding [y] (assign (.Name xi pk) env x); do holding [] (assign (.Name xc pv) env y); pure ()) _ _ _
    refine wpAny_with_toks (n := lo) hlo₁ ?_
    refine wpAny_bind (wpAny_holding (wpAny_assign_Name (wpAny_mono (step i x y m' news' h₃ tk₁ g (ownOf h₀ fp h₃) hlt hxy hJ' hlo₁ hg' ownOf_sub F₃ ((news_ownOf hLf).append N₃)) (fun _ s₂ h₂' => ?_) fun _ _ e _ => e)))
    refine wpAny_bind (wpAny_holding (wpAny_assign_Name (wpAny_mono h₂' (fun _ s₃ h₃' => wpAny_pure fun hl₃ => ?_) fun _ _ e _ => e)))
    refine wpAny_with_toks (n := lo) hl₃ (wpAny_mono h₃' (fun f s₄ h₆ hl₆ => ?_) fun _ _ e _ => e)
    cases f with
    | ret v => exact h₆
    | brk => exact h₆
    | cont =>
      obtain ⟨h₆', tk₆, g₆, m₂, news₂, rfl, hg₆, F₆, N₆, hJ₆⟩ := h₆
      refine ⟨n + 1 - (i + 1), by omega, h₆', tk₆, g₆, m₂, news₂, i + 1, rfl, hl₆, hg₆, ?_, F₆, N₆.right, hJ₆, hlt, rfl⟩
      refine W.frame _ _ _ hst₃ fun b hb o e => ?_
      cases hn : h₀.get? b with
      | some o₀ =>
        have : o₀ = o := by have q := F₃.keep b o₀ hn; rw [e] at q; exact (Option.some.inj q).symm
        exact this ▸ F₆.keep b o₀ hn
      | none => exact (N₆ _ (List.mem_append_left _ (mem_ownOf hb hn e))).1
    | next =>
      obtain ⟨h₆', tk₆, g₆, m₂, news₂, rfl, hg₆, F₆, N₆, hJ₆⟩ := h₆
      refine ⟨n + 1 - (i + 1), by omega, h₆', tk₆, g₆, m₂, news₂, i + 1, rfl, hl₆, hg₆, ?_, F₆, N₆.right, hJ₆, hlt, rfl⟩
      refine W.frame _ _ _ hst₃ fun b hb o e => ?_
      cases hn : h₀.get? b with
      | some o₀ =>
        have : o₀ = o := by have q := F₃.keep b o₀ hn; rw [e] at q; exact (Option.some.inj q).symm
        exact this ▸ F₆.keep b o₀ hn
      | none => exact (N₆ _ (List.mem_append_left _ (mem_ownOf hb hn e))).1
  · have hin : i = n := by omega
    subst hin
    refine W.done _ _ _ hst' fun h₁ tk₁ hk₁ => wpAny_execs_nil ?_
    obtain ⟨F₁, N₁⟩ := next h₁ hk₁
    exact fin h₁ tk₁ g m' news' hg' F₁ N₁ hJ'
/-- for a, b in zip(l1, l2) -/
theorem forZ {R : Result → Shared → Prop} {env : Env} {xi xc : Str} {pk pv pt : Pos} {x1 : Nat} {body : List Stmt} {l1 l2 : Addr} {xs ys : Array Value} {k1 k2 lo : Nat} (hh : A.handled = none) (hh' : A.handled = none)
    (hm1 : (l1, listOf xs k1) ∈ news) (hm2 : (l2, listOf ys k2) ∈ news) (hlo : lo ≤ s.toks) (hg : AllBare s.gens) (F : Fr h₀ env.locals s.heap m) (N : News h₀ env.locals s.heap news)
    (J : Nat → (Str → Option Value) → List (Addr × Obj) → Prop) (hJ : ∀ i m nw, J i m nw → ∀ p ∈ nw, p.1 < s.heap.objs.size) (h0 : J 0 m news)
    (step : ∀ i x y m₁ news₁ h tk g own, xs[i]? = some x → ys[i]? = some y → J i m₁ news₁ → lo ≤ tk → AllBare g → (∀ p ∈ own, s.heap.objs.size ≤ p.1 ∨ p.1 = l1 ∨ p.1 = l2) → Fr h₀ env.locals h m₁ → News h₀ env.locals h (own ++ news₁) →
      wpAny (model prog w) A (storeName env xi x) (fun _ s₂ => wpAny (model prog w) A (storeName env xc y) (fun _ s₃ => wpAny (model prog w) A (execs body env) (TurnZ h₀ env.locals own (J (i + 1)) s (fun v s' => R (.ok (.ret v)) s') fun s' => R (.ok .next) s') (notedBy (model prog w) A env fun e s' => R (.error e) s') s₃)
        (notedBy (model prog w) A env fun e s' => R (.error e) s') s₂) (notedBy (model prog w) A env fun e s' => R (.error e) s') { s with heap := h, gens := g, toks := tk })
    (fin : ∀ h' tk g m' news', AllBare g → Fr h₀ env.locals h' m' → News h₀ env.locals h' news' → J (min xs.size ys.size) m' news' → R (.ok .next) { s with heap := h', gens := g, toks := tk }) :
    wpAny (model prog w) A (call (.type "zip") [.ref l1, .ref l2]) (fun xv s₁ => wpAny (model prog w) A (pyIter xv) (fun it s₂ => codeAny (model prog w) A (.forLoop (.Tuple [.Name xi pk, .Name xc pv] x1 pt) it body [] env) R s₂) E s₁) E s := by
  have hax1 := N _ hm1
  have hax2 := N _ hm2
  have hl1 : s.heap.IsList l1 xs := ⟨_, hax1.1, rfl, _, rfl⟩
  have hl2 : s.heap.IsList l2 ys := ⟨_, hax2.1, rfl, _, rfl⟩
  have hlt1 : l1 < s.heap.objs.size := Heap.lt_size hax1.1
  have hlt2 : l2 < s.heap.objs.size := Heap.lt_size hax2.1
  have hLs : env.locals < s.heap.objs.size := F.ns.lt
  have D : ZipApart (s.heap.objs.size + 4) (s.heap.objs.size + 2) (s.heap.objs.size + 3) s.heap.objs.size (s.heap.objs.size + 1) l1 l2 := ktu_apart _ _ _ hlt1 hlt2
  refine call_zip_2 hl1 hl2 fun h' hz hTI hTO hi1 hi2 hsz hk => ?_
  refine wpAny_pyIter_zip hz ?_
  have fpc : ∀ b, b ∈ [s.heap.objs.size + 4, s.heap.objs.size + 2, s.heap.objs.size + 3, s.heap.objs.size, s.heap.objs.size + 1, l1, l2] → s.heap.objs.size ≤ b ∨ b = l1 ∨ b = l2 := fun b hb => by
    have hb' : b = s.heap.objs.size + 4 ∨ b = s.heap.objs.size + 2 ∨ b = s.heap.objs.size + 3 ∨ b = s.heap.objs.size ∨ b = s.heap.objs.size + 1 ∨ b = l1 ∨ b = l2 := by simpa using hb
    rcases hb' with rfl | rfl | rfl | rfl | rfl | rfl | rfl
    · exact .inl (Nat.le_add_right _ _)
    · exact .inl (Nat.le_add_right _ _)
    · exact .inl (Nat.le_add_right _ _)
    · exact .inl (Nat.le_refl _)
    · exact .inl (Nat.le_add_right _ _)
    · exact .inr (.inl rfl)
    · exact .inr (.inr rfl)
  have wrc : ∀ b, b ∈ [s.heap.objs.size + 4, s.heap.objs.size + 3, s.heap.objs.size, s.heap.objs.size + 1] → s.heap.objs.size ≤ b := fun b hb => by
    have hb' : b = s.heap.objs.size + 4 ∨ b = s.heap.objs.size + 3 ∨ b = s.heap.objs.size ∨ b = s.heap.objs.size + 1 := by simpa using hb
    rcases hb' with rfl | rfl | rfl | rfl
    · exact Nat.le_add_right _ _
    · exact Nat.le_add_right _ _
    · exact Nat.le_refl _
    · exact Nat.le_add_right _ _
  refine loopZ (s := { s with heap := h' }) (lo := lo) (PV := fun i x y => xs[i]? = some x ∧ ys[i]? = some y) hh (KTurns.ofWalksU (WalksT.zip2 hh _ _ _ _ _ _ _ D xs ys).toU) ?_ ?_ ?_ hlo hg ?_ (F.keeps hk) (N.grown hk) J ?_ h0 ?_ fin
  · rintro i v h ⟨T, vals, rfl, ⟨x, y, hx, hy, rfl⟩, hT⟩
    exact ⟨T, x, y, rfl, ⟨hx, hy⟩, hT⟩
  · intro hb
    rcases fpc _ hb with h | h | h
    · exact absurd hLs (Nat.not_lt.mpr h)
    · exact hax1.2.1 h.symm
    · exact hax2.2.1 h.symm
  · intro b hb
    exact ktu_new F (wrc b hb)
  · exact ⟨hz, hTI, ⟨_, _, hTO⟩, hi1, hi2, hl1.at fun o e => hk _ o e, hl2.at fun o e => hk _ o e⟩
  · intro i m nw hj p hp hb
    exact absurd (hJ i m nw hj p hp) (Nat.not_lt.mpr (wrc _ hb))
  · intro i x y m₁ news₁ h tk g own _ hxy hj htk hgb hown F₁ N₁
    exact step i x y m₁ news₁ h tk g own hxy.1 hxy.2 hj htk hgb (fun p hp => fpc _ (hown p hp)) F₁ N₁
end
end
section
local macro_rules | `(tactic| walk_at "none here") => `(tactic| skip)
theorem rs46 : True := by
  w_top off
  exact trivial
section
open PySem.Spec
variable {prog : Program} {w : World} {A : Around} {E : Value → Shared → Prop} {s : Shared} {h₀ : Heap} {L : Addr} {m : Str → Option Value} {news : List (Addr × Obj)} {env : Env}
/-- a comprehension with a test by induction, the ledger free -/
theorem comp_indT {ct elt : Expr} {x : Str} {scope : Scope} {cl : List (Str × Addr)} {S : List (Addr × Obj) → Prop} {P : Nat → Value → Prop} {Fin : List Value → List (Addr × Obj) → Prop} {n : Nat} (J : Nat → List Value → List (Addr × Obj) → Prop)
    (turn : ∀ i ys nw v I oI C oC D m₂ h tk (E' : Value → Shared → Prop), i < n → J i ys nw → P i v → LCg.NsObj oC m₂ → m₂ x = some v → Fr h₀ L h m → News h₀ L h ((I, oI) :: (C, oC) :: (D, LCg.lst ys) :: nw) → LCg.Off3 I C D nw → ((@Ne Nat I C) ∧ (@Ne Nat I D) ∧ (@Ne Nat C D)) →
      wpAny (model prog w) A (isTrue ct (compEnvC scope cl C env) (eval ct (compEnvC scope cl C env))) (fun ok s' => if ok = true then
        wpAny (model prog w) A (eval elt (compEnvC scope cl C env)) (LCg.CompEnd h₀ L m { s with heap := h, toks := tk } I oI C oC D (LCg.lst ys) S (fun y nw' => J (i + 1) (ys ++ [y]) nw')) E' s'
        else LCg.CompEnd h₀ L m { s with heap := h, toks := tk } I oI C oC D (LCg.lst ys) S (fun _ nw' => J (i + 1) ys nw') Value.none s') E' { s with heap := h, toks := tk })
    (fin : ∀ ys nw, J n ys nw → Fin ys nw) : ∀ k i ys nw, i + k = n → J i ys nw → LCt.CompRestT prog w A h₀ L m env ct elt x scope cl s S P Fin k i ys nw := by
  intro k
  induction k with
  | zero =>
    intro i ys nw hi hJ
    rw [Nat.add_zero] at hi
    subst hi
    exact .zero (fin ys nw hJ)
  | succ k ih =>
    intro i ys nw hi hJ
    refine .succ fun v I oI C oC D m₂ h tk E' hP hC hx F N off ne => ?_
    refine wpAny_mono (turn i ys nw v I oI C oC D m₂ h tk E' (by omega) hJ hP hC hx F N off ne) (fun ok s₂ hs => ?_) fun _ _ e => e
    cases ok with
    | true =>
      rw [if_pos rfl] at hs ⊢
      refine wpAny_mono hs (fun y s₃ hs₃ => ?_) fun _ _ e => e
      obtain ⟨h', tk', nw', rfl, F', N', off', hS, hJ'⟩ := hs₃
      exact ⟨h', tk', nw', rfl, F', N', off', hS, ih (i + 1) (ys ++ [y]) nw' (by omega) hJ'⟩
    | false =>
      rw [if_neg Bool.false_ne_true] at hs ⊢
      obtain ⟨h', tk', nw', rfl, F', N', off', hS, hJ'⟩ := hs
      exact ⟨h', tk', nw', rfl, F', N', off', hS, ih (i + 1) ys nw' (by omega) hJ'⟩
end
/-- what is kept of the marks of c -/
noncomputable def mkI (c : Nat) : List Int := (marksN (fold2 c)).map fun (k : Nat) => ((k : Nat) : Int)
noncomputable def keptOf (c : Nat) : Str := stripT (kT (mkI c) 7)
noncomputable def wantAt (k : Nat) : Str := Txt.item (Str.ofString "abcdef") (5 - (k : Int))
noncomputable def wantL (c : Nat) : List Str := ((List.range 6).filter fun k => decide (c / 2 ^ (5 - k) % 2 = 0)).map wantAt
theorem kT_facts : ∀ c : Nat, c < 64 → (kT (mkI c) 7).length ≤ 20 ∧ ((kT (mkI c) 7).cps.all fun x => decide (x ≠ 92) && decide (x < 128)) = true := by decide +kernel
theorem kept_is : ∀ c : Nat, c < 64 → keptOf c = Txt.join (Str.ofString "") (wantL c) := by decide +kernel
theorem kept_cnt : ∀ c : Nat, c < 64 → cnt (keptOf c).cps.toList = (c : Int) ∧ ((keptOf c).cps.toList.all fun x => decide (97 ≤ x) && decide (x < 103)) = true := by decide +kernel
theorem kT_at {c : Nat} (hc : c < 64) : ∀ (j cc : Nat), (kT (mkI c) 7).cps[j]? = some cc → cc ≠ 92 ∧ cc < 128 := fun j cc h => by
  have hall := (kT_facts c hc).2
  rw [Array.all_eq_true_iff_forall_mem] at hall
  have := hall cc (Array.mem_of_getElem? h)
  simpa using this
theorem kept_at {c : Nat} (hc : c < 64) : ∀ x ∈ (keptOf c).cps.toList, 97 ≤ x ∧ x < 103 := fun x hx => by
  have := List.all_eq_true.mp (kept_cnt c hc).2 x hx
  simpa using this
theorem rowsN {h₀ h : Heap} {L : Addr} {r a b c d e : Addr × Obj} {tl : List (Addr × Obj)} (N : News h₀ L h (r :: tl ++ [a, b, c, d, e])) : News h₀ L h (a :: b :: c :: d :: r :: tl) := fun p hp => by
  have hr : ∀ q ∈ [a, b, c, d, e], q ∈ r :: tl ++ [a, b, c, d, e] := fun q hq => List.mem_append_right _ hq
  rcases List.mem_cons.mp hp with rfl | hp
  · exact N _ (hr _ (.head _))
  rcases List.mem_cons.mp hp with rfl | hp
  · exact N _ (hr _ (.tail _ (.head _)))
  rcases List.mem_cons.mp hp with rfl | hp
  · exact N _ (hr _ (.tail _ (.tail _ (.head _))))
  rcases List.mem_cons.mp hp with rfl | hp
  · exact N _ (hr _ (.tail _ (.tail _ (.tail _ (.head _)))))
  · exact N _ (List.mem_append_left _ hp)
theorem ownN {h₀ h : Heap} {L : Addr} {a b c d e : Addr × Obj} {tl own : List (Addr × Obj)} (N : News h₀ L h (own ++ (a :: b :: c :: d :: e :: tl))) : News h₀ L h (a :: b :: c :: d :: e :: (tl ++ own)) := fun p hp => by
  have hr : ∀ q ∈ a :: b :: c :: d :: e :: tl, q ∈ own ++ (a :: b :: c :: d :: e :: tl) := fun q hq => List.mem_append_right _ hq
  rcases List.mem_cons.mp hp with rfl | hp
  · exact N _ (hr _ (.head _))
  rcases List.mem_cons.mp hp with rfl | hp
  · exact N _ (hr _ (.tail _ (.head _)))
  rcases List.mem_cons.mp hp with rfl | hp
  · exact N _ (hr _ (.tail _ (.tail _ (.head _))))
  rcases List.mem_cons.mp hp with rfl | hp
  · exact N _ (hr _ (.tail _ (.tail _ (.tail _ (.head _)))))
  rcases List.mem_cons.mp hp with rfl | hp
  · exact N _ (hr _ (.tail _ (.tail _ (.tail _ (.tail _ (.head _))))))
  rcases List.mem_append.mp hp with hp | hp
  · exact N _ (hr _ (.tail _ (.tail _ (.tail _ (.tail _ (.tail _ hp))))))
  · exact N _ (List.mem_append_left _ hp)
theorem num_at {c1 c2 n f i : Nat} {ss : List Int} (h1 : [c1, c2][i]? = some n) (h2 : (numsOf c1 c2 ss)[i]? = some f) : f = fold2 n := by
  match i, h1, h2 with
  | 0, h1, h2 => cases h1; cases h2; rfl
  | 1, h1, h2 => cases h1; cases h2; rfl
noncomputable def wantP (c i : Nat) : List Str := ((List.range i).filter fun k => decide (c / 2 ^ (5 - k) % 2 = 0)).map wantAt
theorem wantP_on {c i : Nat} (h : c / 2 ^ (5 - i) % 2 = 0) : wantP c (i + 1) = wantP c i ++ [wantAt i] := by
  unfold wantP
  rw [List.range_succ, List.filter_append, List.map_append]
  simp [h]
theorem wantP_off {c i : Nat} (h : ¬ c / 2 ^ (5 - i) % 2 = 0) : wantP c (i + 1) = wantP c i := by
  unfold wantP
  rw [List.range_succ, List.filter_append, List.map_append]
  simp [h]
theorem wantP_len (c i : Nat) : (wantP c i).length ≤ i := by
  unfold wantP
  rw [List.length_map]
  exact Nat.le_trans (List.length_filter_le ..) (Nat.le_of_eq List.length_range)
theorem want_bit {n : Nat} {k : Nat} : Int.fmod (Int.fdiv (n : Int) ((2 ^ k : Nat) : Int)) 2 = 0 ↔ n / 2 ^ k % 2 = 0 := by
  rw [Int.fdiv_eq_ediv_of_nonneg _ (Int.natCast_nonneg _), Int.fmod_eq_emod_of_nonneg _ (by decide)]
  omega
theorem want_cond {n j : Nat} (hj : j < 6) : Int.fmod (Int.fdiv (n : Int) (2 ^ Int.toNat (5 - (0 + (j : Int))))) 2 = 0 ↔ n / 2 ^ (5 - j) % 2 = 0 := by
  rw [show Int.toNat (5 - (0 + (j : Int))) = 5 - j from by omega, show (2 : Int) ^ (5 - j) = ((2 ^ (5 - j) : Nat) : Int) from (Int.natCast_pow 2 (5 - j)).symm]
  exact want_bit
theorem strs_snoc {zs : List Value} {xs : List Str} {x y : Str} {t : Tok} (h : StrsAre zs xs) (e : x = y) : StrsAre (zs ++ [.str x t]) (xs ++ [y]) := by
  subst e
  induction h with
  | nil => exact .cons _ _ .nil
  | cons x t _ ih => exact .cons _ _ ih
theorem strs_on {n j : Nat} {zs : List Value} {t : Tok} (hj : j < 6) (h : Int.fmod (Int.fdiv (n : Int) (2 ^ Int.toNat (5 - (0 + (j : Int))))) 2 = 0) (hz : StrsAre zs (wantP n j)) : StrsAre (zs ++ [.str (Txt.item (Str.ofString "abcdef") (5 - (0 + (j : Int)))) t]) (wantP n (j + 1)) := by
  have h2 := (want_cond hj).mp h
  rw [wantP_on (c := n) (i := j) h2]
  exact strs_snoc hz (by unfold wantAt; rw [Int.zero_add])
theorem strs_off {n j : Nat} {zs : List Value} (hj : j < 6) (h : ¬ (Int.fmod (Int.fdiv (n : Int) (2 ^ Int.toNat (5 - (0 + (j : Int))))) 2 = 0)) (hz : StrsAre zs (wantP n j)) : StrsAre zs (wantP n (j + 1)) := by
  have h2 : ¬ n / 2 ^ (5 - j) % 2 = 0 := fun q => h ((want_cond hj).mpr q)
  rw [wantP_off (c := n) (i := j) h2]
  exact hz
theorem joinok_want : ∀ n : Nat, n < 64 → JoinOk (Str.ofString "") (wantP n 6) = true := by decide +kernel
theorem join_want {n : Nat} (h : n < 64) : Txt.join (Str.ofString "") (wantP n 6) = keptOf n := (kept_is n h).symm
theorem ints_four {ws : List Value} {a b c d : Int} (h : IntsAre ws [a, b, c, d]) : ∃ t1 t2 t3 t4, ws = [.int a t1, .int b t2, .int c t3, .int d t4] := by
  cases h with | cons _ t1 h => cases h with | cons _ t2 h => cases h with | cons _ t3 h => cases h with | cons _ t4 h => cases h; exact ⟨t1, t2, t3, t4, rfl⟩
theorem rows_at {ss : List Int} {mo n : Nat} (h : n ≤ mo) : (rowsX ss mo)[n]? = some [(wAt ss n).e, (wAt ss n).n, (wAt ss n).r, (wAt ss n).u] := by
  unfold rowsX
  rw [List.getElem?_map, List.getElem?_range (by omega)]; rfl
theorem tupsN {h₀ h : Heap} {L T1 T2 T3 : Addr} {a b c d : Value} {ws : List Value} {r : List (Addr × Obj)} (N : News h₀ L h ([(T2, tupO [c, d])] ++ ([(T1, tupO [a, b])] ++ r))) (h3 : (T3, tupO ws) ∈ r) :
    News h₀ L h ((T1, { cls := .type "tuple", data := .seq #[a, b] }) :: (T2, { cls := .type "tuple", data := .seq #[c, d] }) :: (T3, tupO ws) :: r) := fun p hp => by
  rcases List.mem_cons.mp hp with rfl | hp
  · exact N _ (.tail _ (.head _))
  rcases List.mem_cons.mp hp with rfl | hp
  · exact N _ (.head _)
  rcases List.mem_cons.mp hp with rfl | hp
  · exact N _ (.tail _ (.tail _ h3))
  · exact N _ (.tail _ (.tail _ hp))
theorem nat_small {n : Nat} (h : n < 64) : ((n : Nat) : Int) < 2 ^ 63 := by omega
theorem endN {h₀ h : Heap} {L : Addr} {x1 x2 x3 x4 x5 a b c d e : Addr × Obj} {tl own : List (Addr × Obj)} (N : News h₀ L h (x1 :: x2 :: x3 :: x4 :: x5 :: a :: b :: c :: d :: e :: (tl ++ own))) : News h₀ L h (own ++ (a :: b :: c :: d :: e :: tl)) := fun p hp => by
  have hr : ∀ q ∈ a :: b :: c :: d :: e :: (tl ++ own), q ∈ x1 :: x2 :: x3 :: x4 :: x5 :: a :: b :: c :: d :: e :: (tl ++ own) := fun q hq => .tail _ (.tail _ (.tail _ (.tail _ (.tail _ hq))))
  rcases List.mem_append.mp hp with hp | hp
  · exact N _ (hr _ (.tail _ (.tail _ (.tail _ (.tail _ (.tail _ (List.mem_append_right _ hp)))))))
  rcases List.mem_cons.mp hp with rfl | hp
  · exact N _ (hr _ (.head _))
  rcases List.mem_cons.mp hp with rfl | hp
  · exact N _ (hr _ (.tail _ (.head _)))
  rcases List.mem_cons.mp hp with rfl | hp
  · exact N _ (hr _ (.tail _ (.tail _ (.head _))))
  rcases List.mem_cons.mp hp with rfl | hp
  · exact N _ (hr _ (.tail _ (.tail _ (.tail _ (.head _)))))
  rcases List.mem_cons.mp hp with rfl | hp
  · exact N _ (hr _ (.tail _ (.tail _ (.tail _ (.tail _ (.head _))))))
  · exact N _ (hr _ (.tail _ (.tail _ (.tail _ (.tail _ (.tail _ (List.mem_append_left _ hp)))))))
theorem law_end {s₀ s₁ : Shared} {scr : List Int} {h' : Heap} {tk : Nat} {g : Array GenState} {L : Addr} {m : Str → Option Value} (hgb : AllBare g) (F : Fr s₁.heap L h' m) :
    GoodWG (RowW.claim (OpenRow.toRowW (OpenLaw.row PySem.Challenge.rw_ta0024_01))) (classAt s₀.heap) (ExcName.means s₀.heap) [ofPy (PyData.list (List.map PyData.int scr))] s₁ (.ok (.ret (.bool true))) { heap := h', gens := g, drawn := s₁.drawn, toks := tk, os := s₁.os } := by
  refine ⟨.inl ⟨_, .bool true, [], rfl, fun cls => rfl, .bool true, ?kpost, fun _ => ⟨List.nodup_nil, fun a h => nomatch h⟩⟩, .of_keep F.keep, rfl, hgb⟩
  refine' postW_of ?ks ?kv ?ke
  case ks => o_shape
  case kv => wtm_val
  case ke => w_fin
end
section
open PySem.W.X
local macro_rules | `(tactic| walk_at "eval Name") => `(tactic| (k_here; (with_reducible show wpAny _ _ (eval (Expr.Name _ _) (envOfC _ _ _ _ _)) _ _ _); k_dflt (first
  | (refine' nameX_L ?F ?v ?_ ?a ?b; (case F => k_asm); (case a => rfl); (case b => rfl); (case v => first | exact rfl | assumption); k_whole)
  | (refine' nameX_C ?N ?c ?m ?d ?_ ?a ?b; (case a => rfl); (case b => rfl); (case N => k_asm); (case c => rfl); (case m => k_mem); (case d => k_asm); k_whole)
  | (refine' nameX_K ?F ?X ?T ?e ?_ ?a ?b; (case F => k_asm); (case X => k_asm); (case T => k_asm); (case a => rfl); (case b => rfl); (case e => k_is); k_whole)
  | (refine' nameX_B ?F ?X ?T ?e ?v ?n ?_ ?a ?b; (case F => k_asm); (case X => k_asm); (case T => k_asm); (case a => rfl); (case b => rfl); (case e => k_is); (case v => boot_fast); (case n => decide); k_whole))))
local macro_rules | `(tactic| walk_at "toks_le") => `(tactic| (repeat (first | exact Nat.le_refl _ | apply Nat.le_succ_of_le)))
theorem rs0 : True := by
  w_top off
  exact trivial
inductive LwA (b : Nat) (oF : Obj) (CN SI : Addr) (cv sv : List Value) (c1 c2 i : Nat) (m : Str → Option Value) (nw : List (Addr × Obj)) : Prop
  | mk (OD : Addr) (ov : List Value) (c : Nat) (oC : Obj) (ks : List (Nat × Nat)) (e : nw = (OD, listOf (List.toArray ov) c) :: (b + 1 + 1, oF) :: (b + 1, oC) :: (CN, listOf (List.toArray cv) cv.length) :: (SI, listOf (List.toArray sv) sv.length) :: [])
    (n1 : OD ≠ b + 1) (n2 : OD ≠ b + 1 + 1) (n3 : OD ≠ CN) (n4 : OD ≠ SI) (hx : ∃ x, oC.data = .cell x) (hks : OkK ks) (hmap : ks.map (·.1) = [fold2 c1, fold2 c2].take i) (hov : IntsAre ov (octL ks))
    (mo : m (Str.ofString "octets") = some (.ref OD)) (msd : m (Str.ofString "sides") = some (.ref SI)) (mco : m (Str.ofString "counts") = some (.ref CN))
inductive LwB (b : Nat) (oF oC : Obj) (CN SI : Addr) (cv sv : List Value) (c1 c2 : Nat) (ss : List Int) (i : Nat) (m : Str → Option Value) (nw : List (Addr × Obj)) : Prop
  | mk (OD : Addr) (ov : List Value) (c : Nat) (ks : List (Nat × Nat)) (e : nw = (OD, listOf (List.toArray ov) c) :: (b + 1 + 1, oF) :: (b + 1, oC) :: (CN, listOf (List.toArray cv) cv.length) :: (SI, listOf (List.toArray sv) sv.length) :: [])
    (n1 : OD ≠ b + 1) (n2 : OD ≠ b + 1 + 1) (n3 : OD ≠ CN) (n4 : OD ≠ SI) (hks : OkK ks) (hmap : ks.map (·.1) = (numsOf c1 c2 ss).take (2 + i)) (hov : IntsAre ov (octL ks))
    (mo : m (Str.ofString "octets") = some (.ref OD)) (msd : m (Str.ofString "sides") = some (.ref SI)) (mco : m (Str.ofString "counts") = some (.ref CN))
inductive LwC (FI OD : Addr) (ks : List (Nat × Nat)) (L : List (Addr × Obj)) (N : List Nat) (i : Nat) (ys : List Value) (nw : List (Addr × Obj)) : Prop
  | mk (o : Obj) (e : nw = (FI, o) :: L) (h : ItO o OD (posK ks i)) (hy : IntsAre ys ((N.take i).map fun k => ((k : Nat) : Int)))
inductive LwD (b : Nat) (L : List (Addr × Obj)) (SG RW : Addr) (m : Str → Option Value) (nw : List (Addr × Obj)) : Prop
  | mk (oC : Obj) (e : nw = (b + 1, oC) :: L) (hx : ∃ x, oC.data = .cell x) (msg : m (Str.ofString "signed") = some (.ref SG)) (mrw : m (Str.ofString "rows") = some (.ref RW))
theorem law_holds : PySem.Challenge.rw_ta0024_01.Holds := by
  w_on
  refine holds_law ws fun said => ?_
  refine holds_openX (q := pgL) (loose := [Str.ofString "COMPILER_FLAG_NAMES"]) (Xt := fun s => xlAt pgL [] s && recOk (RowW.records (OpenRow.toRowW (OpenLaw.row PySem.Challenge.rw_ta0024_01))) s) (XP := XL pgL []) (Yf := obsZ asL) (Ya := valZ kfL 192 480) (N := 2174) ?hl (fun s e => xl_of s (Bool.and_eq_true_iff.mp e).1) XL.keeps (by rfl) (by rfl) (by rfl) (fun s e => recFacts_of (Bool.and_eq_true_iff.mp e).2) (by rfl) (by first | assumption | decide +kernel) (by decide +kernel) ⟨rfl, rfl, rfl, rfl, rfl, by decide +kernel⟩ ?hw ?hc
  (case hl => exact hl_top)
  (case hw => w_witness2)
  w_strict (
  clear said
  intro w s₀ s₁ mg mb G0 y fa o pm cd doc dV kV ho hd hcd hD hmg hg args vals as hLaid hpre hlay hrd hwl hlo
  have ZF := z_facts as_of y
  have KX : (kfL w.params).In s₁.heap := InK.keeps w s₀.heap s₁.heap ZF.2.1 (Laid.keeps hLaid)
  have ZT : s₀.toks = 480 := ZF.2.2.2
  have G : Ground pgL [Str.ofString "COMPILER_FLAG_NAMES"] (RowW.records (OpenRow.toRowW (OpenLaw.row PySem.Challenge.rw_ta0024_01))) (XL pgL []) w s₀ mg mb s₁.heap := G0
  clear G0 y ZF
  revert KX
  k_fill
  intro KX
  have X := (Ground.X G).1
  have V := (Ground.X G).2
  have GL := glob_more (Ground.glob G gn gi) V
  refine Ground.open G ?_
  intro T B D TE TW
  try (refine guard_noD D (by decide +kernel) ?_; clear D)
  obtain ⟨_, _, M⟩ := bmod_of_top T
  have TA := at_of_top T
  try (obtain ⟨_, _, he, B0⟩ := based_of_top T rfl hmg ho hd; have he' : cd = _ := he; subst he'; clear he)
  clear hmg
  wrow_args hpre hlay hrd hwl hlo
  have htk : 480 ≤ s₁.toks := script_toks hLaid ZT
  clear hLaid ZT
  first | refine callC_kw (enter_call ?_) | refine enter_call ?_ | refine callC_kw (enter_callW ?_) | refine enter_callW ?_ | w_how
  w_top on
  have K0 := below_caller (Top.heap T)
  have he := Dflts.none hD rfl
  subst he
  have he := Dflts.noKw hD
  subst he
  refine call_cellsT (by decide) ho (fd_plain hd) (Top.nolimit T) hcd (BindsTo.of_eq rfl) (kinds_of (by kinds_ok)) (by decide) htk (fun h₁ tk₁ cells htk1 F N0 X0 => ?_) rfl rfl rfl
  cells_open X0
  clear hd TA
  k_drop
  try k_fold
  (repeat ((fail_if_success (with_reducible show wpAny _ _ (subscriptTail (Expr.List _ _) _ _ _) _ _ _)); walk_at "m_one"))
  refine kba_turn (value' := PySem.Expr.Name (PySem.Str.ofString "_") ⟨0, 0, 0, 0⟩) (fun _ => rfl) ?_
  refine' kmk_slice_ints (ns := [45, 22, 1, -2, 0, 4, -1, 2]) (c := _) ?z9q9F ?z9q9N ?z9q9l ?z9q9p ?z9q9q ?z9q9i (kmk_from ?z9q9i2 (Int.natCast_nonneg _)) ?z9q9c ?_ ?z9q9s (fun _ => rfl) ?z9q9z
  case z9q9F => k_asm
  case z9q9N => k_asm
  case z9q9l => kmk_list
  case z9q9p => kmk_part
  case z9q9q => kmk_part
  case z9q9i => exact .cons _ _ (.cons _ _ (.cons _ _ (.cons _ _ (.cons _ _ (.cons _ _ (.cons _ _ (.cons _ _ .nil)))))))
  case z9q9i2 => exact .cons _ _ (.cons _ _ (.cons _ _ (.cons _ _ (.cons _ _ (.cons _ _ (.cons _ _ (.cons _ _ .nil)))))))
  case z9q9c => exact rfl
  case z9q9s => with_unfolding_all rfl
  case z9q9z => exact Nat.le_trans (Nat.le_refl 8) le8
  intro D2 W2 h2 kF kN kl kI _ _
  (with_reducible rename IntsAre _ (List.take _ _) => kI1)
  refine' add_named kF kN (.tail _ (.tail _ (.head _))) (.head _) ?z9q9z fun D3 h3 kF3 kN3 kl3 => ?_
  case z9q9z =>
    have e1 := kI1.length
    have e2 := kI.length
    rw [List.length_take] at e1
    rw [List.length_drop] at e2
    rw [e1, e2]
    exact Nat.le_trans (Nat.add_le_add (Nat.min_le_left _ _) (Nat.sub_le _ _)) le16
  rename List Int => scr
  have kI3 := IntsAre.append kI1 kI
  have h8 : (List.take 8 scr ++ List.drop (Int.toNat (scr.length : Int)) [45, 22, 1, -2, 0, 4, -1, 2]).length = 8 := by
    rw [List.length_append, List.length_take, List.length_drop, Int.toNat_natCast]
    exact min8 scr.length
  generalize List.take 8 scr ++ List.drop (Int.toNat (scr.length : Int)) [45, 22, 1, -2, 0, 4, -1, 2] = sd at kI3 h8
  clear kI1 kI kF kN kl
  refine newsVals kN3 fun SV hSV kN4 => ?_
  rw [← hSV] at kI3
  clear hSV kN3
  have kN5 := drop3 kN4
  clear kN4
  (repeat ((fail_if_success (with_reducible show wpAny _ _ (exec (Stmt.Assign _ (Expr.ListComp _ _ _ _) _) _) _ _ _)); walk_at "m_one"))
  refine wpAny_with_toks (n := 480) (Nat.le_trans htk1 (by dsimp only; walk_at "toks_le")) ?_
  (repeat ((fail_if_success (with_reducible show _ ≤ _ → _)); walk_at "m_one"))
  intro htk2
  (repeat ((fail_if_success (with_reducible show wpAny _ _ (exec (Stmt.Assign _ (Expr.ListComp _ _ _ _) _) _) _ _ _)); walk_at "m_one"))
  refine wpAny_with_toks (n := 480) (Nat.le_trans htk2 (by dsimp only; walk_at "toks_le")) ?_
  (repeat ((fail_if_success (with_reducible show _ ≤ _ → _)); walk_at "m_one"))
  intro htk3
  (repeat ((fail_if_success (with_reducible show wpAny _ _ (exec (Stmt.For _ _ _ _ _) _) _ _ _)); walk_at "m_one"))
  (with_reducible rename News _ _ _ _ => kN)
  (with_reducible rename _ < _ ∧ _ < _ ∧ _ < _ ∧ _ < _ ∧ _ < _ ∧ _ < _ ∧ _ < _ => kOL)
  rename _ ≠ _ ∧ _ ≠ _ ∧ _ ≠ _ ∧ _ ≠ _ ∧ _ ≠ _ ∧ _ ≠ _ => kSI
  rename _ ≠ _ ∧ _ ≠ _ ∧ _ ≠ _ ∧ _ ≠ _ => kCN
  (with_reducible rename IntsAre _ (List.map _ (List.drop _ _)) => kIs)
  (with_reducible rename IntsAre _ (List.map _ (List.take _ _)) => kIc)
  obtain ⟨c1, c2, hc1, hc2, ec⟩ := cs_of sd h8
  rw [ec] at kIc
  obtain ⟨hs6, hss⟩ := ss_of sd h8
  generalize (List.map (fun k' => if 0 ≤ k' then Int.fmod k' (10 ^ Int.toNat 12) + 1 else -Int.fmod (-k') (10 ^ Int.toNat 12) - 1) (List.drop 2 sd)) = ss at kIs hs6 hss
  refine lawNames kN fun OL SI CN sv cv oF oC eOL eSI eCN esv ecv eoF eoC kNN => ?_
  subst eOL eSI eCN esv ecv eoF eoC
  clear ec h8
  k_drop
  clear kN hcd hD kl3
  (with_reducible rename oC.data = _ => kOC)
  (with_reducible rename oF.data = _ => kOF)
  w_top off
  have kEnd : ∀ h' tk g m, AllBare g → Fr s₁.heap s₁.heap.objs.size h' m → qk (.ret (.bool true)) { heap := h', gens := g, drawn := s₁.drawn, toks := tk, os := s₁.os } := fun h' tk g m hgb F => law_end hgb F
  clear_value qk ek
  clear GL
  have kBelow : Below callerA s₁.heap [] s₁.heap := K0
  clear K0
  have hC1a : CN ≠ s₁.heap.objs.size + 1 := Ne.symm kCN.2.2.2
  have hC1b : SI ≠ s₁.heap.objs.size + 1 := Ne.symm kSI.2.2.2.2.2
  have hC2a : CN ≠ s₁.heap.objs.size + 1 + 1 := Ne.symm kCN.2.2.1
  have hC2b : SI ≠ s₁.heap.objs.size + 1 + 1 := Ne.symm kSI.2.2.2.2.1
  refine wpAny_For ?_ (by intro _; rfl)
  (repeat ((fail_if_success (with_reducible show wpAny _ _ (pyIter _) _ _ _)); walk_at "m_one"))
  (with_reducible rename Fr _ _ _ _ => kF)
  refine forL (lo := 480) (ax := CN) (its := cv.toArray) (k := cv.length) rfl (.tail _ (.tail _ (.tail _ (.head _)))) (Nat.le_trans htk3 (by dsimp only; walk_at "toks_le")) kF kNN
    (LwA s₁.heap.objs.size oF CN SI cv sv c1 c2) ?z9hJ ?z9j0 ?z9step ?z9fin
  case z9hJ =>
    rintro i m' nw ⟨OD, ov, c, oC, ks, rfl, _⟩
    exact .tail _ (.tail _ (.tail _ (.head _)))
  case z9j0 =>
    exact ⟨OL, [], 0, oC, [], rfl, Nat.ne_of_gt kOL.2.2.2.2.2.2, Nat.ne_of_gt kOL.2.2.2.2.2.1, Nat.ne_of_gt kOL.2.2.1, Nat.ne_of_gt kOL.1, ⟨_, kOC⟩, (fun _ h => nomatch h), rfl, .nil, rfl, rfl, rfl⟩
  case z9step =>
    clear kF kNN
    rintro i v m1 nw1 h1 tk1 oI I hi hv ⟨OD, ov, c, oC', ks, rfl, n1, n2, n3, n4, ⟨xc, hxc⟩, hks, hmap, hov, mo, msd, mco⟩ htk hoff kF kN
    have kIc' : IntsAre cv ([c1, c2].map fun k => ((k : Nat) : Int)) := kIc
    obtain ⟨c', tc, rfl, hc'⟩ := kIc'.at i v (by simpa using hv)
    rw [List.getElem?_map] at hc'
    obtain ⟨n, hn, rfl⟩ := Option.map_eq_some_iff.mp hc'
    have hn64 : n < 64 := by
      rcases List.mem_cons.mp (List.mem_of_getElem? hn) with rfl | h
      · exact hc1
      · rw [List.mem_singleton.mp h]; exact hc2
    have hI1 := hoff (s₁.heap.objs.size + 1, oC') (.tail _ (.tail _ (.head _)))
    k_dflt (refine' storeX_C (cn := _) (a := _) (ccd := _) ?z9F ?z9N ?z9c ?z9U ?z9d ?_ ?z9a ?z9b; (case z9a => rfl); (case z9b => rfl); (case z9F => k_asm); (case z9N => k_asm); (case z9c => rfl); (case z9U => exact .tail (Ne.symm hI1) (.tail n1 (.tail (Nat.succ_ne_self _) (.head (offC1 hC1a hC1b))))); (case z9d => k_asm); k_whole; intro h3 oCell kF kN hCell)
    (repeat ((fail_if_success (with_reducible show wpAny _ _ (call (Value.ref 141) _ _) _ _ _)); walk_at "m_one"))
    rw [fold2_xor n hn64]
    have C9 := fun nw t => c_octets (w := w) (mean := ExcName.means s₀.heap) (mg := mg) (mb := mb) nw (fold2 n) t (Nat.lt_trans (fold2_lt n hn64) (by decide))
    walk_at "m_useW"
    rename_i hR9 htk9 kF3 kN3 hoff9
    clear C9
    obtain ⟨l9, v9, c9, k9, e9, f9, hi9, hk9, hk9'⟩ := hR9
    subst e9
    subst f9
    dsimp only
    have hks2 := okK_snoc hks hk9 hk9' (Nat.lt_trans (fold2_lt n hn64) (by decide))
    have hlen := octL_len hks2
    have hov2 := IntsAre.append hov hi9
    rw [← octL_snoc] at hov2
    have hmap2 : (ks ++ [(fold2 n, k9)]).map (·.1) = [fold2 c1, fold2 c2].take (i + 1) := by
      rw [List.map_append, hmap, List.take_add_one]
      congr 1
      rw [show [fold2 c1, fold2 c2] = [c1, c2].map fold2 from rfl, List.getElem?_map, hn]; rfl
    have hkl2 : ks.length ≤ 2 := by
      have := congrArg List.length hmap
      rw [List.length_map, List.length_take] at this
      rw [this]; exact Nat.min_le_right _ _
    refine' add_named kF3 kN3 (.tail _ (.tail _ (.head _))) (.head _) ?z9q9z fun D3 h8 kF8 kN8 kl8 => ?_
    case z9q9z =>
      have e1 := hov2.length
      rw [List.length_append] at e1
      rw [e1]
      exact Nat.le_trans hlen (octs_fit hkl2)
    refine newsVals kN8 fun W hW kN8 => ?_
    rw [← hW] at hov2
    walk_at "m_go"
    (with_reducible rename Fr _ _ _ _ => kF5)
    (with_reducible rename News _ _ _ _ => kN5)
    refine ⟨_, _, _, [(D3, listOf (List.toArray W) 0), (s₁.heap.objs.size + 1 + 1, oF), (s₁.heap.objs.size + 1, oCell), (CN, listOf (List.toArray cv) cv.length), (SI, listOf (List.toArray sv) sv.length)], rfl, kF5, ?z9N, ?z9off, trivial, D3, W, 0, oCell, _, rfl, ?z9n1, ?z9n2, ?z9n3, ?z9n4, ⟨_, hCell⟩, hks2, hmap2, hov2, rfl, msd, mco⟩
    case z9N => exact loopN kN5
    case z9off => exact loopOff (kl8 (I, oI) (.tail _ (.head _))) hoff
    case z9n1 => exact Nat.ne_of_gt (kl8 (s₁.heap.objs.size + 1, oCell) (.tail _ (.tail _ (.tail _ (.tail _ (.head _))))))
    case z9n2 => exact Nat.ne_of_gt (kl8 (s₁.heap.objs.size + 1 + 1, oF) (.tail _ (.tail _ (.tail _ (.head _)))))
    case z9n3 => exact Nat.ne_of_gt (kl8 (CN, listOf (List.toArray cv) cv.length) (.tail _ (.tail _ (.tail _ (.tail _ (.tail _ (.head _)))))))
    case z9n4 => exact Nat.ne_of_gt (kl8 (SI, listOf (List.toArray sv) sv.length) (.tail _ (.tail _ (.tail _ (.tail _ (.tail _ (.tail _ (.head _))))))))
  case z9fin =>
    clear kF kNN
    rintro h1 tk1 m1 nw1 htk4 kF kN ⟨OD, ov, c, oC', ks, rfl, n1, n2, n3, n4, ⟨xc, hxc⟩, hks, hmap, hov, mo, msd, mco⟩
    rw [show cv.toArray.size = 2 from by rw [List.size_toArray, kIc.length]; rfl] at hmap
    (repeat ((fail_if_success (with_reducible show wpAny _ _ (exec (Stmt.For _ _ _ _ _) _) _ _ _)); walk_at "m_one"))
    refine wpAny_For ?_ (by intro _; rfl)
    (repeat ((fail_if_success (with_reducible show wpAny _ _ (pyIter _) _ _ _)); walk_at "m_one"))
    refine forL (lo := 480) (ax := SI) (its := sv.toArray) (k := sv.length) rfl (.tail _ (.tail _ (.tail _ (.tail _ (.head _))))) (Nat.le_trans htk4 (by dsimp only; walk_at "toks_le")) kF kN
      (LwB s₁.heap.objs.size oF oC' CN SI cv sv c1 c2 ss) ?z9hJ2 ?z9j02 ?z9step2 ?z9fin2
    case z9hJ2 =>
      rintro i m' nw ⟨OD, ov, c, ks, rfl, _⟩
      exact .tail _ (.tail _ (.tail _ (.tail _ (.head _))))
    case z9j02 => exact ⟨OD, ov, c, ks, rfl, n1, n2, n3, n4, hks, hmap, hov, mo, msd, mco⟩
    case z9step2 =>
      clear kF kN hmap hov mo msd mco n1 n2 n3 n4 hks
      rintro i v m1 nw1 h1 tk1 oI I hi hv ⟨OD, ov, c, ks, rfl, n1, n2, n3, n4, hks, hmap, hov, mo, msd, mco⟩ htk hoff kF kN
      obtain ⟨z, tz, rfl, hz⟩ := kIs.at i v (by simpa using hv)
      have hzb := hss z (List.mem_of_getElem? hz)
      have hzz := bits_of hzb.2
      (repeat ((fail_if_success (with_reducible show wpAny _ _ (call (Value.ref 141) _ _) _ _ _)); walk_at "m_one"))
      · rename 0 < z => hz0
        rw [enc_pos hz0]
        have C9 := fun nw t => c_octets (w := w) (mean := ExcName.means s₀.heap) (mg := mg) (mb := mb) nw (enc z) t (enc_lt hzb)
        walk_at "m_useW"
        rename_i hR9 htk9 kF3 kN3 hoff9
        clear C9
        obtain ⟨l9, v9, c9, k9, e9, f9, hi9, hk9, hk9'⟩ := hR9
        subst e9
        subst f9
        dsimp only
        have hks2 := okK_snoc hks hk9 hk9' (enc_lt hzb)
        have hlen := octL_len hks2
        have hov2 := IntsAre.append hov hi9
        rw [← octL_snoc] at hov2
        have hmap2 : (ks ++ [(enc z, k9)]).map (·.1) = (numsOf c1 c2 ss).take (2 + (i + 1)) := by
          rw [List.map_append, hmap, ← Nat.add_assoc, List.take_add_one]
          congr 1
          rw [Nat.add_comm 2 i]
          show _ = ((ss.map enc)[i]?).toList
          rw [List.getElem?_map, hz]; rfl
        have hkl2 : ks.length ≤ 8 := by
          have := congrArg List.length hmap
          rw [List.length_map, List.length_take] at this
          rw [this]
          refine Nat.le_trans (Nat.min_le_right _ _) ?_
          show (ss.map enc).length + 2 ≤ 8
          rw [List.length_map, hs6]; exact Nat.le_refl _
        refine' add_named kF3 kN3 (.tail _ (.tail _ (.head _))) (.head _) ?z9q9z fun D3 h8 kF8 kN8 kl8 => ?_
        case z9q9z =>
          have e1 := hov2.length
          rw [List.length_append] at e1
          rw [e1]
          exact Nat.le_trans hlen (octs_fit hkl2)
        refine newsVals kN8 fun W hW kN8 => ?_
        rw [← hW] at hov2
        walk_at "m_go"
        (with_reducible rename Fr _ _ _ _ => kF5)
        (with_reducible rename News _ _ _ _ => kN5)
        refine ⟨_, _, _, [(D3, listOf (List.toArray W) 0), (s₁.heap.objs.size + 1 + 1, oF), (s₁.heap.objs.size + 1, oC'), (CN, listOf (List.toArray cv) cv.length), (SI, listOf (List.toArray sv) sv.length)], rfl, kF5, ?z9N, ?z9off, trivial, D3, W, 0, _, rfl, ?z9n1, ?z9n2, ?z9n3, ?z9n4, hks2, hmap2, hov2, rfl, msd, mco⟩
        case z9N => exact loopN kN5
        case z9off => exact loopOff (kl8 (I, oI) (.tail _ (.head _))) hoff
        case z9n1 => exact Nat.ne_of_gt (kl8 (s₁.heap.objs.size + 1, oC') (.tail _ (.tail _ (.tail _ (.tail _ (.head _))))))
        case z9n2 => exact Nat.ne_of_gt (kl8 (s₁.heap.objs.size + 1 + 1, oF) (.tail _ (.tail _ (.tail _ (.head _)))))
        case z9n3 => exact Nat.ne_of_gt (kl8 (CN, listOf (List.toArray cv) cv.length) (.tail _ (.tail _ (.tail _ (.tail _ (.tail _ (.head _)))))))
        case z9n4 => exact Nat.ne_of_gt (kl8 (SI, listOf (List.toArray sv) sv.length) (.tail _ (.tail _ (.tail _ (.tail _ (.tail _ (.tail _ (.head _))))))))
      · rename ¬ (0 < z) => hz0
        (repeat ((fail_if_success (with_reducible show wpAny _ _ (call (Value.ref 141) _ _) _ _ _)); walk_at "m_one"))
        rw [enc_neg hz0]
        have C9 := fun nw t => c_octets (w := w) (mean := ExcName.means s₀.heap) (mg := mg) (mb := mb) nw (enc z) t (enc_lt hzb)
        walk_at "m_useW"
        rename_i hR9 htk9 kF3 kN3 hoff9
        clear C9
        obtain ⟨l9, v9, c9, k9, e9, f9, hi9, hk9, hk9'⟩ := hR9
        subst e9
        subst f9
        dsimp only
        have hks2 := okK_snoc hks hk9 hk9' (enc_lt hzb)
        have hlen := octL_len hks2
        have hov2 := IntsAre.append hov hi9
        rw [← octL_snoc] at hov2
        have hmap2 : (ks ++ [(enc z, k9)]).map (·.1) = (numsOf c1 c2 ss).take (2 + (i + 1)) := by
          rw [List.map_append, hmap, ← Nat.add_assoc, List.take_add_one]
          congr 1
          rw [Nat.add_comm 2 i]
          show _ = ((ss.map enc)[i]?).toList
          rw [List.getElem?_map, hz]; rfl
        have hkl2 : ks.length ≤ 8 := by
          have := congrArg List.length hmap
          rw [List.length_map, List.length_take] at this
          rw [this]
          refine Nat.le_trans (Nat.min_le_right _ _) ?_
          show (ss.map enc).length + 2 ≤ 8
          rw [List.length_map, hs6]; exact Nat.le_refl _
        refine' add_named kF3 kN3 (.tail _ (.tail _ (.head _))) (.head _) ?z9q9z fun D3 h8 kF8 kN8 kl8 => ?_
        case z9q9z =>
          have e1 := hov2.length
          rw [List.length_append] at e1
          rw [e1]
          exact Nat.le_trans hlen (octs_fit hkl2)
        refine newsVals kN8 fun W hW kN8 => ?_
        rw [← hW] at hov2
        walk_at "m_go"
        (with_reducible rename Fr _ _ _ _ => kF5)
        (with_reducible rename News _ _ _ _ => kN5)
        refine ⟨_, _, _, [(D3, listOf (List.toArray W) 0), (s₁.heap.objs.size + 1 + 1, oF), (s₁.heap.objs.size + 1, oC'), (CN, listOf (List.toArray cv) cv.length), (SI, listOf (List.toArray sv) sv.length)], rfl, kF5, ?z9N, ?z9off, trivial, D3, W, 0, _, rfl, ?z9n1, ?z9n2, ?z9n3, ?z9n4, hks2, hmap2, hov2, rfl, msd, mco⟩
        case z9N => exact loopN kN5
        case z9off => exact loopOff (kl8 (I, oI) (.tail _ (.head _))) hoff
        case z9n1 => exact Nat.ne_of_gt (kl8 (s₁.heap.objs.size + 1, oC') (.tail _ (.tail _ (.tail _ (.tail _ (.head _))))))
        case z9n2 => exact Nat.ne_of_gt (kl8 (s₁.heap.objs.size + 1 + 1, oF) (.tail _ (.tail _ (.tail _ (.head _)))))
        case z9n3 => exact Nat.ne_of_gt (kl8 (CN, listOf (List.toArray cv) cv.length) (.tail _ (.tail _ (.tail _ (.tail _ (.tail _ (.head _)))))))
        case z9n4 => exact Nat.ne_of_gt (kl8 (SI, listOf (List.toArray sv) sv.length) (.tail _ (.tail _ (.tail _ (.tail _ (.tail _ (.tail _ (.head _))))))))
    case z9fin2 =>
      clear kF kN hmap hov mo msd mco n1 n2 n3 n4 hks
      rintro h1 tk1 m1 nw1 htk5 kF kN ⟨OD, ov, c, ks, rfl, n1, n2, n3, n4, hks, hmap, hov, mo, msd, mco⟩
      have hmap : ks.map (·.1) = numsOf c1 c2 ss := by
        rw [hmap, List.size_toArray, kIs.length]
        refine List.take_of_length_le ?_
        show (ss.map enc).length + 2 ≤ 2 + ss.length
        rw [List.length_map]; omega
      w_top off
      (repeat ((fail_if_success (with_reducible show wpAny _ _ (call (.builtin "iter") _ _) _ _ _)); walk_at "m_one"))
      refine call_iter kF kN (.head _) fun FI h2 oI kF2 kN2 kl2 hIt => ?_
      clear kF kN
      (repeat ((fail_if_success (with_reducible show wpAny _ _ (storeName _ _ _) _ _ _)); walk_at "m_one"))
      have f1 : FI ≠ s₁.heap.objs.size + 1 + 1 := Nat.ne_of_gt (kl2 (s₁.heap.objs.size + 1 + 1, oF) (.tail _ (.head _)))
      have f2 : FI ≠ OD := Nat.ne_of_gt (kl2 (OD, _) (.head _))
      k_dflt (refine' storeX_C (cn := _) (a := _) (ccd := _) ?z9F ?z9N ?z9c ?z9U ?z9d ?_ ?z9a ?z9b; (case z9a => rfl); (case z9b => rfl); (case z9F => k_asm); (case z9N => k_asm); (case z9c => rfl); (case z9U => exact .tail f1 (.tail n2 (.head (offC2 hC2a hC2b)))); (case z9d => k_asm); k_whole; intro h3 oFc kF kN hCell)
      clear kF2 kN2
      (repeat ((fail_if_success (with_reducible show wpAny _ _ (exec (Stmt.Assign _ (Expr.ListComp _ _ _ _) _) _) _ _ _)); walk_at "m_one"))
      refine wpAny_with_toks (n := 480) (Nat.le_trans htk5 (by dsimp only; walk_at "toks_le")) ?_
      k_dflt (refine LCg.Assign_ListComp_U (F₀ := by k_asm) (by rfl) (by with_unfolding_all rfl) (by with_unfolding_all rfl) (by decide) (by rfl) (by decide) (by rfl) (by rfl) (by rfl) ?_)
      (repeat ((fail_if_success (with_reducible show LCg.CompSrc _ _ _ _ _ _ _ _ _ _ _ _ _ _)); walk_at "m_one"))
      (with_reducible rename Fr _ _ _ _ => kF2)
      (with_reducible rename News _ _ _ _ => kN2)
      k_dflt (refine LCg.CompSrc.range (n := 8) (by rfl) (by k_asm) (by k_asm) (by assumption) (by decide) (by rfl) (by exact Nat.le_of_ble_eq_true rfl) ?_)
      intro g9
      have hnl : (numsOf c1 c2 ss).length = 8 := by
        show (ss.map enc).length + 2 = 8
        rw [List.length_map, hs6]
      have hksl : ks.length = 8 := by
        have := congrArg List.length hmap
        rwa [List.length_map, hnl] at this
      have hrest : ∀ q ∈ [(OD, listOf (List.toArray ov) c), (s₁.heap.objs.size + 1 + 1, oFc), (s₁.heap.objs.size + 1, oC'), (CN, listOf (List.toArray cv) cv.length), (SI, listOf (List.toArray sv) sv.length)], q.1 ≠ FI := fun q hq => by
        rcases List.mem_cons.mp hq with rfl | hq
        · exact Ne.symm f2
        rcases List.mem_cons.mp hq with rfl | hq
        · exact Ne.symm f1
        · exact Nat.ne_of_lt (kl2 q (.tail _ (.tail _ hq)))
      refine comp_ind (LwC FI OD ks [(OD, listOf (List.toArray ov) c), (s₁.heap.objs.size + 1 + 1, oFc), (s₁.heap.objs.size + 1, oC'), (CN, listOf (List.toArray cv) cv.length), (SI, listOf (List.toArray sv) sv.length)] (numsOf c1 c2 ss)) ?z9turn ?z9fin _ 0 [] _ (Nat.zero_add _) ⟨oI, rfl, hIt, .nil⟩
      case z9turn =>
        clear kF2 kN2
        rintro i ys nw v I oI' C oC D2 m2 h2 tk2 E2 hi ⟨o', rfl, hIt', hys⟩ hv hC hx kF kN hoff hne
        (repeat ((fail_if_success (with_reducible show wpAny _ _ (eval (Expr.Name _ _) _) _ _ _)); walk_at "m_one"))
        walk_at "m_one"
        (repeat ((fail_if_success (with_reducible show wpAny _ _ (eval (Expr.Name _ _) _) _ _ _)); walk_at "m_one"))
        (with_reducible rename News _ _ _ _ => kN3)
        k_dflt (refine kcf_cell kN3 (by rfl) (.tail _ (.tail _ (.tail _ (.tail _ (.tail _ (.head _)))))) hCell ?_)
        (repeat ((fail_if_success (with_reducible show wpAny _ _ (call (Value.ref 29) _ _) _ _ _)); walk_at "m_one"))
        have hi8 : i < ks.length := by rw [hksl]; exact hi
        obtain ⟨n, k, hnk⟩ : ∃ n k, ks[i]? = some (n, k) := ⟨ks[i].1, ks[i].2, List.getElem?_eq_getElem hi8⟩
        have hok := hks _ (List.mem_of_getElem? hnk)
        have hn : (numsOf c1 c2 ss)[i]? = some n := by rw [← hmap, List.getElem?_map, hnk]; rfl
        have kN4 := rotFI kN3
        clear kN3
        have C9 := fun nw hm off => c_varint (w := w) (mean := ExcName.means s₀.heap) (mg := mg) (mb := mb) FI OD nw ov (octL ks) c (posK ks i) n k hm hov off (fun j hj => octL_at hnk hj) hok.1 hok.2.1 hok.2.2
        k_dflt (refine' ConV.use (C9 _ ?z9hm ?z9hoff) ?z9k1 ?z9k2 ?z9k3 kN4 ?z9k5 ?z9kK ?z9kd ?z9ku hIt' ?_)
        case z9k1 => k_asm
        case z9k2 => k_asm
        case z9k3 => k_asm
        case z9k5 => k_asm
        case z9kK => exact rfl
        case z9kd => k_room
        case z9ku => ktr_units
        case z9hm => exact .tail _ (.tail _ (.tail _ (.head _)))
        case z9hoff => exact off4 hoff hrest
        clear C9 kF kN4
        intro t9 o9 h9 tk9 hIt9 kF kN
        have kN5 := rotIF kN
        clear kN
        walk_at "m_go"
        refine LCg.CompEnd.intro kF kN5 _ (fun p hp => hp) (off3_head hoff) trivial ⟨o9, rfl, ?_, ?_⟩
        · rw [posK_succ hnk]; exact hIt9
        · rw [List.take_add_one, hn, List.map_append]
          exact IntsAre.append hys (.cons _ _ .nil)
      case z9fin =>
        clear kF2 kN2
        rintro ys nw ⟨oE, rfl, hItE, hys⟩ DR hR tkR kF kN hoff
        rw [← hksl, posK_end] at hItE
        rw [List.take_of_length_le (Nat.le_of_eq hnl)] at hys
        have hoffm := off1_mem hoff
        (repeat ((fail_if_success (with_reducible show _ ≤ _ → _)); walk_at "m_one"))
        intro htk6
        w_top off
        (repeat ((fail_if_success (with_reducible show wpAny _ _ (call (.type "list") _ _) _ _ _)); walk_at "m_one"))
        refine wpAny_with_toks (n := 480) (Nat.le_trans htk6 (by dsimp only; walk_at "toks_le")) ?_
        refine call_list_end rfl kF (news_swap kN) (off_cons (Ne.symm (hoffm (FI, oE) (.head _))) hrest) (by rw [List.size_toArray, hov.length]; exact hItE) (.tail _ (.head _)) fun EL h8 tk8 c8 kF8 kN8 kl8 htk8 => ?_
        clear kF kN
        (repeat ((fail_if_success (with_reducible show wpAny _ _ (exec (Stmt.Assign _ (Expr.ListComp _ _ _ _) _) _) _ _ _)); walk_at "m_one"))
        refine wpAny_with_toks (n := 480) (Nat.le_trans htk8 (by dsimp only; walk_at "toks_le")) ?_
        (repeat ((fail_if_success (with_reducible show _ ≤ _ → _)); walk_at "m_one"))
        intro htk9
        (repeat ((fail_if_success (with_reducible show wpAny _ _ (call (.builtin "max") _ _) _ _ _)); walk_at "m_one"))
        refine wpAny_with_toks (n := 480) htk9 ?_
        walk_at "m_one"
        intro htk10
        rename _ ∨ _ => kM1
        (with_reducible rename _ ≤ _ ∧ _ ≤ _ => kM2)
        obtain ⟨mo, emo, hmo63, hmo1, hmo2⟩ := max_nat kM1 kM2 hc1 hc2
        subst emo
        clear kM1 kM2
        (repeat ((fail_if_success (with_reducible show wpAny _ _ (call (Value.ref 148) _ _) _ _ _)); walk_at "m_one"))
        (with_reducible rename IntsAre _ (List.map _ (List.drop 2 (List.map _ (numsOf c1 c2 ss)))) => kIg)
        rw [signed_of c1 c2 ss hss] at kIg
        (with_reducible rename News _ _ _ _ => kN)
        (with_reducible rename _ ≠ _ ∧ _ ≠ _ ∧ _ ≠ _ ∧ _ ≠ _ ∧ _ ≠ _ ∧ _ ≠ _ ∧ _ ≠ _ ∧ _ ≠ _ ∧ _ ≠ _ => kSG)
        refine lawNames2 kN fun SG gv rv eSG egv erv kNN => ?_
        subst eSG egv erv
        clear kN
        have C9 := fun nw t hm => c_walk (w := w) (mean := ExcName.means s₀.heap) (mg := mg) (mb := mb) nw SI sv ss sv.length mo t hm kIs hs6 (fun z hz => ⟨bits_of (hss z hz).2, bits_of ⟨by have := (hss z hz).2; omega, by have := (hss z hz).2; omega⟩⟩) (fun z hz => (hss z hz).1) hmo63
        k_dflt (refine' ConW.use (C9 _ _ ?z9hm) ?z9k1 ?z9k2 ?z9k3 kNN ?z9k5 ?z9kK ?z9kd ?z9ku ?z9kl ?_)
        case z9hm => exact .tail _ (.tail _ (.tail _ (.tail _ (.head _))))
        case z9k1 => k_asm
        case z9k2 => k_asm
        case z9k3 => k_asm
        case z9k5 => k_asm
        case z9kK => exact rfl
        case z9kd => k_room
        case z9ku => ktr_units
        case z9kl => exact Nat.zero_le _
        clear C9
        intro v9 own9 h9 tk9 hR9 htk11 kF kN hoffR
        obtain ⟨RW, es, tl, cR, e9, f9, hTR⟩ := hR9
        subst e9
        subst f9
        have htk12 : 480 ≤ tk9 := Nat.le_trans htk10 htk11
        clear htk11 htk10
        dsimp only
        (repeat ((fail_if_success (with_reducible show wpAny _ _ (exec (Stmt.For _ _ _ _ _) _) _ _ _)); walk_at "m_one"))
        (with_reducible rename News _ _ _ _ => kN0)
        have kN : News _ _ _ ((s₁.heap.objs.size + 1, oC') :: (CN, listOf (List.toArray cv) cv.length) :: (DR, listOf (List.toArray rv) rv.length) :: (SG, listOf (List.toArray gv) gv.length) :: (RW, listOf (List.toArray es) cR) :: tl) := rowsN kN0
        clear kN0
        have hDR1 : DR ≠ s₁.heap.objs.size + 1 := Ne.symm (hoffm (s₁.heap.objs.size + 1, oC') (.tail _ (.tail _ (.tail _ (.head _)))))
        have hSG1 : SG ≠ s₁.heap.objs.size + 1 := Ne.symm kSG.2.2.2.2.2.2.1
        have hC1 : ∀ (own : List (Addr × Obj)), (∀ p ∈ own, p.1 ≠ s₁.heap.objs.size + 1) → ∀ p ∈ (CN, listOf (List.toArray cv) cv.length) :: (DR, listOf (List.toArray rv) rv.length) :: (SG, listOf (List.toArray gv) gv.length) :: (RW, listOf (List.toArray es) cR) :: (tl ++ own), p.1 ≠ s₁.heap.objs.size + 1 := by
          intro own ho p hp
          rcases List.mem_cons.mp hp with rfl | hp
          · exact hC1a
          rcases List.mem_cons.mp hp with rfl | hp
          · exact hDR1
          rcases List.mem_cons.mp hp with rfl | hp
          · exact hSG1
          rcases List.mem_cons.mp hp with rfl | hp
          · exact Ne.symm (hoffR (RW, listOf (List.toArray es) cR) (.head _) (s₁.heap.objs.size + 1, oC') (.head _))
          rcases List.mem_append.mp hp with hp | hp
          · exact Ne.symm (hoffR p (.tail _ hp) (s₁.heap.objs.size + 1, oC') (.head _))
          · exact ho p hp
        clear hoffR hoffm kSG
        w_top off
        refine wpAny_For ?_ (by intro _; rfl)
        (repeat ((fail_if_success (with_reducible show wpAny _ _ (call (.type "zip") _ _) _ _ _)); walk_at "m_one"))
        (with_reducible rename Fr _ _ _ _ => kF)
        have hlt : ∀ p ∈ (s₁.heap.objs.size + 1, oC') :: (CN, listOf (List.toArray cv) cv.length) :: (DR, listOf (List.toArray rv) rv.length) :: (SG, listOf (List.toArray gv) gv.length) :: (RW, listOf (List.toArray es) cR) :: tl, p.1 < _ := fun p hp => Heap.lt_size (kN p hp).1
        refine forZ (lo := 480) (l1 := CN) (l2 := DR) (xs := cv.toArray) (ys := rv.toArray) (k1 := cv.length) (k2 := rv.length) rfl rfl (.tail _ (.head _)) (.tail _ (.tail _ (.head _))) (Nat.le_trans htk12 (by dsimp only; walk_at "toks_le")) (AllBare.of_eq hg) kF kN
          (fun _ => LwD s₁.heap.objs.size ((CN, listOf (List.toArray cv) cv.length) :: (DR, listOf (List.toArray rv) rv.length) :: (SG, listOf (List.toArray gv) gv.length) :: (RW, listOf (List.toArray es) cR) :: tl) SG RW) ?z9hJ3 ?z9j03 ?z9step3 ?z9fin3
        case z9hJ3 =>
          rintro i m' nw ⟨oC, rfl, _⟩ p hp
          rcases List.mem_cons.mp hp with rfl | hp
          · exact hlt (s₁.heap.objs.size + 1, oC') (.head _)
          · exact hlt p (.tail _ hp)
        case z9j03 => exact ⟨oC', rfl, ⟨_, hxc⟩, rfl, rfl⟩
        case z9step3 =>
          rintro i x y m2 nw2 h2 tk2 g2 own hx hy ⟨oC2, rfl, ⟨xc2, hxc2⟩, msg, mrw⟩ htk2' hgb hown kF2 kN2
          have kIc' : IntsAre cv ([c1, c2].map fun k => ((k : Nat) : Int)) := kIc
          obtain ⟨c', tc, rfl, hc'⟩ := kIc'.at i x (by simpa using hx)
          rw [List.getElem?_map] at hc'
          obtain ⟨n, hn, rfl⟩ := Option.map_eq_some_iff.mp hc'
          obtain ⟨f', tf, rfl, hf'⟩ := hys.at i y (by simpa using hy)
          rw [List.getElem?_map] at hf'
          obtain ⟨f, hf, rfl⟩ := Option.map_eq_some_iff.mp hf'
          have hfn := num_at hn hf
          subst hfn
          have hn64 : n < 64 ∧ n ≤ mo := by
            rcases List.mem_cons.mp (List.mem_of_getElem? hn) with rfl | h
            · exact ⟨hc1, hmo1⟩
            · rw [List.mem_singleton.mp h]; exact ⟨hc2, hmo2⟩
          have hoC1 : ∀ p ∈ own, p.1 ≠ s₁.heap.objs.size + 1 := fun p hp => by
            rcases hown p hp with h | h | h
            · exact Nat.ne_of_gt (Nat.lt_of_lt_of_le (hlt (s₁.heap.objs.size + 1, oC') (.head _)) h)
            · rw [h]; exact hC1a
            · rw [h]; exact hDR1
          have kN3 := ownN kN2
          clear kN2 kN kF
          k_dflt (refine' storeX_C (cn := _) (a := _) (ccd := _) ?z9F ?z9N ?z9c ?z9U ?z9d ?_ ?z9a ?z9b; (case z9a => rfl); (case z9b => rfl); (case z9F => k_asm); (case z9N => k_asm); (case z9c => rfl); (case z9U => exact .head (hC1 own hoC1)); (case z9d => k_asm); k_whole; intro h3 oCell kF kN hCell)
          clear kF2 kN3
          (repeat ((fail_if_success (with_reducible show wpAny _ _ (call (Value.ref 153) _ _) _ _ _)); walk_at "m_one"))
          have C9 := fun nw t => c_places (w := w) (mean := ExcName.means s₀.heap) (mg := mg) (mb := mb) nw (fold2 n) t (fold2_lt n hn64.1)
          k_dflt (refine' ConW.use (C9 _ _) ?z9k1 ?z9k2 ?z9k3 ?z9k4 ?z9k5 ?z9kK ?z9kd ?z9ku ?z9kl ?_)
          case z9k1 => k_asm
          case z9k2 => k_asm
          case z9k3 => k_asm
          case z9k4 => k_asm
          case z9k5 => k_asm
          case z9kK => exact rfl
          case z9kd => k_room
          case z9ku => ktr_units
          case z9kl => exact Nat.le_trans htk2' (by dsimp only; walk_at "toks_le")
          clear C9
          intro v9 own9 h9 tk9' hR9 htk13 kF kN hoffP
          obtain ⟨LP, vp, cp, e9, f9, hip⟩ := hR9
          subst e9
          subst f9
          replace htk13 : 480 ≤ tk9' := Nat.le_trans (Nat.le_trans htk2' (by dsimp only; walk_at "toks_le")) htk13
          dsimp only
          (repeat ((fail_if_success (with_reducible show wpAny _ _ (call (Value.ref 160) _ _) _ _ _)); walk_at "m_one"))
          have C9 := fun nw hm => c_kept (w := w) (mean := ExcName.means s₀.heap) (mg := mg) (mb := mb) nw LP vp (mkI n) cp hm hip (kT_at hn64.1) (kT_facts n hn64.1).1
          k_dflt (refine' ConG.use (C9 _ ?z9hm) ?z9k1 ?z9k2 ?z9k3 ?z9k4 ?z9k5 ?z9kK ?z9kd ?z9ku ?z9kl ?z9kb ?_)
          case z9k1 => k_asm
          case z9k2 => k_asm
          case z9k3 => k_asm
          case z9k4 => k_asm
          case z9hm => exact .head _
          case z9k5 => k_asm
          case z9kK => exact rfl
          case z9kd => k_room
          case z9ku => ktr_units
          case z9kl => exact Nat.zero_le _
          case z9kb => exact hgb
          clear C9
          intro v9 own9 h9 tk9' g9 hR9 hgb9 htk14 kF kN _
          obtain ⟨e9, tkk, f9⟩ := hR9
          subst e9
          subst f9
          simp only [List.nil_append] at kN
          replace htk14 : 480 ≤ tk9' := Nat.le_trans (Nat.le_trans htk13 (by dsimp only; walk_at "toks_le")) htk14
          clear htk13 hgb
          rw [show stripT (kT (mkI n) 7) = keptOf n from rfl]
          dsimp only
          (repeat ((fail_if_success (with_reducible show wpAny _ _ (eval (Expr.ListComp _ _ _ _) _) _ _ _)); walk_at "m_one"))
          refine wpAny_with_toks (n := 480) (Nat.le_trans htk14 (by dsimp only; walk_at "toks_le")) ?_
          k_dflt (refine LCt.ListComp_T (F₀ := by k_asm) (by with_unfolding_all rfl) (by decide) (by rfl) (by decide) (by rfl) ?_)
          (repeat ((fail_if_success (with_reducible show LCt.CompSrcT _ _ _ _ _ _ _ _ _ _ _ _ _ _ _)); walk_at "m_one"))
          (with_reducible rename News _ _ _ _ => kN6)
          (with_reducible rename Fr _ _ _ _ => kF6)
          refine newsName kN6 fun NW hNW kN7 => ?_
          k_dflt (refine LCt.CompSrcT.range (n := 6) (news := NW) (by rfl) (by k_asm) (by exact kN7) (by assumption) (by decide) (by rfl) (by exact Nat.le_of_ble_eq_true rfl) ?_)
          intro gg9
          refine comp_indT (fun i ys nw => nw = NW ∧ StrsAre ys (wantP n i)) ?z9turn4 ?z9fin4 _ 0 [] NW (Nat.zero_add _) ⟨rfl, .nil⟩
          case z9turn4 =>
            clear kF6 kN6 kN7
            rintro j zs nw v I oI C oC D2 m3 h4 tk4 E4 hj ⟨rfl, hzs⟩ ⟨tj, rfl⟩ hC hx3 kF kN hoff hne
            subst hNW
            (repeat ((fail_if_success (with_reducible show wpAny _ _ (eval (Expr.Name _ _) _) _ _ _)); walk_at "m_one"))
            k_dflt (refine kcf_cell kN (by rfl) (.tail _ (.tail _ (.tail _ (.tail _ (.head _))))) hCell ?_)
            (repeat (walk_at "m_one1"; walk_at "m_one"))
            · rename Int.fmod _ _ = 0 => hcd
              refine LCg.CompEnd.intro kF kN _ (fun p hp => hp) hoff trivial ⟨rfl, ?_⟩
              exact strs_on hj hcd hzs
            · rename ¬ (Int.fmod _ _ = 0) => hcd
              refine LCg.CompEnd.intro kF kN _ (fun p hp => hp) hoff trivial ⟨rfl, ?_⟩
              exact strs_off hj hcd hzs
          case z9fin4 =>
            clear kF6 kN6 kN7
            rintro zs nw ⟨rfl, hzs⟩ DJ hJ tkJ kF kN hoffJ htk15
            subst hNW
            (repeat ((fail_if_success (with_reducible show wpAny _ _ (call (.builtin "str.join") _ _) _ _ _)); walk_at "m_one"))
            refine wpAny_with_toks (n := 480) (Nat.le_trans htk15 (by dsimp only; walk_at "toks_le")) ?_
            refine join_at kN (.head _) hzs (joinok_want n hn64.1) fun tj kj htk16 => ?_
            rw [join_want hn64.1]
            (repeat ((fail_if_success (with_reducible show wpAny _ _ (truthy _) _ _ _)); walk_at "m_one"))
            rw [show (keptOf n != keptOf n) = false from bne_self_eq_false _]
            (repeat ((fail_if_success (with_reducible show wpAny _ _ (call (.ref 174) _ _) _ _ _)); walk_at "m_one"))
            have kN8 : News _ _ _ ((LP, listOf (List.toArray vp) cp) :: (s₁.heap.objs.size + 1, oCell) :: (CN, listOf (List.toArray cv) cv.length) :: (DR, listOf (List.toArray rv) rv.length) :: (SG, listOf (List.toArray gv) gv.length) :: (RW, listOf (List.toArray es) cR) :: (tl ++ own)) := fun p hp => kN p (.tail _ hp)
            clear kN hoffJ
            have C9 := fun nw hm1 hm2 => c_point (w := w) (mean := ExcName.means s₀.heap) (mg := mg) (mb := mb) nw LP SG vp gv (marksN (fold2 n)) ss cp gv.length hm1 hm2 hip kIg hs6 (fun z hz => bits_of (hss z hz).2) (fun k hk => marks_lt hk)
            k_dflt (refine' ConW.use (C9 _ ?z9hm1 ?z9hm2) ?z9k1 ?z9k2 ?z9k3 ?z9k4 ?z9k5 ?z9kK ?z9kd ?z9ku ?z9kl ?_)
            case z9k1 => k_asm
            case z9k2 => k_asm
            case z9k3 => k_asm
            case z9k4 => k_asm
            case z9hm1 => exact .head _
            case z9hm2 => exact .tail _ (.tail _ (.tail _ (.tail _ (.head _))))
            case z9k5 => k_asm
            case z9kK => exact rfl
            case z9kd => k_room
            case z9ku => ktr_units
            case z9kl => exact Nat.zero_le _
            clear C9
            intro v9 own9 h9 tk9' hR9 htk17 kF kN hoffT
            obtain ⟨T1, tA, tB, e9, f9⟩ := hR9
            subst e9
            subst f9
            replace htk17 : 480 ≤ tk9' := Nat.le_trans (Nat.le_trans htk16 (by dsimp only; walk_at "toks_le")) htk17
            clear htk15 htk16
            (repeat ((fail_if_success (with_reducible show wpAny _ _ (call (.ref 167) _ _) _ _ _)); walk_at "m_one"))
            have C9 := fun nw t => c_count (w := w) (mean := ExcName.means s₀.heap) (mg := mg) (mb := mb) nw (keptOf n) t (kept_at hn64.1)
            k_dflt (refine' Con.use (C9 _ _) ?z9k1 ?z9k2 ?z9k3 ?z9k4 ?z9k5 ?z9kK ?z9kd ?z9ku ?z9kl ?_)
            case z9k1 => k_asm
            case z9k2 => k_asm
            case z9k3 => k_asm
            case z9k4 => k_asm
            case z9k5 => k_asm
            case z9kK => exact rfl
            case z9kd => k_room
            case z9ku => ktr_units
            case z9kl => exact Nat.le_trans (by decide) (Nat.le_trans htk17 (by dsimp only; walk_at "toks_le"))
            clear C9
            intro v9 own9 h9 tk9'' hR9 htk18 kF kN _
            obtain ⟨e9, tC, f9⟩ := hR9
            subst e9
            subst f9
            simp only [List.nil_append] at kN
            rw [(kept_cnt n hn64.1).1]
            replace htk18 : 480 ≤ tk9'' := Nat.le_trans (Nat.le_trans htk17 (by dsimp only; walk_at "toks_le")) htk18
            (repeat ((fail_if_success (with_reducible show wpAny _ _ (call (.ref 186) _ _) _ _ _)); walk_at "m_one"))
            have C9 := fun nw t hm => c_step (w := w) (mean := ExcName.means s₀.heap) (mg := mg) (mb := mb) nw n t SG gv ss gv.length hn64.1 hm kIg hs6 (fun z hz => bits_of (hss z hz).2)
            k_dflt (refine' ConW.use (C9 _ _ ?z9hm) ?z9k1 ?z9k2 ?z9k3 ?z9k4 ?z9k5 ?z9kK ?z9kd ?z9ku ?z9kl ?_)
            case z9k1 => k_asm
            case z9k2 => k_asm
            case z9k3 => k_asm
            case z9k4 => k_asm
            case z9hm => exact .tail _ (.tail _ (.tail _ (.tail _ (.tail _ (.head _)))))
            case z9k5 => k_asm
            case z9kK => exact rfl
            case z9kd => k_room
            case z9ku => ktr_units
            case z9kl => exact Nat.le_trans htk18 (by dsimp only; walk_at "toks_le")
            clear C9
            intro v9 own9 h9 tk9 hR9 htk19 kF9 kN9 hoffT2
            obtain ⟨T2, tD, tE, e9, f9⟩ := hR9
            subst e9
            subst f9
            clear kF kN kN8
            obtain ⟨hw1, hw2⟩ := law_row ss hs6 (fun z hz => (hss z hz).1) n hn64.1
            rw [hw1, hw2] at kN9
            dsimp only at kN9
            obtain ⟨TR, ws, hTR1, hTR2, hTR3⟩ := hTR.at (rows_at (ss := ss) hn64.2)
            obtain ⟨tr1, tr2, tr3, tr4, rfl⟩ := ints_four hTR3
            have kN := tupsN kN9 (.tail _ (.tail _ (.tail _ (.tail _ (.tail _ (.tail _ (List.mem_append_left _ hTR2)))))))
            clear kN9
            unfold tupO at kN
            (repeat ((fail_if_success (with_reducible show wpAny _ _ (eval (Expr.Name _ _) _) _ _ _)); walk_at "m_one"))
            k_dflt (refine' nameX_L ?z9F ?z9v ?_ ?z9a ?z9b; (case z9F => k_asm); (case z9a => rfl); (case z9b => rfl); (case z9v => exact mrw); k_whole)
            (repeat ((fail_if_success (with_reducible show wpAny _ _ (subscriptTail _ _ _ _) _ _ _)); walk_at "m_one"))
            (with_reducible rename News _ _ _ _ => kN5)
            refine item_listL ⟨_, (kN5 (RW, listOf (List.toArray es) cR) ?z9memR).1, rfl, _, rfl⟩ (Int.natCast_nonneg _) ?z9bndR (by rw [Int.toNat_natCast]; exact hTR1) ?_
            case z9bndR => exact nat_small hn64.1
            case z9memR => exact .tail _ (.tail _ (.tail _ (.tail _ (.tail _ (.tail _ (.tail _ (.tail _ (.tail _ (.head _)))))))))
            generalize (wAt ss n).e = ve at kN5 hTR3 hw1 ⊢
            generalize (wAt ss n).n = vn at kN5 hTR3 hw1 ⊢
            generalize (wAt ss n).r = vr at kN5 hTR3 hw2 ⊢
            generalize (wAt ss n).u = vu at kN5 hTR3 hw2 ⊢
            walk_at "m_one"
            (repeat (walk_at "m_one1"; walk_at "m_one"))
            (with_reducible rename Fr _ _ _ _ => kF6)
            (with_reducible rename News _ _ _ _ => kN6)
            refine ⟨_, _, g9, _, (s₁.heap.objs.size + 1, oCell) :: (CN, listOf (List.toArray cv) cv.length) :: (DR, listOf (List.toArray rv) rv.length) :: (SG, listOf (List.toArray gv) gv.length) :: (RW, listOf (List.toArray es) cR) :: tl, rfl, hgb9, kF6, endN kN6, oCell, rfl, ⟨_, hCell⟩, msg, mrw⟩
        case z9fin3 =>
          clear kF kN
          rintro h2 tk2 g2 m2 nw2 hgb2 kF2 kN2 ⟨oC2, rfl, ⟨xc2, hxc2⟩, msg, mrw⟩
          (repeat (walk_at "m_one1"; walk_at "m_one"))
          exact kEnd _ _ _ _ hgb2 kF2)
end
end
end
end
end
end
end Mine
theorem PySem.Challenge.cw_ta0024_01_holds : PySem.Challenge.rw_ta0024_01.Holds :=
  Mine.law_holds
