/-
  '==' and '!=' between two arrays of integers: as the lists of their numbers are. No condition.
-/
import Derived.Test.YtnhefnccjlbeiaaArr
import Derived.ChangeKeysEq
import Derived.Laws.StructEq
namespace Go.Proofs.Ytnhefnccjlbeiaa
open Go.ChangeShapes Go.WideShapes Go.ChangeAt Go.RowKit
section
variable {P : Program} (w : World)
theorem all_range_ints : ∀ (xs ys : List Int), xs.length = ys.length → ((List.range xs.length).all fun i => xs.getD i 0 == ys.getD i 0) = (xs == ys)
  | [], [], _ => rfl
  | x :: xs, y :: ys, h => by
    have ih := all_range_ints xs ys (by simpa using h)
    rw [List.length_cons, List.range_succ_eq_map, List.all_cons, List.all_map]
    simp only [List.getD_cons_zero, Function.comp_def, List.getD_cons_succ, ih]
    simp [List.cons_beq_cons]
  | [], _ :: _, h => by simp at h
  | _ :: _, [], h => by simp at h
theorem run_eqItems_ints (d : Nat) (e : TypeId) (k : IntKind) (he : P.underlying e = some (.int k)) (xs ys : List Int) (n : Nat) (hx : xs.length = n) (hy : ys.length = n) :
    ∀ is : List Nat, (∀ i ∈ is, i < n) → (Op.eqItems (d + 1) e 1 (arrV k xs) (arrV k ys) is).run P w = .ok (is.all fun i => xs.getD i 0 == ys.getD i 0) w
  | [], _ => by simp [Op.eqItems]
  | i :: is, h => by
    have hi : i < n := h i (by simp)
    have px : (part e (arrV k xs) (i * 1)).run P w = .ok (.int k (xs.getD i 0)) w := by
      simp [part, isAgg, run_underlying he, List.getElem?_eq_getElem (show i < xs.length by omega)]
    have py : (part e (arrV k ys) (i * 1)).run P w = .ok (.int k (ys.getD i 0)) w := by
      simp [part, isAgg, run_underlying he, List.getElem?_eq_getElem (show i < ys.length by omega)]
    have pe : (Op.equalIn (d + 1) e (.int k (xs.getD i 0)) (.int k (ys.getD i 0))).run P w = .ok (xs.getD i 0 == ys.getD i 0) w := run_equalIn_int w d e k k _ _ he
    simp only [Op.eqItems, Sem.run_bind, px, py, pe, Result.andThen_ok, List.all_cons]
    cases hb : (xs.getD i 0 == ys.getD i 0)
    · simp
    · simpa using run_eqItems_ints d e k he xs ys n hx hy is fun j hj => h j (by simp [hj])
theorem run_eq_ints (t e : TypeId) (n : Nat) (k : IntKind) (i : TypeInfo) (ht : P.underlying t = some (.array n e)) (hi : P.info? e = some i) (he : P.underlying e = some (.int k)) (hce : P.cellsOf e = 1)
    (xs ys : List Int) (hx : xs.length = n) (hy : ys.length = n) :
    (Op.equalIn 10000 t (.agg (arrV k xs)) (.agg (arrV k ys))).run P w = .ok (xs == ys) w := by
  rw [run_equalIn_array w 9999 _ _ ht hi, hce, run_eqItems_ints w 9998 e k he xs ys n hx hy _ (fun i hi => by simpa using hi), ← hx, all_range_ints xs ys (hx.trans hy.symm)]
theorem run_eql_ints (t e : TypeId) (n : Nat) (k : IntKind) (i : TypeInfo) (ht : P.underlying t = some (.array n e)) (hi : P.info? e = some i) (he : P.underlying e = some (.int k)) (hce : P.cellsOf e = 1)
    (xs ys : List Int) (hx : xs.length = n) (hy : ys.length = n) :
    (binOp .eql t (.agg (arrV k xs)) (.agg (arrV k ys))).run P w = .ok (.bool (xs == ys)) w := by
  rw [run_eql_struct, run_eq_ints w t e n k i ht hi he hce xs ys hx hy]; rfl
theorem run_neq_ints (t e : TypeId) (n : Nat) (k : IntKind) (i : TypeInfo) (ht : P.underlying t = some (.array n e)) (hi : P.info? e = some i) (he : P.underlying e = some (.int k)) (hce : P.cellsOf e = 1)
    (xs ys : List Int) (hx : xs.length = n) (hy : ys.length = n) :
    (binOp .neq t (.agg (arrV k xs)) (.agg (arrV k ys))).run P w = .ok (.bool (!(xs == ys))) w := by
  rw [run_neq_struct, run_eq_ints w t e n k i ht hi he hce xs ys hx hy]; rfl
end
end Go.Proofs.Ytnhefnccjlbeiaa
