/-
  UnionMax: the four cells behind the pointer become the greater of the two; nothing else that was there turns.
-/
import Derived.Test.YtkhedaaaimnikaaA
import Derived.Test.YtkhedaaaimnikaaArr
import Derived.Deep.OwnRows
import Derived.Laws.AppendOwn
import Derived.Laws.Rows
import Derived.Outline
import Derived.WalkLawsBesides
namespace Go.Proofs.Ytkhedaaaimnikaa
open Go.ChangeShapes Go.WideShapes Go.ChangeAt Go.RowKit
set_option linter.unusedVariables false

def mx (a b : Int) : Int := if a < b then b else a
def mix (z b : Nat → Int) (k i : Nat) : Int := if i < k then mx (z i) (b i) else z i

theorem grown_refl (w : World) (row : Option Nat) : w.grownBy w row := ⟨rfl, rfl, rfl, Nat.le_refl _, fun _ _ _ => rfl⟩
theorem grown_alloc {a w : World} {row : Option Nat} (h : a.grownBy w row) (o : Obj) : a.grownBy (w.alloc o) row :=
  ⟨h.os, h.tape, h.output, Nat.le_trans h.size (by simp), fun i hi hne => (Below.heap_alloc w o i (Nat.lt_of_lt_of_le hi h.size)).trans (h.block i hi hne)⟩
theorem grown_set {a w : World} {g : Nat} (h : a.grownBy w (some g)) (i : Nat) (u : Value) : a.grownBy (w.setCell ⟨g, i, none⟩ u) (some g) :=
  ⟨h.os, h.tape, h.output, by simpa [World.setCell] using h.size, fun k hi hne => (Below.heap_setCell w ⟨g, i, none⟩ u k (by rintro rfl; exact hne rfl)).trans (h.block k hi hne)⟩
theorem heap_alloc_last (w : World) (o : Obj) : (w.alloc o).heap[w.heap.size]? = some o := by
  show (w.heap.push o)[w.heap.size]? = some o
  simp
theorem row_alloc (w : World) (t : TypeId) (k : IntKind) (zs : List Int) : (w.alloc (.cells (arrV k zs) t)).rowIs w.heap.size t zs.length (fun i => .int k (zs.getD i 0)) :=
  ⟨arrV k zs, heap_alloc_last _ _, by simp, fun i hi => by simp [hi]⟩

theorem um (g : Nat) (z : Nat → Int) (bs : List Int) (w : World) (hb : bs.length = 4) (h : w.rowIs g 33 4 (fun i => .int .u32 (z i))) :
    Calls Try.prog 29 #[.pointer (some ⟨g, 0, none⟩), .agg (arrV .u32 bs)] w fun e w' => e = .returned (.tuple #[]) ∧ w'.rowIs g 33 4 (fun i => .int .u32 (mx (z i) (bs.getD i 0))) ∧ w.grownBy w' (some g) := by
  have hlt := h.lt
  go_enter Try.func29, Try.ntmps29
  go_wp2
  go_loopw [7] (fun i wr => ∃ k : Nat, k ≤ 4 ∧ i = .int .i64 k ∧ wr.rowIs g 33 4 (fun i => .int .u32 (mix z (fun i => bs.getD i 0) k i)) ∧ wr.rowIs w.heap.size 33 4 (fun i => .int .u32 (bs.getD i 0)) ∧ w.grownBy wr (some g)) (fun i _ => 4 - (intOf i).toNat)
  case atStart =>
    refine ⟨0, by omega, rfl, ?_, ?_, grown_alloc (grown_refl _ _) _⟩
    · refine World.rowIs.congr (World.rowIs.of_block h (Below.heap_alloc w _ g hlt)) fun i hi => ?_
      simp [mix]
    · have := row_alloc w 33 .u32 bs
      rw [hb] at this
      exact this
  case round =>
    obtain ⟨k, hk, rfl, hr, hq, hg⟩ := hrel
    by_cases hk4 : k < 4
    · have hca := hr.cell hk4
      have hcf := hr.frozen k
      have hcb := hq.cell hk4
      have hne : g ≠ w.heap.size := by omega
      have e1 : mix z (fun i => bs.getD i 0) k k = z k := by simp [mix]
      rw [e1] at hca
      have HR := Lib.hid hr; have HQ := Lib.hid hq; have HG := Lib.hid hg
      clear hr hq hg e1 h hb
      generalize hbk : bs.getD k 0 = bk at hcb
      have HB := Lib.hid hbk
      clear hbk
      by_cases hc : z k < bk
      · go_wp2
        go_roundw
        case rel =>
          refine ⟨k + 1, by omega, by go_num, World.rowIs.congr (HR.out.set k _) fun i hi => ?_, HQ.out.setOther (fun e => hne e.symm) _, grown_set HG.out k _⟩
          by_cases e : i = k
          · subst e
            simp only [mix, mx]
            rw [HB.out]
            simp [hc]
          · simp only [mix, mx]
            by_cases e2 : i < k
            · simp [e, e2, Nat.lt_succ_of_lt e2]
            · simp [e, e2, show ¬ i < k + 1 by omega]
        case measure => simp [intOf]; omega
      · go_wp2
        go_roundw
        case rel =>
          refine ⟨k + 1, by omega, by go_num, World.rowIs.congr HR.out fun i hi => ?_, HQ.out, HG.out⟩
          by_cases e : i = k
          · subst e
            simp only [mix, mx]
            rw [HB.out]
            simp [hc]
          · simp only [mix, mx]
            by_cases e2 : i < k
            · simp [e2, Nat.lt_succ_of_lt e2]
            · simp [e2, show ¬ i < k + 1 by omega]
        case measure => simp [intOf]; omega
    · obtain rfl : k = 4 := by omega
      have HR := Lib.hid hr; have HQ := Lib.hid hq; have HG := Lib.hid hg
      clear hr hq hg h hb
      go_wp2
      go_end0
      refine ⟨rfl, World.rowIs.congr HR.out fun i hi => ?_, HG.out⟩
      simp [mix, hi]
