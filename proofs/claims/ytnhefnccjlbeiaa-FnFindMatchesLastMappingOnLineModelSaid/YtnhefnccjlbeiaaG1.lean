/-
  zzCopyInt32s: a fresh row with the slice's elements.
-/
import Derived.Test.YtnhefnccjlbeiaaRow
import Derived.Test.YtnhefnccjlbeiaaD1
import Derived.Lib.SliceRun
namespace Go.Proofs.Ytnhefnccjlbeiaa
open Go.ChangeShapes Go.WideShapes Go.ChangeAt Go.RowKit
set_option linter.unusedVariables false
theorem info_i32 : (Try.prog.info? 21).map (fun i => (i.zero, i.size, i.bytes)) = some (some (.int .i32 0), 1, 4) := by kernel_rfl
@[go_sem] theorem eqnil61 (w : World) (a : Option Addr) (n c : Nat) : (binOp .eql 61 (.slice a n c) (.slice none 0 0)).run Try.prog w = .ok (.bool a.isNone) w := Lib.run_eql_slice_nil w 61 21 a n c 0 0 Try.underlying61
def Row32 (w : World) (g : Nat) (zs : List Int) : Prop := w.heap[g]? = some (.cells (arrV .i32 zs) 21 (0, 0))
theorem Row32.eq {w : World} {g : Nat} {zs : List Int} (h : Row32 w g zs) : w.heap[g]? = some (.cells (arrV .i32 zs) 21 (0, 0)) := h
theorem Row32.cell {w : World} {g : Nat} {zs : List Int} (h : Row32 w g zs) {j : Nat} (hj : j < zs.length) : w.cell? ⟨g, j, none⟩ = some (.int .i32 (zs.getD j 0)) := by
  have : (arrV .i32 zs)[j]? = some (.int .i32 (zs.getD j 0)) := by simp [hj]
  simp only [World.cell?, h.eq]
  exact this
theorem Row32.frozen {w : World} {g : Nat} {zs : List Int} (h : Row32 w g zs) (j : Nat) : w.frozen? ⟨g, j, none⟩ = false := by
  simp [World.frozen?, h.eq]
theorem Row32.set {w : World} {g : Nat} {zs : List Int} (h : Row32 w g zs) (j : Nat) (v : Int) : Row32 (w.setCell ⟨g, j, none⟩ (.int .i32 v)) g (zs.set j v) := by
  unfold Row32
  rw [heap_setCell_same w g j (arrV .i32 zs) 21 (.int .i32 v) h.eq]
  simp [arrV, List.map_set]
theorem grownby_cell {w wr : World} (h : w.grownBy wr none) {x : Addr} {v : Value} (hc : w.cell? x = some v) : wr.cell? x = some v := by
  have hl := block_lt_of_cell hc
  have := h.block x.block hl (by simp)
  rw [← hc]
  simp only [World.cell?, this]
theorem grownby_set' {a w : World} {g : Nat} (h : a.grownBy w none) (hg : a.heap.size ≤ g) (i : Nat) (u : Value) : a.grownBy (w.setCell ⟨g, i, none⟩ u) none :=
  ⟨h.os, h.tape, h.output, by simpa [World.setCell] using h.size, fun k hi hne => (Below.heap_setCell w ⟨g, i, none⟩ u k (by rintro rfl; omega)).trans (h.block k hi hne)⟩
theorem fill_set (zs : List Int) (n k : Nat) (hz : n ≤ zs.length) (hk : k < n) : (zs.take k ++ List.replicate (n - k) (0:Int)).set k (zs.getD k 0) = zs.take (k + 1) ++ List.replicate (n - (k + 1)) 0 := by
  have h1 : (zs.take k).length = k := by simp; omega
  have h2 : n - k = (n - (k + 1)) + 1 := by omega
  rw [List.set_append_right _ _ (by omega), h1, Nat.sub_self, h2, List.replicate_succ, List.set_cons_zero, List.take_succ_eq_append_getElem (show k < zs.length by omega)]
  have h3 : zs.getD k 0 = zs[k]'(by omega) := by simp [show k < zs.length by omega]
  rw [h3, List.append_assoc]
  rfl
theorem made_row (z : Value) (n : Nat) : madeCells #[z] n = (List.replicate n z).toArray := by
  apply Array.ext
  · simp [madeCells]
  · intro i h1 h2
    simp [madeCells, Nat.mod_one]
theorem made_row32 (w : World) (n : Nat) : Row32 (w.alloc (.cells (madeCells #[.int .i32 0] n) 21)) w.heap.size (List.replicate n 0) := by
  refine (heap_alloc_new _ _).trans ?_
  rw [made_row]
  simp [arrV]
theorem grownby_alloc (w : World) (o : Obj) : w.grownBy (w.alloc o) none :=
  ⟨rfl, rfl, rfl, by show w.heap.size ≤ (w.heap.push o).size; simp, fun k hk _ => heap_alloc_old w o hk⟩
set_option maxRecDepth 100000 in
theorem copy_any (w : World) (x : Addr) (n m : Nat) (zs : List Int) (hn : n ≤ 65536) (hz : n ≤ zs.length) (hc : ∀ i, i < zs.length → w.cell? (x.add i) = some (.int .i32 (zs.getD i 0))) : Calls Try.prog 34 #[.slice (some x) n m] w fun e w' => e = .returned (.slice (some ⟨w.heap.size, 0, none⟩) n n) ∧ Row32 w' w.heap.size (zs.take n) ∧ w.grownBy w' none := by
  obtain ⟨i0, hi, hzz⟩ := Option.map_eq_some_iff.1 info_i32
  simp only [Prod.mk.injEq] at hzz
  obtain ⟨hz0, hs, hb⟩ := hzz
  have HC := Lib.hid hc
  clear hc
  go_enter Try.func34, Try.ntmps34
  go_wp2_with (at_make; refine wpList_make_row _ rfl _ _ 61 rfl 21 i0 (.int .i32 0) Try.underlying61 hi hz0 hs rfl _ _ n rfl rfl (by rw [hb]; omega) (by omega) ?_)
  go_loopw [4] (fun i wr => ∃ k : Nat, k ≤ n ∧ i = .int .i64 k ∧ Row32 wr w.heap.size (zs.take k ++ List.replicate (n - k) 0) ∧ w.grownBy wr none) (fun i _ => n - (intOf i).toNat)
  case atStart =>
    refine ⟨0, by omega, rfl, ?_, grownby_alloc _ _⟩
    exact made_row32 w n
  case round =>
    obtain ⟨k, hk, rfl, hr, hg⟩ := hrel
    by_cases hlt : k < n
    · have q := grownby_cell hg (HC.out k (by omega))
      have hl : k < (zs.take k ++ List.replicate (n - k) (0:Int)).length := by simp; omega
      have hd := hr.cell hl
      have hf := hr.frozen k
      generalize hv : zs.getD k 0 = v at q
      generalize (zs.take k ++ List.replicate (n - k) (0:Int)).getD k 0 = o at hd
      have HR := Lib.hid hr; have HV := Lib.hid hv; have HG := Lib.hid hg
      clear hr hv hg hl
      go_wp2
      go_roundw
      case rel => exact ⟨k + 1, by omega, by go_num, by rw [← fill_set zs n k hz hlt, HV.out]; exact HR.out.set _ _, grownby_set' HG.out (Nat.le_refl _) _ _⟩
      case measure => simp [intOf]; omega
    · obtain rfl : k = n := by omega
      have HR := Lib.hid hr; have HG := Lib.hid hg
      clear hr hg
      go_wp2
      go_ret
      exact ⟨rfl, by simpa using HR.out, HG.out⟩
set_option maxRecDepth 100000 in
theorem copy_nil (w : World) : Calls Try.prog 34 #[.slice none 0 0] w fun e w' => e = .returned (.slice none 0 0) ∧ w.grownBy w' none := by
  go_enter Try.func34, Try.ntmps34
  go_wp2
  go_ret
  exact ⟨rfl, World.grownBy.refl _ _⟩
end Go.Proofs.Ytnhefnccjlbeiaa
