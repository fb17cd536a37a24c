/-
  The walk of FnCharFreqScanSplitsOverConcatenation.
-/
import Derived.Test.YtnhefnccjlbeiaaD3
namespace Go.Proofs.Ytnhefnccjlbeiaa
open Go.ChangeShapes Go.WideShapes Go.ChangeAt Go.RowKit
set_option linter.unusedVariables false
theorem zb22 (a : Array Value) (s t : ByteArray) (d : Int) (w : World) (hs : s.size ≤ maxLen) (ht : t.size ≤ maxLen) : Calls Try.prog 22 #[.agg a, .string s, .string t, .int .i32 d] w fun e w' => e = .returned (.bool (decide (s.size ≤ 1048576 ∧ t.size ≤ 1048576 ∧ s.size + t.size ≤ 1048576))) ∧ Below w.heap.size w w' := by
  unfold maxLen at hs ht
  by_cases h : s.size ≤ 1048576
  · by_cases h2 : t.size ≤ 1048576
    · by_cases h3 : s.size + t.size ≤ 1048576
      · go_enter Try.func22, Try.ntmps22
        go_wp2
        go_ret
        exact ⟨ret_bool (by simp [h, h2, h3]), (Below.refl _ _).alloc (Nat.le_refl _) _⟩
      · have h3' : 1048576 < s.size + t.size := by omega
        go_enter Try.func22, Try.ntmps22
        go_wp2
        go_ret
        exact ⟨ret_bool (by simp; omega), (Below.refl _ _).alloc (Nat.le_refl _) _⟩
    · have h2' : 1048576 < t.size := by omega
      go_enter Try.func22, Try.ntmps22
      go_wp2
      go_ret
      exact ⟨ret_bool (by simp; omega), (Below.refl _ _).alloc (Nat.le_refl _) _⟩
  · have h' : 1048576 < s.size := by omega
    go_enter Try.func22, Try.ntmps22
    go_wp2
    go_ret
    exact ⟨ret_bool (by simp; omega), (Below.refl _ _).alloc (Nat.le_refl _) _⟩
theorem arr_eql30 (w : World) (xs ys : List Int) (hx : xs.length = 64) (hy : ys.length = 64) (h : xs = ys) : (binOp .eql 30 (.agg (arrV .i32 xs)) (.agg (arrV .i32 ys))).run Try.prog w = .ok (.bool true) w := by
  obtain ⟨i, hi⟩ : ∃ i, Try.prog.info? 21 = some i := by
    have h : (Try.prog.info? 21).isSome = true := by kernel_rfl
    exact Option.isSome_iff_exists.1 h
  have := run_eql_ints (P := Try.prog) w 30 21 64 .i32 i Try.underlying30 hi Try.underlying21 (by kernel_rfl) xs ys hx hy
  rw [show (xs == ys) = true by simp [h]] at this
  exact this
set_option maxRecDepth 100000 in
set_option maxHeartbeats 4000000 in
theorem FnCharFreqScanSplitsOverConcatenation_walk (a0 : List Int) (a1 : ByteArray) (a2 : ByteArray) (a3 : Int) (w0 : IsArr .i32 64 a0) (w1 : a1.size ≤ maxLen) (w2 : a2.size ≤ maxLen) (w3 : (Lit.int .i32 a3).wf = true) (w : World) :
    Calls Try.prog 6 #[.agg (arrV .i32 a0), .string a1, .string a2, .int .i32 a3] w fun e w' => e = .returned (.bool true) ∧ Below w.heap.size w w' := by
  have hm := w1; have hm2 := w2
  unfold maxLen at hm hm2
  have hlen : (arrV .i32 a0).size = 64 := by simp [w0.1]
  have i28 : (Try.prog.info? 28).map (·.size) = some (arrV .i32 a0).size := by rw [hlen]; exact info28
  have i30 : (Try.prog.info? 30).map (·.size) = some (arrV .i32 a0).size := by rw [hlen]; exact info30
  have h0 : (w.alloc (.cells (arrV .i32 a0) 28)).heap[w.heap.size]? = some (.cells (arrV .i32 a0) 28 (0, 0)) := heap_last _ _
  have H0 := Lib.hid h0; have HL := Lib.hid hlen; have HI := Lib.hid i28; have HJ := Lib.hid i30
  clear h0 hlen i28 i30
  go_enter Try.func6, Try.ntmps6
  go_wp2_with (first | (refine wpList_load_row rfl 28 (.tmp 4) rfl w.heap.size rfl 28 (arrV .i32 a0) (0, 0) _ H0.out Try.underlying28 rfl HI.out ?_))
  refine (zb22 _ _ _ _ _ w1 w2).mono ?_
  rintro e W1 ⟨rfl, hb1⟩
  have hW : W1.heap[w.heap.size]? = some (.cells (arrV .i32 a0) 28 (0, 0)) := (hb1.block _ (by simp)).trans H0.out
  have hbw : Below w.heap.size w W1 := ((Below.refl _ _).alloc (Nat.le_refl _) _).trans (hb1.mono (by simp))
  have hlt : w.heap.size < W1.heap.size := by have := hb1.size; simp at this; omega
  have HW := Lib.hid hW; have HB := Lib.hid hbw
  clear hW hb1 hbw H0
  by_cases hs : a1.size ≤ 524288
  · by_cases hs2 : a2.size ≤ 524288
    · have hsd : decide (a1.size ≤ 1048576 ∧ a2.size ≤ 1048576 ∧ a1.size + a2.size ≤ 1048576) = true := by simp; omega
      rw [hsd]
      clear hsd
      go_wp2_with (first | (refine wpList_load_row rfl 28 (.tmp 4) rfl w.heap.size rfl 28 (arrV .i32 a0) (0, 0) _ HW.out Try.underlying28 rfl HI.out ?_) | (refine wpList_store_row rfl 30 (.tmp 9) (.tmp 23) rfl W1.heap.size (arrV .i32 a0) rfl rfl 30 _ (heap_last _ _) HJ.out (by rw [HL.out]; rfl) (one_all a0) ?_))
      refine (scan_all _ W1.heap.size a0 a1 a3 w1 (set_new W1 _ a0 w0.1) (inR_of a0 w0.2)).mono ?_
      rintro e V2 ⟨rfl, hH2, hg2⟩
      have hb2 := after_new hg2
      have hW2 : V2.heap[w.heap.size]? = some (.cells (arrV .i32 a0) 28 (0, 0)) := (hb2.block _ hlt).trans HW.out
      have hbw2 : Below w.heap.size w V2 := HB.out.trans (hb2.mono (by omega))
      have HH2 := Lib.hid hH2; have HW2 := Lib.hid hW2; have HB2 := Lib.hid hbw2
      clear hH2 hg2 hb2 hW2 hbw2
      go_wp2_with fail
      refine (scan_all _ W1.heap.size _ a2 a3 w2 HH2.out (scan_inR a3 _ a0 (inR_of a0 w0.2) w0.1)).mono ?_
      rintro e V3 ⟨rfl, hH3, hg3⟩
      have hW3 : V3.heap[w.heap.size]? = some (.cells (arrV .i32 a0) 28 (0, 0)) := (hg3.block _ (by have := HH2.out.lt; omega) (fun e => by injection e; omega)).trans HW2.out
      have hbw3 : Below w.heap.size w V3 := HB2.out.grown hg3 HB2.out.size (fun k hk => by injection hk; omega)
      have hlt3 : W1.heap.size < V3.heap.size := hH3.lt
      rw [← scan_app] at hH3
      have HH3 := Lib.hid hH3; have HW3 := Lib.hid hW3; have HB3 := Lib.hid hbw3
      clear hH3 hg3 hW3 hbw3 HH2 HW2 HB2
      go_wp2_with (first | (refine wpList_load_row rfl 28 (.tmp 4) rfl w.heap.size rfl 28 (arrV .i32 a0) (0, 0) _ HW3.out Try.underlying28 rfl HI.out ?_) | (refine wpList_store_row rfl 30 (.tmp 10) (.tmp 30) rfl V3.heap.size (arrV .i32 a0) rfl rfl 30 _ (heap_last _ _) HJ.out (by rw [HL.out]; rfl) (one_all a0) ?_))
      refine (scan_all _ V3.heap.size a0 (a1 ++ a2) a3 (by rw [ByteArray.size_append]; unfold maxLen; omega) (set_new V3 _ a0 w0.1) (inR_of a0 w0.2)).mono ?_
      rintro e V4 ⟨rfl, hH4, hg4⟩
      have hb4 := after_new hg4
      have hH3' : Hist V4 W1.heap.size (scanL a3 a0 (a1.data.toList ++ a2.data.toList)) := ⟨(hb4.block _ hlt3).trans HH3.out.1, HH3.out.2⟩
      have hbw4 : Below w.heap.size w V4 := HB3.out.trans (hb4.mono HB3.out.size)
      have happ : (a1 ++ a2).data.toList = a1.data.toList ++ a2.data.toList := by simp
      rw [happ] at hH4
      have hl4 := hH4.2
      generalize scanL a3 a0 (a1.data.toList ++ a2.data.toList) = ys at *
      have hj : (Try.prog.info? 30).map (·.size) = some (arrV .i32 ys).size := by rw [show (arrV .i32 ys).size = 64 by simp [hl4]]; exact info30
      have HH4 := Lib.hid hH4; have HH5 := Lib.hid hH3'; have HB4 := Lib.hid hbw4; have HJ2 := Lib.hid hj
      have heq := fun W => arr_eql30 W ys ys hl4 hl4 rfl
      clear hH4 hg4 hb4 hH3' hbw4 HH3 HW3 HB3 happ hj hl4
      go_wp2_with (first | (refine wpList_load_row rfl 30 (.tmp 9) rfl W1.heap.size rfl 30 (arrV .i32 ys) (0, 0) _ HH5.out.1 Try.underlying30 rfl HJ2.out ?_) | (refine wpList_load_row rfl 30 (.tmp 10) rfl V3.heap.size rfl 30 (arrV .i32 ys) (0, 0) _ HH4.out.1 Try.underlying30 rfl HJ2.out ?_))
      go_ret
      exact ⟨rfl, HB4.out⟩
    · have hs2' : 524288 < a2.size := by omega
      generalize decide (a1.size ≤ 1048576 ∧ a2.size ≤ 1048576 ∧ a1.size + a2.size ≤ 1048576) = bb
      cases bb
      · go_wp2_with fail
        go_ret
        exact ⟨rfl, HB.out⟩
      · go_wp2_with fail
        go_ret
        exact ⟨rfl, HB.out⟩
  · have hs' : 524288 < a1.size := by omega
    generalize decide (a1.size ≤ 1048576 ∧ a2.size ≤ 1048576 ∧ a1.size + a2.size ≤ 1048576) = bb
    cases bb
    · go_wp2_with fail
      go_ret
      exact ⟨rfl, HB.out⟩
    · go_wp2_with fail
      go_ret
      exact ⟨rfl, HB.out⟩
