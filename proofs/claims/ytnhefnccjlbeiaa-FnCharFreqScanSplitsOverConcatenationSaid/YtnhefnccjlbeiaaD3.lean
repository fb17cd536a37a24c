/-
  The walks of the two CharFreq laws.
-/
import Derived.Test.YtnhefnccjlbeiaaD2
import Derived.Laws.Tables
import Derived.Laws.CopyOwn
namespace Go.Proofs.Ytnhefnccjlbeiaa
open Go.ChangeShapes Go.WideShapes Go.ChangeAt Go.RowKit
set_option linter.unusedVariables false
theorem heap_last (w : World) (o : Obj) : (w.alloc o).heap[w.heap.size]? = some o := by
  show (w.heap.push o)[w.heap.size]? = some o
  simp
theorem info28 : (Try.prog.info? 28).map (·.size) = some 64 := by kernel_rfl
theorem info30 : (Try.prog.info? 30).map (·.size) = some 64 := by kernel_rfl
theorem zb18 (a : Array Value) (s : ByteArray) (d : Int) (w : World) (hs : s.size ≤ maxLen) : Calls Try.prog 18 #[.agg a, .string s, .int .i32 d] w fun e w' => e = .returned (.bool (decide (s.size ≤ 1048576))) ∧ Below w.heap.size w w' := by
  unfold maxLen at hs
  by_cases h : s.size ≤ 1048576
  · go_enter Try.func18, Try.ntmps18
    go_wp2
    go_ret
    exact ⟨ret_bool (by simp [h]), (Below.refl _ _).alloc (Nat.le_refl _) _⟩
  · have h' : 1048576 < s.size := by omega
    go_enter Try.func18, Try.ntmps18
    go_wp2
    go_ret
    exact ⟨ret_bool (by simp; omega), (Below.refl _ _).alloc (Nat.le_refl _) _⟩
noncomputable def zero30 : Array Value := match (Try.prog.info? 30).bind (·.zero) with | some (.agg cs) => cs | _ => #[]
theorem zero30_size : zero30.size = 64 := by kernel_rfl
theorem one_all (zs : List Int) : (arrV .i32 zs).all (·.oneCell') = true := by
  simp
  intro i h
  rfl
theorem set_new (W : World) (Z : Array Value) (zs : List Int) (hl : zs.length = 64) : Hist ((W.alloc (.cells Z 30)).setRow W.heap.size (arrV .i32 zs)) W.heap.size zs :=
  ⟨setRow_heap _ _ Z _ 30 (0, 0) (heap_last _ _), hl⟩
theorem after_new {W V2 : World} {Z : Array Value} {zs : List Int} (hg : ((W.alloc (.cells Z 30)).setRow W.heap.size (arrV .i32 zs)).grownBy V2 (some W.heap.size)) : Below W.heap.size W V2 := by
  have b0 : Below W.heap.size W ((W.alloc (.cells Z 30)).setRow W.heap.size (arrV .i32 zs)) := below_setRow ((Below.refl _ _).alloc (Nat.le_refl _) _) (Nat.le_refl _) _
  exact b0.grown hg b0.size (fun k hk => by injection hk; omega)
theorem arr_eql (w : World) (xs ys : List Int) (hx : xs.length = 64) (hy : ys.length = 64) (h : xs = ys) : (binOp .eql 28 (.agg (arrV .i32 xs)) (.agg (arrV .i32 ys))).run Try.prog w = .ok (.bool true) w := by
  obtain ⟨i, hi⟩ : ∃ i, Try.prog.info? 21 = some i := by
    have h : (Try.prog.info? 21).isSome = true := by kernel_rfl
    exact Option.isSome_iff_exists.1 h
  have := run_eql_ints (P := Try.prog) w 28 21 64 .i32 i Try.underlying28 hi Try.underlying21 (by kernel_rfl) xs ys hx hy
  rw [show (xs == ys) = true by simp [h]] at this
  exact this
set_option maxRecDepth 100000 in
set_option maxHeartbeats 2000000 in
theorem FnCharFreqScanUndoneByNegatedDelta_walk (a0 : List Int) (a1 : ByteArray) (a2 : Int) (w0 : IsArr .i32 64 a0) (w1 : a1.size ≤ maxLen) (w2 : (Lit.int .i32 a2).wf = true) (w : World) :
    Calls Try.prog 4 #[.agg (arrV .i32 a0), .string a1, .int .i32 a2] w fun e w' => e = .returned (.bool true) ∧ Below w.heap.size w w' := by
  have hm := w1
  unfold maxLen at hm
  have hlen : (arrV .i32 a0).size = 64 := by simp [w0.1]
  have i28 : (Try.prog.info? 28).map (·.size) = some (arrV .i32 a0).size := by rw [hlen]; exact info28
  have i30 : (Try.prog.info? 30).map (·.size) = some (arrV .i32 a0).size := by rw [hlen]; exact info30
  have h0 : (w.alloc (.cells (arrV .i32 a0) 28)).heap[w.heap.size]? = some (.cells (arrV .i32 a0) 28 (0, 0)) := heap_last _ _
  have H0 := Lib.hid h0; have HL := Lib.hid hlen; have HI := Lib.hid i28; have HJ := Lib.hid i30
  clear h0 hlen i28 i30
  go_enter Try.func4, Try.ntmps4
  go_wp2_with (first | (refine wpList_load_row rfl 28 (.tmp 3) rfl w.heap.size rfl 28 (arrV .i32 a0) (0, 0) _ H0.out Try.underlying28 rfl HI.out ?_))
  refine (zb18 _ _ _ _ w1).mono ?_
  rintro e W1 ⟨rfl, hb1⟩
  have hW : W1.heap[w.heap.size]? = some (.cells (arrV .i32 a0) 28 (0, 0)) := (hb1.block _ (by simp)).trans H0.out
  have hbw : Below w.heap.size w W1 := ((Below.refl _ _).alloc (Nat.le_refl _) _).trans (hb1.mono (by simp))
  have hlt : w.heap.size < W1.heap.size := by have := hb1.size; simp at this; omega
  have HW := Lib.hid hW; have HB := Lib.hid hbw
  clear hW hb1 hbw H0
  by_cases hs : a1.size ≤ 1048576
  · have hsd : decide (a1.size ≤ 1048576) = true := by simp [hs]
    rw [hsd]
    clear hsd
    go_wp2_with (first | (refine wpList_load_row rfl 28 (.tmp 3) rfl w.heap.size rfl 28 (arrV .i32 a0) (0, 0) _ HW.out Try.underlying28 rfl HI.out ?_) | (refine wpList_store_row rfl 30 (.tmp 7) (.tmp 16) rfl W1.heap.size (arrV .i32 a0) rfl rfl 30 _ (heap_last _ _) HJ.out (by rw [HL.out]; rfl) (one_all a0) ?_))
    refine (scan_all _ W1.heap.size a0 a1 a2 w1 (set_new W1 _ a0 w0.1) (inR_of a0 w0.2)).mono ?_
    rintro e V2 ⟨rfl, hH2, hg2⟩
    have hb2 := after_new hg2
    have hW2 : V2.heap[w.heap.size]? = some (.cells (arrV .i32 a0) 28 (0, 0)) := (hb2.block _ hlt).trans HW.out
    have hbw2 : Below w.heap.size w V2 := HB.out.trans (hb2.mono (by omega))
    have HH2 := Lib.hid hH2; have HW2 := Lib.hid hW2; have HB2 := Lib.hid hbw2
    clear hH2 hg2 hb2 hW2 hbw2
    go_wp2_with fail
    refine (scan_all _ W1.heap.size _ a1 (wrap32 (-a2)) w1 HH2.out (scan_inR a2 _ a0 (inR_of a0 w0.2) w0.1)).mono ?_
    rintro e V3 ⟨rfl, hH3, hg3⟩
    rw [scan_undone a2 _ a0 (inR_of a0 w0.2) w0.1] at hH3
    have hW3 : V3.heap[w.heap.size]? = some (.cells (arrV .i32 a0) 28 (0, 0)) := (hg3.block _ (by have := HH2.out.lt; omega) (fun e => by injection e; omega)).trans HW2.out
    have hbw3 : Below w.heap.size w V3 := HB2.out.grown hg3 HB2.out.size (fun k hk => by injection hk; omega)
    have HH3 := Lib.hid hH3; have HW3 := Lib.hid hW3; have HB3 := Lib.hid hbw3
    clear hH3 hg3 hW3 hbw3 HH2 HW2 HB2
    have heq := fun W => arr_eql W a0 a0 w0.1 w0.1 rfl
    go_wp2_with (first | (refine wpList_load_row rfl 28 (.tmp 3) rfl w.heap.size rfl 28 (arrV .i32 a0) (0, 0) _ HW3.out Try.underlying28 rfl HI.out ?_) | (refine wpList_load_row rfl 30 (.tmp 7) rfl W1.heap.size rfl 30 (arrV .i32 a0) (0, 0) _ HH3.out.1 Try.underlying30 rfl HJ.out ?_))
    go_ret
    exact ⟨rfl, HB3.out⟩
  · have hsd : decide (a1.size ≤ 1048576) = false := by simp; omega
    rw [hsd]
    go_wp2_with fail
    go_ret
    exact ⟨rfl, HB.out⟩
