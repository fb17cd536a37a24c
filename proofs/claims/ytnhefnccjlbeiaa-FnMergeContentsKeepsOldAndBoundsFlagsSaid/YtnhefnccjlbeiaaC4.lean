/-
  The walk of FnMergeContentsKeepsOldAndBoundsFlags.
-/
import Derived.Test.YtnhefnccjlbeiaaC3
namespace Go.Proofs.Ytnhefnccjlbeiaa
open Go.ChangeShapes Go.WideShapes Go.ChangeAt Go.RowKit
set_option linter.unusedVariables false
set_option maxRecDepth 100000 in
set_option maxHeartbeats 2000000 in
theorem FnMergeContentsKeepsOldAndBoundsFlags_walk (a0 : Int) (a1 : Int) (a2 : ByteArray) (a3 : Int) (a4 : Int) (a5 : Int) (a6 : ByteArray) (a7 : Int) (w0 : (Lit.int .u8 a0).wf = true) (w1 : (Lit.int .u16 a1).wf = true) (w2 : a2.size ≤ maxLen) (w3 : (Lit.int .u32 a3).wf = true) (w4 : (Lit.int .u8 a4).wf = true) (w5 : (Lit.int .u16 a5).wf = true) (w6 : a6.size ≤ maxLen) (w7 : (Lit.int .u32 a7).wf = true) (w : World) :
    Calls Try.prog 14 #[.int .u8 a0, .int .u16 a1, .string a2, .int .u32 a3, .int .u8 a4, .int .u16 a5, .string a6, .int .u32 a7] w fun e w' => e = .returned (.bool true) ∧ Below w.heap.size w w' := by
  have hm2 := w2; have hm6 := w6
  unfold maxLen at hm2 hm6
  by_cases s2 : 524288 < a2.size
  · by_cases s1 : 1048576 < a2.size
    · go_enter Try.func14, Try.ntmps14
      go_wp2; go_ret; exact ⟨rfl, Below.refl _ _⟩
    · go_enter Try.func14, Try.ntmps14
      go_wp2
      all_goals (go_ret; exact ⟨rfl, Below.refl _ _⟩)
  by_cases s6 : 524288 < a6.size
  · go_enter Try.func14, Try.ntmps14
    go_wp2
    all_goals (go_ret; exact ⟨rfl, Below.refl _ _⟩)
  obtain ⟨f, rfl⟩ := Int.eq_ofNat_of_zero_le (bounds_u16 w1).1
  obtain ⟨f', rfl⟩ := Int.eq_ofNat_of_zero_le (bounds_u16 w5).1
  have hf : f < 65536 := by have := (bounds_u16 w1).2; omega
  have hf' : f' < 65536 := by have := (bounds_u16 w5).2; omega
  have hsm := sym_same
  go_enter Try.func14, Try.ntmps14
  go_wp2_with (first | (go_at_call 41; go_in))
  refine (mk_sym _ _ _ _ _).mono ?_
  rintro e W1 ⟨rfl, hb⟩
  have hbg : w.heap.size ≤ W1.heap.size := hb.size
  go_wp2_with fail
  have q1 := sy_new W1 a0 f a2 a3
  replace hb := hb.alloc hb.size (.cells (symV a0 f a2 a3) 49)
  have l1 : W1.heap.size < (W1.alloc (.cells (symV a0 f a2 a3) 49)).heap.size := by simp
  generalize W1.alloc (.cells (symV a0 f a2 a3) 49) = V1 at *
  generalize W1.heap.size = g1 at *
  refine (mk_sym _ _ _ _ _).mono ?_
  rintro e W3 ⟨rfl, hb2⟩
  replace q1 := q1.keep hb2
  replace hb := hb.trans (hb2.mono hb.size)
  replace l1 := Nat.lt_of_lt_of_le l1 hb2.size
  clear hb2
  go_wp2_with fail
  have q3 := sy_new W3 a4 f' a6 a7
  have hb2 : Below W3.heap.size W3 (W3.alloc (.cells (symV a4 f' a6 a7) 49)) := (Below.refl _ _).alloc (Nat.le_refl _) _
  replace q1 := q1.keep hb2
  replace hb := hb.trans (hb2.mono hb.size)
  generalize W3.alloc (.cells (symV a4 f' a6 a7) 49) = V3 at *
  generalize W3.heap.size = g3 at *
  clear hb2
  refine (merge_any V3 g1 g3 a0 f a2 a3 a4 f' a6 a7 _ _ _ w2 w6 q1 q3 (by omega) rfl rfl rfl).mono ?_
  rintro e V4 ⟨rfl, q1', hg4⟩
  replace q3 := q3.by hg4 (by omega)
  replace hb := hb.grown hg4 hb.size (fun k hk => by injection hk; omega)
  clear q1 hg4
  obtain ⟨F1, F2, F3, F4⟩ := fourFacts f f' hf hf' _ rfl
  generalize addF (band f' 1 != 0) (band f 1 != 0) (band f' 2 != 0) f = F at *
  have FF3 := Lib.hid F3; have FF4 := Lib.hid F4
  clear F3 F4
  obtain ⟨x0, x1, x2, x3, x4, x5, x6, x7, x8, x9⟩ := q3.cells
  generalize hNN : addN (band f' 1 != 0) (band f 1 != 0) a2 a6 = N at *
  have HN := Lib.hid hNN
  clear hNN
  have after : ∀ w' : World, Below V4.drew.heap.size V4.drew w' → Sy w' g3 a4 f' a6 a7 ∧ Sy w' g1 a0 F N ((a3 + a7) % 4294967296) ∧ Below w.heap.size w w' :=
    fun _ h => ⟨Sy.keep (w := V4.drew) q3 h, Sy.keep (w := V4.drew) q1' h, (hb.drew).trans (h.mono hb.size)⟩
  have AF := Lib.hid after
  clear after
  go_wp2_with fail
  go_region_with ((go_at_call 27; refine (mk_sym _ _ _ _ _).mono ?_; rintro e w' ⟨rfl, hbx⟩; obtain ⟨r3, r1, hbw⟩ := AF.out _ hbx; obtain ⟨X0, X1, X2, X3, X4, X5, X6, X7, X8, X9⟩ := r3.cells; clear hbx))
  all_goals
    obtain ⟨z0, z1, z2, z3, z4, z5, z6, z7, z8, z9⟩ := r1.cells
    clear z0 z2 z3 z4 z5 z6 z9 x0 x1 x2 x3 x4 x5 x6 x7 x8 x9 X0 X1 X2 X3 X4 X5 X6 X7 X8 X9 r1 r3 hsm
    have F3 := FF3.out; have F4 := FF4.out; have hNN := HN.out
    clear FF3 FF4 HN
    generalize hB1 : (band f' 1 != 0) = B1 at *
    generalize hB2 : (band f 1 != 0) = B2 at *
    generalize hB3 : (band f' 2 != 0) = B3 at *
    generalize hB4 : (band f 2 != 0) = B4 at *
    have hE1 : (band f' 1 == 0) = !B1 := by rw [← hB1]; simp [bne]
    by_cases hnm : (a6.toList == a2.toList) = true
    · cases B1 <;> cases B2 <;> cases B3 <;> cases B4 <;>
       (simp only [addN, Bool.or_true, Bool.or_false, Bool.not_true, Bool.not_false] at F3 F4 hNN hE1
        subst hNN
        go_wp2_with fail
        go_ret
        exact ⟨ret_bool (by simp), hbw⟩)
    · have hnm' : (a6.toList == a2.toList) = false := by simpa using hnm
      cases B1 <;> cases B2 <;> cases B3 <;> cases B4 <;>
       (simp only [addN, Bool.or_true, Bool.or_false, Bool.not_true, Bool.not_false] at F3 F4 hNN hE1
        subst hNN
        go_wp2_with fail
        go_ret
        exact ⟨ret_bool (by simp), hbw⟩)
