/-
  The walks of the two MergeContents laws.
-/
import Derived.Test.YtnhefnccjlbeiaaC2
import Derived.Deep.RegionWith
namespace Go.Proofs.Ytnhefnccjlbeiaa
open Go.ChangeShapes Go.WideShapes Go.ChangeAt Go.RowKit
set_option linter.unusedVariables false
theorem sy_new (w : World) (k f : Int) (n : ByteArray) (c : Int) : Sy (w.alloc (.cells (symV k f n c) 49)) w.heap.size k f n c := by
  show (w.heap.push _)[w.heap.size]? = _
  simp
theorem Sy.keep {w w' : World} {g : Nat} {k f : Int} {n : ByteArray} {c : Int} (h : Sy w g k f n c) (hb : Below w.heap.size w w') : Sy w' g k f n c := (hb.block g h.lt).trans h
theorem Sy.by {w w' : World} {g r : Nat} {k f : Int} {n : ByteArray} {c : Int} (h : Sy w g k f n c) (hb : w.grownBy w' (some r)) (hne : g ≠ r) : Sy w' g k f n c := (hb.block g h.lt (fun e => hne (by injection e))).trans h
theorem Sy.cells {w : World} {g : Nat} {k f : Int} {n : ByteArray} {c : Int} (h : Sy w g k f n c) :
    w.cell? ⟨g, 0, none⟩ = some (.pointer none) ∧ w.cell? ⟨g, 1, none⟩ = some (.string n) ∧ w.cell? ⟨g, 2, none⟩ = some (.int .u32 0) ∧ w.cell? ⟨g, 3, none⟩ = some (.int .u32 0) ∧ w.cell? ⟨g, 4, none⟩ = some (.int .u32 c) ∧
    w.cell? ⟨g, 5, none⟩ = some (.int .u32 0) ∧ w.cell? ⟨g, 6, none⟩ = some (.int .u32 0) ∧ w.cell? ⟨g, 7, none⟩ = some (.int .u16 f) ∧ w.cell? ⟨g, 8, none⟩ = some (.int .u8 k) ∧ w.cell? ⟨g, 9, none⟩ = some (.int .u8 0) :=
  ⟨h.cell 0, h.cell 1, h.cell 2, h.cell 3, h.cell 4, h.cell 5, h.cell 6, h.cell 7, h.cell 8, h.cell 9⟩
theorem addN_le (b1 b2 : Bool) (n n' : ByteArray) (h : n.size ≤ maxLen) (h' : n'.size ≤ maxLen) : (addN b1 b2 n n').size ≤ maxLen := by cases b1 <;> cases b2 <;> assumption
theorem addN_twice (b1 b2 : Bool) (n n' : ByteArray) : addN b1 (b2 || b1) (addN b1 b2 n n') n' = addN b1 b2 n n' := by cases b1 <;> cases b2 <;> rfl
theorem sym_same (w : World) (k f : Int) (n : ByteArray) (c : Int) : (binOp .neq 49 (.agg (symV k f n c)) (.agg (symV k f n c))).run Try.prog w = .ok (.bool false) w := by
  have hp : ∀ w, (Op.equalIn 9999 40 (.pointer none) (.pointer none)).run Try.prog w = .ok true w := fun _ => by kernel_rfl
  simp [go_sem, hp]
set_option maxRecDepth 100000 in
theorem FnMergeContentsTwiceOnlyAddsCount_walk (a0 : Int) (a1 : Int) (a2 : ByteArray) (a3 : Int) (a4 : Int) (a5 : Int) (a6 : ByteArray) (a7 : Int) (w0 : (Lit.int .u8 a0).wf = true) (w1 : (Lit.int .u16 a1).wf = true) (w2 : a2.size ≤ maxLen) (w3 : (Lit.int .u32 a3).wf = true) (w4 : (Lit.int .u8 a4).wf = true) (w5 : (Lit.int .u16 a5).wf = true) (w6 : a6.size ≤ maxLen) (w7 : (Lit.int .u32 a7).wf = true) (w : World) :
    Calls Try.prog 8 #[.int .u8 a0, .int .u16 a1, .string a2, .int .u32 a3, .int .u8 a4, .int .u16 a5, .string a6, .int .u32 a7] w fun e w' => e = .returned (.bool true) ∧ Below w.heap.size w w' := by
  have hm2 := w2; have hm6 := w6
  unfold maxLen at hm2 hm6
  by_cases s2 : 524288 < a2.size
  · by_cases s1 : 1048576 < a2.size
    · go_enter Try.func8, Try.ntmps8
      go_wp2; go_ret; exact ⟨rfl, Below.refl _ _⟩
    · go_enter Try.func8, Try.ntmps8
      go_wp2
      all_goals (go_ret; exact ⟨rfl, Below.refl _ _⟩)
  by_cases s6 : 524288 < a6.size
  · go_enter Try.func8, Try.ntmps8
    go_wp2
    all_goals (go_ret; exact ⟨rfl, Below.refl _ _⟩)
  obtain ⟨f, rfl⟩ := Int.eq_ofNat_of_zero_le (bounds_u16 w1).1
  obtain ⟨f', rfl⟩ := Int.eq_ofNat_of_zero_le (bounds_u16 w5).1
  have hf : f < 65536 := by have := (bounds_u16 w1).2; omega
  have hf' : f' < 65536 := by have := (bounds_u16 w5).2; omega
  have hsm := sym_same
  go_enter Try.func8, Try.ntmps8
  go_wp2_with (first | (go_at_call 26; go_in))
  refine (mk_sym _ _ _ _ _).mono ?_
  rintro e W1 ⟨rfl, hb⟩
  have hbg : w.heap.size ≤ W1.heap.size := hb.size
  go_wp2_with fail
  have q1 := sy_new W1 a0 f a2 a3
  replace hb := hb.alloc hb.size (.cells (symV a0 f a2 a3) 49)
  have l1 : W1.heap.size < (W1.alloc (.cells (symV a0 f a2 a3) 49)).heap.size := by simp
  generalize W1.alloc (.cells (symV a0 f a2 a3) 49) = V1 at *
  generalize W1.heap.size = g1 at *
  refine (mk_sym _ _ _ _ _).mono ?_
  rintro e W2 ⟨rfl, hb2⟩
  replace q1 := q1.keep hb2
  replace hb := hb.trans (hb2.mono hb.size)
  replace l1 := Nat.lt_of_lt_of_le l1 hb2.size
  clear hb2
  go_wp2_with fail
  have q2 := sy_new W2 a0 f a2 a3
  have hb2 : Below W2.heap.size W2 (W2.alloc (.cells (symV a0 f a2 a3) 49)) := (Below.refl _ _).alloc (Nat.le_refl _) _
  replace q1 := q1.keep hb2
  replace hb := hb.trans (hb2.mono hb.size)
  have l2 : W2.heap.size < (W2.alloc (.cells (symV a0 f a2 a3) 49)).heap.size := by simp
  generalize W2.alloc (.cells (symV a0 f a2 a3) 49) = V2 at *
  generalize W2.heap.size = g2 at *
  clear hb2
  refine (mk_sym _ _ _ _ _).mono ?_
  rintro e W3 ⟨rfl, hb2⟩
  replace q1 := q1.keep hb2; replace q2 := q2.keep hb2
  replace hb := hb.trans (hb2.mono hb.size)
  replace l2 := Nat.lt_of_lt_of_le l2 hb2.size
  clear hb2
  go_wp2_with fail
  have q3 := sy_new W3 a4 f' a6 a7
  have hb2 : Below W3.heap.size W3 (W3.alloc (.cells (symV a4 f' a6 a7) 49)) := (Below.refl _ _).alloc (Nat.le_refl _) _
  replace q1 := q1.keep hb2; replace q2 := q2.keep hb2
  replace hb := hb.trans (hb2.mono hb.size)
  generalize W3.alloc (.cells (symV a4 f' a6 a7) 49) = V3 at *
  generalize W3.heap.size = g3 at *
  clear hb2
  refine (merge_any V3 g1 g3 a0 f a2 a3 a4 f' a6 a7 _ _ _ w2 w6 q1 q3 (by omega) rfl rfl rfl).mono ?_
  rintro e V4 ⟨rfl, q1', hg4⟩
  replace q2 := q2.by hg4 (by omega); replace q3 := q3.by hg4 (by omega)
  replace hb := hb.grown hg4 hb.size (fun k hk => by injection hk; omega)
  clear q1 hg4
  go_wp2_with fail
  refine (merge_any V4 g2 g3 a0 f a2 a3 a4 f' a6 a7 _ _ _ w2 w6 q2 q3 (by omega) rfl rfl rfl).mono ?_
  rintro e V5 ⟨rfl, q2', hg4⟩
  replace q1' := q1'.by hg4 (by omega); replace q3 := q3.by hg4 (by omega)
  replace hb := hb.grown hg4 hb.size (fun k hk => by injection hk; omega)
  clear q2 hg4
  have hF := addF_twice f f' hf hf'
  have hN := addN_twice (band f' 1 != 0) (band f 1 != 0) a2 a6
  rw [← (fourFacts f f' hf hf' _ rfl).2.2.1] at hN
  have hNl := addN_le (band f' 1 != 0) (band f 1 != 0) a2 a6 w2 w6
  generalize addF (band f' 1 != 0) (band f 1 != 0) (band f' 2 != 0) f = F at *
  generalize addN (band f' 1 != 0) (band f 1 != 0) a2 a6 = N at *
  have HF := Lib.hid hF; have HN := Lib.hid hN
  clear hF hN
  go_wp2_with fail
  refine (merge_any V5 g2 g3 a0 F N _ a4 f' a6 a7 _ _ _ hNl w6 q2' q3 (by omega) rfl rfl rfl).mono ?_
  rintro e V6 ⟨rfl, q2, hg4⟩
  rw [HF.out, HN.out] at q2
  replace q1' := q1'.by hg4 (by omega); replace q3 := q3.by hg4 (by omega)
  replace hb := hb.grown hg4 hb.size (fun k hk => by injection hk; omega)
  clear q2' hg4 HF HN
  obtain ⟨x0, x1, x2, x3, x4, x5, x6, x7, x8, x9⟩ := q3.cells
  have after : ∀ w' : World, Below V6.drew.heap.size V6.drew w' → Sy w' g3 a4 f' a6 a7 ∧ Sy w' g2 a0 F N (((a3 + a7) % 4294967296 + a7) % 4294967296) ∧ Sy w' g1 a0 F N ((a3 + a7) % 4294967296) ∧ Below w.heap.size w w' :=
    fun _ h => ⟨Sy.keep (w := V6.drew) q3 h, Sy.keep (w := V6.drew) q2 h, Sy.keep (w := V6.drew) q1' h, (hb.drew).trans (h.mono hb.size)⟩
  have AF := Lib.hid after
  clear after
  go_wp2_with fail
  go_region_with ((go_at_call 27; refine (mk_sym _ _ _ _ _).mono ?_; rintro e w' ⟨rfl, hbx⟩; obtain ⟨r3, r2, r1, hbw⟩ := AF.out _ hbx; obtain ⟨X0, X1, X2, X3, X4, X5, X6, X7, X8, X9⟩ := r3.cells; clear hbx))
  all_goals
    obtain ⟨y0, y1, y2, y3, y4, y5, y6, y7, y8, y9⟩ := r2.cells
    obtain ⟨z0, z1, z2, z3, z4, z5, z6, z7, z8, z9⟩ := r1.cells
    clear y0 y2 y3 y5 y6 y9 z0 z2 z3 z5 z6 z9 x0 x1 x2 x3 x4 x5 x6 x7 x8 x9 X0 X1 X2 X3 X4 X5 X6 X7 X8 X9 r1 r2 r3
    go_wp2_with fail
    go_ret
    exact ⟨ret_bool (by simp), hbw⟩
