/-
  zzDigit, zzSepEnd, zzState.
-/
import Derived.Test.YtlplikpjnocdfaaDoorB2
namespace Go.Proofs.YtlplikpjnocdfaaDoor
open Go.ChangeShapes Go.WideShapes Go.ChangeAt Go.RowKit
set_option linter.unusedVariables false
theorem ret_int {a b : Int} (h : a = b) : Ending.returned (.int .i64 a) = .returned (.int .i64 b) := by rw [h]
set_option maxRecDepth 100000 in
set_option maxHeartbeats 2000000 in
theorem dg29 (x : Int) (h0 : 0 ≤ x) (h1 : x < 256) (w : World) : Calls Tryd.prog 29 #[.int .u8 x] w fun e w' => e = .returned (.int .i64 (dgt x)) ∧ w = w' := by
  by_cases a1 : 65 ≤ x ∧ x ≤ 90
  · have HR := Lib.hid (show dgt x = x - 65 by unfold dgt; rw [if_pos a1])
    obtain ⟨b1, b2⟩ := a1
    go_enter Tryd.func29, Tryd.ntmps29
    go_wp2_with fail
    go_ret
    exact ⟨ret_int (by rw [HR.out]), rfl⟩
  by_cases a2 : 97 ≤ x ∧ x ≤ 122
  · have HR := Lib.hid (show dgt x = x - 71 by unfold dgt; rw [if_neg a1, if_pos a2])
    obtain ⟨b1, b2⟩ := a2
    have b3 : ¬ x ≤ 90 := by omega
    have b4 : 65 ≤ x := by omega
    clear a1
    go_enter Tryd.func29, Tryd.ntmps29
    go_wp2_with fail
    go_ret
    exact ⟨ret_int (by rw [HR.out]; omega), rfl⟩
  by_cases a3 : 48 ≤ x ∧ x ≤ 57
  · have HR := Lib.hid (show dgt x = x + 4 by unfold dgt; rw [if_neg a1, if_neg a2, if_pos a3])
    obtain ⟨b1, b2⟩ := a3
    have b3 : ¬ 65 ≤ x := by omega
    have b4 : ¬ 97 ≤ x := by omega
    clear a1 a2
    go_enter Tryd.func29, Tryd.ntmps29
    go_wp2_with fail
    go_ret
    exact ⟨ret_int (by rw [HR.out]; omega), rfl⟩
  by_cases a4 : x = 43
  · subst a4
    clear a1 a2 a3
    go_enter Tryd.func29, Tryd.ntmps29
    go_wp2_with fail
    go_ret
    exact ⟨rfl, rfl⟩
  by_cases a5 : x = 47
  · subst a5
    clear a1 a2 a3
    go_enter Tryd.func29, Tryd.ntmps29
    go_wp2_with fail
    go_ret
    exact ⟨rfl, rfl⟩
  have HR := Lib.hid (show dgt x = -1 by unfold dgt; rw [if_neg a1, if_neg a2, if_neg a3, if_neg a4, if_neg a5])
  have d4 : (x == 43) = false := by simp [a4]
  have d5 : (x == 47) = false := by simp [a5]
  clear a4 a5
  by_cases c1 : 65 ≤ x <;> by_cases c2 : x ≤ 90 <;> by_cases c3 : 97 ≤ x <;> by_cases c4 : x ≤ 122 <;> by_cases c5 : 48 ≤ x <;> by_cases c6 : x ≤ 57 <;> (try (exfalso; omega)) <;>
   (clear a1 a2 a3
    go_enter Tryd.func29, Tryd.ntmps29
    go_wp2_with fail
    go_ret
    exact ⟨ret_int (by rw [HR.out]), rfl⟩)

/-- e is where the segment that goes on at i ends -/
def EndAt (xs : List Int) (i e : Nat) : Prop := i ≤ e ∧ e ≤ xs.length ∧ (∀ j, i ≤ j → j < e → xs.getD j 0 ≠ 44 ∧ xs.getD j 0 ≠ 59) ∧ (e = xs.length ∨ xs.getD e 0 = 44)
set_option maxRecDepth 100000 in
set_option maxHeartbeats 2000000 in
theorem sp13 (w : World) (v : Value) (xs : List Int) (i e : Nat) (h : Bytes w v xs) (hl : xs.length ≤ 67108864) (he : EndAt xs i e) :
    Calls Tryd.prog 13 #[v, .int .i64 i] w fun r w' => r = .returned (.int .i64 e) ∧ w' = w := by
  obtain ⟨p, c, rfl, hcap, hi⟩ := h
  obtain ⟨n, hn⟩ : ∃ n, xs.length = n := ⟨_, rfl⟩
  obtain ⟨e1, e2, e3, e4⟩ := he
  have HI := Lib.hid hi; have HN := Lib.hid hn; have H3 := Lib.hid e3; have H4 := Lib.hid e4
  rw [hn] at hcap hl e2 ⊢
  clear hi hn e3 e4
  go_enter Tryd.func13, Tryd.ntmps13
  go_wp2_with fail
  go_loopw [1] (fun a wr => ∃ k : Nat, a = .int .i64 k ∧ wr = w ∧ i ≤ k ∧ k ≤ e) (fun a _ => e - (intOf a).toNat)
  case atStart => exact ⟨i, rfl, rfl, Nat.le_refl _, e1⟩
  case round =>
    obtain ⟨k, rfl, rfl, h1, h2⟩ := hrel
    by_cases hk : k = e
    · subst hk
      by_cases hkn : k = n
      · subst hkn
        go_wp2_with fail
        go_ret
        exact ⟨rfl, rfl⟩
      · have h44 : xs.getD k 0 = 44 := by
          rcases H4.out with h | h
          · exact absurd (h.trans HN.out) hkn
          · exact h
        obtain ⟨a, rfl, hc⟩ := HI.out k (by have := HN.out; omega)
        rw [h44] at hc
        have hlt : k < n := by omega
        clear hkn h44
        go_wp2_with fail
        go_ret
        exact ⟨rfl, rfl⟩
    · have hlt : k < n := by omega
      obtain ⟨a, rfl, hc⟩ := HI.out k (by have := HN.out; omega)
      obtain ⟨n1, n2⟩ := H3.out k h1 (by omega)
      obtain ⟨x, hx⟩ : ∃ x, xs.getD k 0 = x := ⟨_, rfl⟩
      rw [hx] at hc n1 n2
      have d1 : (x != 44) = true := by simp [n1]
      have d2 : (x != 59) = true := by simp [n2]
      have hke : k < e := by omega
      clear hx n1 n2 hk
      go_wp2_with fail
      go_roundw
      case rel => exact ⟨k + 1, by simp, by trivial, by omega, by omega⟩
      case measure => simp only [intOf]; omega
theorem at15v (w : World) (v : Value) (xs : List Int) (k : Nat) (h : I32s w v xs) (hx : A32 xs) (hl : xs.length ≤ 1048576) (hk : k ≤ 1048576) :
    Calls Tryd.prog 15 #[v, .int .i64 k] w fun e w' => e = .returned (.int .i64 (xs.getD k 0)) ∧ w' = w := by
  obtain ⟨p, c, rfl, hc, hi⟩ := h
  exact at15 w p xs.length c xs k ⟨p, c, rfl, hc, hi⟩ hx hl hk
/-- six rows, short enough -/
structure Six (w : World) (v0 v1 v2 v3 v4 v5 : Value) (g s l o n : List Int) (b : List Bool) : Prop where
  r0 : I32s w v0 g
  r1 : I32s w v1 s
  r2 : I32s w v2 l
  r3 : I32s w v3 o
  r4 : I32s w v4 n
  r5 : Bls w v5 b
  a0 : A32 g
  a1 : A32 s
  a2 : A32 l
  a3 : A32 o
  a4 : A32 n
  l0 : g.length ≤ 1048576
  l1 : s.length ≤ 1048576
  l2 : l.length ≤ 1048576
  l3 : o.length ≤ 1048576
  l4 : n.length ≤ 1048576
  l5 : b.length ≤ 1048576
theorem Six.keep {w w' : World} {v0 v1 v2 v3 v4 v5 : Value} {g s l o n : List Int} {b : List Bool} (h : Six w v0 v1 v2 v3 v4 v5 g s l o n b) (hb : Below w.heap.size w w') : Six w' v0 v1 v2 v3 v4 v5 g s l o n b :=
  ⟨h.r0.keep hb, h.r1.keep hb, h.r2.keep hb, h.r3.keep hb, h.r4.keep hb, h.r5.keep hb, h.a0, h.a1, h.a2, h.a3, h.a4, h.l0, h.l1, h.l2, h.l3, h.l4, h.l5⟩
set_option maxRecDepth 100000 in
set_option maxHeartbeats 4000000 in
theorem st11 (w : World) (v0 v1 v2 v3 v4 v5 : Value) (g s l o n : List Int) (b : List Bool) (k : Nat) (h : Six w v0 v1 v2 v3 v4 v5 g s l o n b) (hk : k ≤ 1048576) :
    Calls Tryd.prog 11 #[v0, v1, v2, v3, v4, v5, .int .i64 k] w fun e w' => e = .returned (.agg (stV 0 (g.getD k 0) (s.getD k 0) (l.getD k 0) (o.getD k 0) (n.getD k 0) (b.getD k false))) ∧ Below w.heap.size w w' := by
  have hb0 : Below w.heap.size w (w.alloc (Obj.cells #[.int .i64 0, .int .i64 0, .int .i64 0, .int .i64 0, .int .i64 0, .int .i64 0, .bool false] 32)) := (Below.refl _ _).alloc (Nat.le_refl _) _
  have hx := h.keep hb0
  obtain ⟨W0, hW0⟩ : ∃ W0, w.alloc (Obj.cells #[.int .i64 0, .int .i64 0, .int .i64 0, .int .i64 0, .int .i64 0, .int .i64 0, .bool false] 32) = W0 := ⟨_, rfl⟩
  rw [hW0] at hx hb0
  have HW0 := Lib.hid hW0; have HX := Lib.hid hx; have HB0 := Lib.hid hb0
  obtain ⟨x0, e0⟩ : ∃ x, g.getD k 0 = x := ⟨_, rfl⟩
  obtain ⟨x1, e1⟩ : ∃ x, s.getD k 0 = x := ⟨_, rfl⟩
  obtain ⟨x2, e2⟩ : ∃ x, l.getD k 0 = x := ⟨_, rfl⟩
  obtain ⟨x3, e3⟩ : ∃ x, o.getD k 0 = x := ⟨_, rfl⟩
  obtain ⟨x4, e4⟩ : ∃ x, n.getD k 0 = x := ⟨_, rfl⟩
  rw [e0, e1, e2, e3, e4]
  have E0 := Lib.hid e0; have E1 := Lib.hid e1; have E2 := Lib.hid e2; have E3 := Lib.hid e3; have E4 := Lib.hid e4
  obtain ⟨p, c, rfl, hcap, hi⟩ := h.r5
  obtain ⟨N, hN⟩ : ∃ N, b.length = N := ⟨_, rfl⟩
  have HFIN := Lib.hid (heap_alloc_new w (Obj.cells (stV 0 x0 x1 x2 x3 x4 (b.getD k false)) 32))
  have hlb := h.l5
  rw [hN] at hlb hcap
  clear hW0 hx hb0 e0 e1 e2 e3 e4 h
  have A0 := Lib.hid (at15v W0 v0 g k HX.out.r0 HX.out.a0 HX.out.l0 hk)
  have A1 := Lib.hid (at15v W0 v1 s k HX.out.r1 HX.out.a1 HX.out.l1 hk)
  have A2 := Lib.hid (at15v W0 v2 l k HX.out.r2 HX.out.a2 HX.out.l2 hk)
  have A3 := Lib.hid (at15v W0 v3 o k HX.out.r3 HX.out.a3 HX.out.l3 hk)
  have A4 := Lib.hid (at15v W0 v4 n k HX.out.r4 HX.out.a4 HX.out.l4 hk)
  rw [E0.out] at A0; rw [E1.out] at A1; rw [E2.out] at A2; rw [E3.out] at A3; rw [E4.out] at A4
  clear HX E0 E1 E2 E3 E4
  by_cases hlt : k < N
  · obtain ⟨a, rfl, hc⟩ := hi k (by omega)
    obtain ⟨y, hy⟩ : ∃ y, b.getD k false = y := ⟨_, rfl⟩
    rw [hy] at hc HFIN ⊢
    have hab : (a.add k).block < w.heap.size := block_lt_of_cell hc
    rw [hN]
    clear hi hN hy HB0
    go_enter Tryd.func11, Tryd.ntmps11
    go_wp2_with fail
    rw [HW0.out]
    refine (A0.out).mono ?_
    rintro e w1 ⟨rfl, rfl⟩
    dsimp only
    go_wp2_with fail
    refine (A1.out).mono ?_
    rintro e w1 ⟨rfl, rfl⟩
    dsimp only
    go_wp2_with fail
    refine (A2.out).mono ?_
    rintro e w1 ⟨rfl, rfl⟩
    dsimp only
    go_wp2_with fail
    refine (A3.out).mono ?_
    rintro e w1 ⟨rfl, rfl⟩
    dsimp only
    go_wp2_with fail
    refine (A4.out).mono ?_
    rintro e w1 ⟨rfl, rfl⟩
    dsimp only
    rw [← HW0.out]
    go_wp2_with fail
    refine bodyPost_ret (results_cell_row rfl _ _ w.heap.size 32 (stV 0 x0 x1 x2 x3 x4 y) (0, 0) _ rfl ?_ Tryd.underlying32 rfl (by kernel_rfl)) rfl ⟨rfl, (Below.refl _ _).alloc (Nat.le_refl _) _⟩
    exact HFIN.out
  · have h0 : b.getD k false = false := by simp [List.getD, show b.length ≤ k by omega]
    rw [h0] at HFIN ⊢
    rw [hN]
    clear hi hN h0 HB0
    go_enter Tryd.func11, Tryd.ntmps11
    go_wp2_with fail
    rw [HW0.out]
    refine (A0.out).mono ?_
    rintro e w1 ⟨rfl, rfl⟩
    dsimp only
    go_wp2_with fail
    refine (A1.out).mono ?_
    rintro e w1 ⟨rfl, rfl⟩
    dsimp only
    go_wp2_with fail
    refine (A2.out).mono ?_
    rintro e w1 ⟨rfl, rfl⟩
    dsimp only
    go_wp2_with fail
    refine (A3.out).mono ?_
    rintro e w1 ⟨rfl, rfl⟩
    dsimp only
    go_wp2_with fail
    refine (A4.out).mono ?_
    rintro e w1 ⟨rfl, rfl⟩
    dsimp only
    rw [← HW0.out]
    go_wp2_with fail
    refine bodyPost_ret (results_cell_row rfl _ _ w.heap.size 32 (stV 0 x0 x1 x2 x3 x4 false) (0, 0) _ rfl ?_ Tryd.underlying32 rfl (by kernel_rfl)) rfl ⟨rfl, (Below.refl _ _).alloc (Nat.le_refl _) _⟩
    exact HFIN.out
end Go.Proofs.YtlplikpjnocdfaaDoor
